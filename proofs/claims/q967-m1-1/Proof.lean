import JvmDerived
import JvmDerived.Pilot.@@N@@Statement
import JvmDerived.Pilot.@@N@@Code
set_option linter.unusedVariables false
set_option linter.unusedSimpArgs false
@@BLOCK:NumsL.lean.txt@@
namespace Jvm.Pilot.@@N@@
open Jvm Jvm.ClassFile Sem Op Lib Jvm.Free Jvm.Stand Jvm.LawKit Jvm.RoadKit Bundle Jvm.Pilot.@@N@@.Jvm.D
section Own
variable {p : Program} {l : Launch} {e : Env} {R : Room} {s : State} {m : MethodId} {args : Array Value} {below : List Frame} {meth : Method} {c : Code} {T : State} {locs : List Loc} {cells slots : Nat} {Z : State} {h h' : Heap}
/-- the run goes on from S to a state of which F holds -/
def Goes (tb : Tables) (e : Env) (below : List Frame) (F : State → Prop) (S : State) : Prop := ∃ t, Steps tb e below S t ∧ F t
theorem Goes.via {tb : Tables} {F : State → Prop} {S S' : State} (q : ∀ t, Steps tb e below S' t → Steps tb e below S t) (g : Goes tb e below F S') : Goes tb e below F S := by
  obtain ⟨t, a, b⟩ := g
  exact ⟨t, q t a, b⟩
/-- what a body leaves -/
def Fin (s : State) (below : List Frame) (Q : Option Value → Heap → List Loc → Prop) (C S : Nat) (t : State) : Prop := ∃ o, t.status = .running ∧ Ended t below o ∧ ∃ v L, o = .returned v ∧ Q v t.heap L ∧ FrameEnd s o t L C S
theorem own_start {tb : Tables} {Q : Option Value → Heap → List Loc → Prop} {C S : Nat} {S0 : State} (g : Goes tb e below (Fin s below Q C S) S0) : ∃ s₂ o, Steps tb e below S0 s₂ ∧ s₂.status = .running ∧ Ended s₂ below o ∧ ∃ v L, o = .returned v ∧ Q v s₂.heap L ∧ FrameEnd s o s₂ L C S := by
  obtain ⟨t, a, o, b, d, r⟩ := g
  exact ⟨t, o, a, b, d, r⟩
theorem own_ret (X : Stand p l e R s m args below meth c T locs cells slots) (hx : p.tables.exec = Jvm.exec) {pc : Nat} {Ls : Array Slot} {w : Value} {t : FieldType} {i : Instr} {rest : List Value} (hlk : meth.locks = false) (hret : meth.sig.returnType = some t) (hn : narrow t w = w)
    (hi : (i = .ireturn ∧ (t = .int ∨ t = .boolean ∨ t = .byte ∨ t = .char ∨ t = .short) ∧ ∃ z, w = .int z) ∨ (i = .lreturn ∧ t = .long ∧ ∃ z, w = .long z) ∨ (i = .dreturn ∧ t = .double ∧ ∃ z, w = .double z) ∨ (i = .freturn ∧ t = .float ∧ ∃ z, w = .float z) ∨ (i = .areturn ∧ t.isReference = true ∧ w.isRef = true))
    (hd : decode c.code pc = .ok (i, 1)) {Q : Option Value → Heap → List Loc → Prop} {C S : Nat} (eT : T.heap = h) (hQ : Q (some w) h locs) (hc : cells ≤ C) (hs : slots ≤ S) : Goes p.tables e below (Fin s below Q C S) (T.setTop (mkF m pc Ls (w :: rest))) := by
  obtain ⟨fs, hr, hrun, hended, hW, hsame⟩ := X.leave (v := some w) (fun q => by rw [hret] at q; cases q) hlk
  exact ⟨_, retOut X hx hret hn hi hd hr, _, hrun, hended, _, _, rfl, (by show Q (some w) T.heap locs; rw [eT]; exact hQ), ⟨_, rfl⟩, hW, hsame.mono hc hs⟩
theorem own_retV (X : Stand p l e R s m args below meth c T locs cells slots) (hx : p.tables.exec = Jvm.exec) {pc : Nat} {Ls : Array Slot} (hlk : meth.locks = false) (hret : meth.sig.returnType = none)
    (hd : decode c.code pc = .ok (.return_, 1)) {Q : Option Value → Heap → List Loc → Prop} {C S : Nat} (eT : T.heap = h) (hQ : Q none h locs) (hc : cells ≤ C) (hs : slots ≤ S) : Goes p.tables e below (Fin s below Q C S) (T.setTop (mkF m pc Ls [])) := by
  obtain ⟨fs, hr, hrun, hended, hW, hsame⟩ := X.leave (v := none) (fun _ => rfl) hlk
  exact ⟨_, X.returnOut hx hret hd hr, _, hrun, hended, _, _, rfl, (by show Q none T.heap locs; rw [eT]; exact hQ), ⟨_, rfl⟩, hW, hsame.mono hc hs⟩
theorem own_b1 {P : Prop} [Decidable P] {v : Int32} (hv : v = if P then 1 else 0) (q : P) : ¬ v = 0 := by rw [hv, if_pos q]; decide
theorem own_b0 {P : Prop} [Decidable P] {v : Int32} (hv : v = if P then 1 else 0) (q : ¬ P) : v = 0 := by rw [hv, if_neg q]
theorem own_beq {P P' : Prop} [Decidable P] [Decidable P'] {v v' : Int32} (hv : v = if P then 1 else 0) (hv' : v' = if P' then 1 else 0) (q : P ↔ P') : v = v' := by rw [hv, hv']; simp [q]
theorem own_nb {P : Prop} [Decidable P] {v : Int32} (hv : v = if P then 1 else 0) : narrow .boolean (.int v) = .int v := by rw [hv]; split <;> rfl
theorem own_nb2 {P : Prop} [Decidable P] {v : Int32} (hv : v = if P then 1 else 0) : nar .boolean v = v := by rw [hv]; split <;> rfl
theorem own_lt {x y : Int64} (q : x < y) : lcmpW x y < 0 := (lw_lt x y).mpr q
theorem own_nlt {x y : Int64} (q : ¬ x < y) : ¬ lcmpW x y < 0 := fun r => q ((lw_lt x y).mp r)
theorem own_gt {x y : Int64} (q : y < x) : 0 < lcmpW x y := (lw_gt x y).mpr q
theorem own_ngt {x y : Int64} (q : ¬ y < x) : ¬ 0 < lcmpW x y := fun r => q ((lw_gt x y).mp r)
theorem own_eq {x y : Int64} (q : x = y) : lcmpW x y = 0 := (lw_eq x y).mpr q
theorem own_neq {x y : Int64} (q : ¬ x = y) : ¬ lcmpW x y = 0 := fun r => q ((lw_eq x y).mp r)
theorem own_staKeep {C n d : String} {v : Value} {ws : List Addr} (F : Sta Z h C n d v) (K : Keep h h' ws) (q : ∀ x ∈ ws, ∀ cc : Cell, h[x]? = some cc → cc.vm.isStatics = false) : Sta Z h' C n d v := by
  obtain ⟨cf, i, k, f, st, cell, h1, h2, h3, h4, h5, h6, h7⟩ := F
  exact ⟨cf, i, k, f, st, cell, h1, h2, h3, h4, K.2.1 st cell h5 (fun r => by rw [q st r cell h5] at h6; cases h6), h6, h7⟩
theorem own_nst {a : Addr} {C : String} (F : Exa Z h a C) : ∀ cc : Cell, h[a]? = some cc → cc.vm.isStatics = false := fun cc q => by
  obtain ⟨c1, k, h1, -, -, h4, -⟩ := F
  cases h1.symm.trans q
  exact h4
theorem own_nstV {a : Addr} {k : ClassId} {ty : FieldType} {n : Int32} {vs : List Value} {dv : Value} (F : Arv Z h a k ty n vs dv) : ∀ cc : Cell, h[a]? = some cc → cc.vm.isStatics = false := fun cc q => by
  obtain ⟨c1, A, -⟩ := F
  cases A.1.symm.trans q
  exact A.plain
theorem own_fval {a : Addr} {C n d : String} {v w : Value} (q : v = w) (F : Fld Z h a C n d v) : Fld Z h a C n d w := q ▸ F
theorem own_exS {a0 : Array Value} {C n d K : String} (q : (Cond.exactly (Term.static C n d) K).value a0 Z none Z [] = some true) (wi : (Cond.initialized C).before a0 Z = true) (wl : (Cond.laysStatic C n d).before a0 Z = true) : ∃ a, Sta Z Z.heap C n d (.ref a) ∧ Exa Z Z.heap a K ∧ (Term.static C n d).eval a0 Z none [] Z = some (.ref a) := by
  obtain ⟨a, c', cell, k, e1, -⟩ := Cond.exactly_spec (Cond.before_iff.mpr q)
  exact ⟨a, Sta.start e1 (Or.inr ⟨wi, wl⟩), Exa.start e1 q, e1⟩
theorem own_eqI {a0 : Array Value} {t : Term} {k : Int32} (q : (Cond.eq t (Term.int k)).value a0 Z none Z [] = some true) : t.eval a0 Z none [] Z = some (.int k) := by
  simp only [Cond.value] at q
  split at q <;> simp_all [Term.int_eval]
theorem own_fldI {a0 : Array Value} {t : Term} {O n d : String} {k : Int32} {a : Addr} (ev : t.eval a0 Z none [] Z = some (.ref a)) (q : (Cond.eq (Term.field t O n d) (Term.int k)).value a0 Z none Z [] = some true) : Fld Z Z.heap a O n d (.int k) := by
  have r : (Term.field t O n d).eval a0 Z none [] Z = some (.int k) := own_eqI q
  refine Fld.start ?_
  simpa [Term.eval, ev] using r
theorem own_intne {x y : Int32} (q : ¬ x = y) : Value.int x ≠ Value.int y := fun r => q (Value.int.inj r)
theorem own_fldN {a0 : Array Value} {t : Term} {O n d : String} {a : Addr} (ev : t.eval a0 Z none [] Z = some (.ref a)) (q : (Cond.eq (Term.field t O n d) Term.null).value a0 Z none Z [] = some true) : Fld Z Z.heap a O n d .null := by
  have r : (Term.field t O n d).eval a0 Z none [] Z = some .null := by
    have e0 : Term.null.eval a0 Z none [] Z = some .null := rfl
    simp only [Cond.value, e0] at q
    split at q <;> simp_all
  refine Fld.start ?_
  simpa [Term.eval, ev] using r
theorem own_nz {x : Int32} (q : x = 0 ∨ x = 1) : narrow .boolean (.int x) = .int x := by rcases q with rfl | rfl <;> rfl
theorem own_fz {x : Int32} (q : x = 0 ∨ x = 1) : fits .boolean (.int x) = true := by rcases q with rfl | rfl <;> rfl
theorem own_b01 {P : Prop} [Decidable P] {v : Int32} (hv : v = if P then 1 else 0) : v = 0 ∨ v = 1 := by rw [hv]; split <;> simp
theorem own_narR {C : String} {v : Value} (q : v.isRef = true) : narrow (.object C) v = v := by rcases ref_cases q with r | ⟨_, r⟩ <;> rw [r] <;> rfl
theorem own_fitR {C : String} {v : Value} (q : v.isRef = true) : fits (.object C) v = true := by rcases ref_cases q with r | ⟨_, r⟩ <;> rw [r] <;> rfl
theorem own_lenAt {a0 : Array Value} {t : Term} {k : Int32} {a : Addr} {cl : Cell} (ev : t.eval a0 Z none [] Z = some (.ref a)) (hA : Z.arrayAt? a = some cl) (q : (Term.length t).eval a0 Z none [] Z = some (.int k)) : cl.slots.size < 2 ^ 31 ∧ cl.slots.size.toInt32 = k := by
  by_cases hl : cl.slots.size < 2 ^ 31
  · rw [len_f ev hA hl] at q
    exact ⟨hl, Value.int.inj (Option.some.inj q)⟩
  · simp [Term.eval, ev, hA, hl] at q
end Own
def own_Cache (Z : State) (h : Heap) (yc : Addr) : Prop := ∀ x : Int64, ¬ x < (-128 : Int64) → ¬ (127 : Int64) < x → ∃ (cl : Cell) (b : Addr), Arr Z h yc cl (.object "java/lang/Long") ∧ ¬ ((x.toInt32 + (128 : Int32)) < 0 ∨ cl.slots.size ≤ (x.toInt32 + (128 : Int32)).toNatClampNeg) ∧ cl.slots[(x.toInt32 + (128 : Int32)).toNatClampNeg]? = some (.ref b) ∧ Exa Z h b "java/lang/Long"
theorem own_cacheKeep {Z : State} {h h' : Heap} {yc : Addr} (K : Keep h h' []) (q : own_Cache Z h yc) : own_Cache Z h' yc := fun x h1 h2 => by
  obtain ⟨cl, b, A, i, a, E⟩ := q x h1 h2
  exact ⟨cl, b, ⟨K.2.1 yc cl A.1 nin0, A.2⟩, i, a, E.keep K⟩
theorem own_cacheStart {Z : State} {a0 : Array Value} {cc : Cond} (w1 : (Cond.initializedFor "java/lang/Long$LongCache" "cache" "[Ljava/lang/Long;").before a0 Z = true) (w2 : (Cond.arrayOf (Term.static "java/lang/Long$LongCache" "cache" "[Ljava/lang/Long;") (.object "java/lang/Long")).before a0 Z = true) (w3 : (Cond.exactly (Term.static "java/lang/Long$LongCache" "cache" "[Ljava/lang/Long;") "[Ljava/lang/Long;").before a0 Z = true)
    (w4 : (Cond.eq (Term.length (Term.static "java/lang/Long$LongCache" "cache" "[Ljava/lang/Long;")) (Term.int (256 : Int32))).before a0 Z = true) (w5 : (Cond.all (Term.static "java/lang/Long$LongCache" "cache" "[Ljava/lang/Long;") (Cond.and (Cond.exactly (Term.elem (Term.static "java/lang/Long$LongCache" "cache" "[Ljava/lang/Long;") (Term.index (0 : Nat))) "java/lang/Long") cc)).before a0 Z = true) :
    ∃ yc, Sta Z Z.heap "java/lang/Long$LongCache" "cache" "[Ljava/lang/Long;" (.ref yc) ∧ own_Cache Z Z.heap yc := by
  obtain ⟨yc, c', cell, k, e1, -⟩ := Cond.exactly_spec w3
  obtain ⟨cl, A⟩ := Arr.start e1 (Cond.before_iff.mp w2)
  have hA : Z.arrayAt? yc = some cl := IntBox.arrayAt_of A.1 A.2.1 A.2.2
  have hsz : 256 ≤ cl.slots.size := by
    obtain ⟨l1, l2⟩ := own_lenAt e1 hA (own_eqI (Cond.before_iff.mp w4))
    have h2 := len_toInt l1
    rw [l2] at h2
    have c0 : (256 : Int32).toInt = 256 := rfl
    omega
  refine ⟨yc, Sta.start e1 (Or.inl w1), fun x hx1 hx2 => ?_⟩
  have c1 : (-128 : Int64).toInt = -128 := rfl
  have c2 : (127 : Int64).toInt = 127 := rfl
  have c3 : (128 : Int32).toInt = 128 := rfl
  have c4 : (0 : Int32).toInt = 0 := rfl
  rw [Int64.lt_iff_toInt_lt, c1] at hx1
  rw [Int64.lt_iff_toInt_lt, c2] at hx2
  have t1 : x.toInt32.toInt = x.toInt := Jvm.Kit.i32_of_i64 (by omega) (by omega)
  have t2 : (x.toInt32 + (128 : Int32)).toInt = x.toInt + 128 := by rw [Jvm.Kit.i32_add (by omega) (by omega), t1, c3]
  have hj : ¬ (x.toInt32 + (128 : Int32)) < 0 := by rw [Int32.lt_iff_toInt_lt, t2, c4]; omega
  have hi : (x.toInt32 + (128 : Int32)).toNatClampNeg < cl.slots.size := by simp only [Int32.toNatClampNeg, t2]; omega
  obtain ⟨q1, -⟩ := and_e (Cond.all_elim e1 hA (Cond.before_iff.mp w5) _ hi)
  have e2 : (Term.static "java/lang/Long$LongCache" "cache" "[Ljava/lang/Long;").eval a0 Z none [(x.toInt32 + (128 : Int32)).toNatClampNeg] Z = some (.ref yc) := by simpa only [Term.eval] using e1
  have el := elem_f e2 (idx_at hj) hA hj
  obtain ⟨b, _, _, _, e3, -⟩ := Cond.exactly_spec (t := Term.elem (Term.static "java/lang/Long$LongCache" "cache" "[Ljava/lang/Long;") (Term.index 0)) (cls := "java/lang/Long") (args := a0) (first := Z) (o := none) (s := Z) (idx := [(x.toInt32 + (128 : Int32)).toNatClampNeg]) (by simp only [Cond.holds, q1]; rfl)
  exact ⟨cl, b, A, fun q => q.elim hj (fun r => absurd hi (Nat.not_lt.mpr r)), el.symm.trans e3, exa_at e3 q1⟩
theorem own_notL {Z : State} {a0 : Array Value} {K : String} {n : Nat} (w1 : (Cond.superclass "java/lang/Long" "java/lang/Number").before a0 Z = true) (w2 : (Cond.superclass "java/lang/Number" "java/lang/Object").before a0 Z = true) (w3 : (Cond.noSuperclass "java/lang/Object").before a0 Z = true) (wk : (Cond.instantiable K n).before a0 Z = true)
    (n1 : "java/lang/Long" ≠ K) (n2 : "java/lang/Number" ≠ K) (n3 : "java/lang/Object" ≠ K) : ∃ c t, Z.vm.findClass "java/lang/Long" = some c ∧ Z.vm.findClass K = some t ∧ Z.vm.assignable c t = false := by
  obtain ⟨t, kt, g1, g2, g3, g4, -⟩ := Cond.instantiable_spec wk
  have r : NS Z "java/lang/Object" K := by
    obtain ⟨c, k, h1, h2, h3, -, -⟩ := Cond.noSuperclass_spec w3
    have ne := ids_ne h1 g1 n3
    refine ⟨c, t, h1, g1, fun fuel => ?_⟩
    cases fuel with
    | zero => rfl
    | succ f => simp [Vm.isSubclassAux, ne, h2, h3]
  obtain ⟨c, t', h0, g0, m3⟩ := NS.step w1 (NS.step w2 r n2) n1
  cases g1.symm.trans g0
  obtain ⟨p, k, kp, h1, h2, h3, h4, h5, -, h7⟩ := Cond.superclass_spec h0 w1
  have ne := ids_ne h0 g0 n1
  have g5 : kt.isInterface = false := by
    have := g4
    simp only [Bool.or_eq_false_iff] at this
    exact this.1
  refine ⟨c, t, h0, g0, ?_⟩
  show Z.vm.assignableAux (255 + 1) c t = false
  simp [Vm.assignableAux, ne, h2, g2, h5, g3, g5, Vm.isSubclass, m3]
theorem own_sym4 {a b c d a' b' c' d' : Int64} : (a' = a ∧ b' = b ∧ c' = c ∧ d' = d) ↔ (a = a' ∧ b = b' ∧ c = c' ∧ d = d') := ⟨fun ⟨h1, h2, h3, h4⟩ => ⟨h1.symm, h2.symm, h3.symm, h4.symm⟩, fun ⟨h1, h2, h3, h4⟩ => ⟨h1.symm, h2.symm, h3.symm, h4.symm⟩⟩
theorem own_bit (s : Int32) (k : Int32) {n : Nat} (hk : ((k &&& 31).toBitVec.smod 32).toNat = n) : (((s >>> (k &&& 31)) &&& (1 : Int32)) = (0 : Int32)) ↔ (s.toInt / 2 ^ n) % 2 = 0 := by
  rw [← Int32.toInt_inj, Jvm.Kit.i32_mask (s >>> (k &&& 31)) 1 (k := 1) (by decide) (by decide), Jvm.Kit.i32_shr s (k &&& 31) hk]
  have c0 : (0 : Int32).toInt = 0 := rfl
  rw [c0]
  omega
theorem own_m15 (s : Int32) : ((s &&& (15 : Int32)) = (0 : Int32)) ↔ s.toInt % 16 = 0 := by
  rw [← Int32.toInt_inj, Jvm.Kit.i32_mask s 15 (k := 4) (by decide) (by decide)]
  have c0 : (0 : Int32).toInt = 0 := rfl
  rw [c0]
  omega
theorem own_add0 (x d : Int64) : (x = x + d) ↔ d = 0 := by
  constructor
  · intro h
    have := congrArg (fun z => z - x) h
    grind
  · intro h
    subst h
    simp
theorem own_abt {s : Int32} {a b c e d a' b' c' e' : Int64} (h0 : a' = if ((s >>> ((0 : Int32) &&& 31)) &&& (1 : Int32)) = (0 : Int32) then a else a + d) (h1 : b' = if ((s >>> ((1 : Int32) &&& 31)) &&& (1 : Int32)) = (0 : Int32) then b else b + d) (h2 : c' = if ((s >>> ((2 : Int32) &&& 31)) &&& (1 : Int32)) = (0 : Int32) then c else c + d) (h3 : e' = if ((s >>> ((3 : Int32) &&& 31)) &&& (1 : Int32)) = (0 : Int32) then e else e + d) :
    (a = a' ∧ b = b' ∧ c = c' ∧ e = e') ↔ ((s &&& (15 : Int32)) = (0 : Int32) ∨ d = (0 : Int64)) := by
  have k0 := own_bit s 0 (n := 0) (by decide)
  have k1 := own_bit s 1 (n := 1) (by decide)
  have k2 := own_bit s 2 (n := 2) (by decide)
  have k3 := own_bit s 3 (n := 3) (by decide)
  have key : ∀ (x x' : Int64) (Q : Prop) [Decidable Q], x' = (if Q then x else x + d) → ((x = x') ↔ (Q ∨ d = 0)) := by
    intro x x' Q _ h
    subst h
    by_cases q : Q
    · simp [q]
    · simp only [q, if_false, false_or]
      exact own_add0 x d
  rw [key a a' _ h0, key b b' _ h1, key c c' _ h2, key e e' _ h3, k0, k1, k2, k3, own_m15]
  by_cases hd : d = 0
  · simp [hd]
  · simp only [hd, or_false]
    omega

theorem pd_0 : parseMethodDescriptor "()V" = some ⟨[], none⟩ := by decide +kernel
theorem pd_1 : parseMethodDescriptor "(J)V" = some ⟨[.long], none⟩ := by decide +kernel
theorem pd_2 : parseMethodDescriptor "(JIIJ)J" = some ⟨[.long, .int, .int, .long], some .long⟩ := by decide +kernel
theorem pd_3 : parseMethodDescriptor "(JJJJ)V" = some ⟨[.long, .long, .long, .long], none⟩ := by decide +kernel
theorem pd_4 : parseMethodDescriptor "(J)Ljava/lang/Long;" = some ⟨[.long], some (.object "java/lang/Long")⟩ := by decide +kernel
theorem pd_5 : parseMethodDescriptor "(Ljava/lang/Object;)Z" = some ⟨[(.object "java/lang/Object")], some .boolean⟩ := by decide +kernel
theorem pn_3 : plainName "java/lang/Number" = true := by first | (simp [plainName, overriddenIn]; done) | decide +kernel
theorem pn_10 : plainName "java/lang/Long" = true := by first | (simp [plainName, overriddenIn]; done) | decide +kernel
theorem pn_45 : plainName "com/example/eolog/eolog/producer/AbortedTransactionEqualsPinLaw" = true := by first | (simp [plainName, overriddenIn]; done) | decide +kernel
theorem pn_61 : plainName "com/example/eolog/eolog/producer/AbortedTransaction" = true := by first | (simp [plainName, overriddenIn]; done) | decide +kernel
theorem d7_0 : decode jdk_18_method_1_code 0 = .ok (.aload_n 0, 1) := by decide +kernel
theorem d7_1 : decode jdk_18_method_1_code 1 = .ok (.invokespecial 1, 3) := by decide +kernel
theorem d7_4 : decode jdk_18_method_1_code 4 = .ok (.return_, 1) := by decide +kernel
theorem ef_7 (m : MethodId) (xa : Addr) : entryFrame m #[(.ref xa)] 1 = mkF m 0 #[.val (.ref xa)] [] := by first | (simp [entryFrame, mkF, argsToLocals, Value.category]; done) | rfl
def Q7 (Z : State) (xa : Addr) (h0 : Heap) (n0 : Nat) (v : Option Value) (h : Heap) (L : List Loc) : Prop := v = none ∧ Fr n0 L ∧ h = h0
set_option maxRecDepth 65536 in
set_option maxHeartbeats 40000000 in
theorem rm7 (l : Launch) (Z : State) (a0 : Array Value) (hw : ∀ d ∈ tables_1, d.before a0 Z = true) (ws : List Jvm.Cond) (xa : Addr) (h0 : Heap) (n0 : Nat) (Z0 : n0 ≤ h0.size) :
    MetFree l (⟨"java/lang/Number", "<init>", "()V"⟩ : MethodName) (head1 (Jvm.Cond.code (⟨"java/lang/Number", "<init>", "()V"⟩ : MethodName) jdk_18_method_1_code 1 none :: ws) ({ frames := 1, cells := 0, slots := 0, locals := 12 } : Room)) (fun a U => a = #[(.ref xa)] ∧ Z.Warmed39 U.vm ∧ U.heap = h0) (fun _ _ _ _ _ => True) (fun _ U o U' => ∃ v L, o = .returned v ∧ Q7 Z xa h0 n0 v U'.heap L ∧ FrameEnd U o U' L 0 0) := by
  refine MetFree.of_bodySF (plainFor_of_name pn_3) hisR ?_
  intro p e s m args below meth c s₁ Bd hml0 hP hK
  obtain ⟨rfl, hZ, hh⟩ := hP
  have hx := Bd.exec
  have hby := Bd.bytes
  have hml : c.maxLocals = 1 := hml0
  have hown : s.vm.findClass "java/lang/Number" = some m.cls := findClass_of_methodNamed Bd.named
  have hnm := (name_of_methodNamed Bd.named Bd.method).1
  have X0 : Stand p l e ({ frames := 1, cells := 0, slots := 0, locals := 12 } : Room) s m #[(.ref xa)] below meth c s₁ [] 0 0 := Stand.of_body Bd
  have e0 : s₁.heap = h0 := by rw [← hh, Bd.state]; rfl
  have N0 := Fr.nil n0
  refine own_start (Q := fun v h L => Q7 Z xa h0 n0 v h L) ?_
  refine Goes.via (S' := (s₁.setTop (mkF m 0 #[.val (.ref xa)] []))) (fun t k => castTop (ef_7 m xa) k) ?_
  refine Goes.via (S' := (s₁.setTop (mkF m 1 #[.val (.ref xa)] [(.ref xa)]))) (fun t k => XS.aloadN X0.here hx rfl (hb hby d7_0) rfl rfl k) ?_
  obtain ⟨T1, X1, e1, st1⟩ := initO X0 hx hZ hown (hw _ (List.mem_of_getElem? (i := 51) rfl)) (hw _ (List.mem_of_getElem? (i := 11) rfl)) (hw _ (List.mem_of_getElem? (i := 12) rfl)) e0 (g := (mkF m 1 #[.val (.ref xa)] [(.ref xa)])) rfl (by rw [hml]; rfl) rfl (hb hby d7_1) (by decide) (W := 0) (by show 2 * 0 + _ ≤ _; exact Nat.le_of_eq rfl) (by decide)
  refine Goes.via (S' := (T1.setTop (mkF m 4 #[.val (.ref xa)] []))) (fun t k => st1 _ k) ?_
  exact own_retV X1 hx Bd.notSynchronized Bd.returns (hb hby d7_4) e1 ⟨rfl, N0, rfl⟩ (by decide) (by decide)
theorem d6_0 : decode jdk_35_method_26_code 0 = .ok (.aload_n 0, 1) := by decide +kernel
theorem d6_1 : decode jdk_35_method_26_code 1 = .ok (.invokespecial 270, 3) := by decide +kernel
theorem d6_4 : decode jdk_35_method_26_code 4 = .ok (.aload_n 0, 1) := by decide +kernel
theorem d6_5 : decode jdk_35_method_26_code 5 = .ok (.lload_n 1, 1) := by decide +kernel
theorem d6_6 : decode jdk_35_method_26_code 6 = .ok (.putfield 273, 3) := by decide +kernel
theorem d6_9 : decode jdk_35_method_26_code 9 = .ok (.return_, 1) := by decide +kernel
theorem ef_6 (m : MethodId) (xa : Addr) (q1 : Int64) : entryFrame m #[(.ref xa), (.long q1)] 3 = mkF m 0 #[.val (.ref xa), .val (.long q1), .second] [] := by first | (simp [entryFrame, mkF, argsToLocals, Value.category]; done) | rfl
def Q6 (Z : State) (xa : Addr) (q1 : Int64) (u : Value) (h0 : Heap) (n0 : Nat) (v : Option Value) (h : Heap) (L : List Loc) : Prop := v = none ∧ Fr n0 L ∧ Keep h0 h [xa] ∧ Exa Z h xa "java/lang/Long" ∧ Fld Z h xa "java/lang/Long" "value" "J" (.long q1)
set_option maxRecDepth 65536 in
set_option maxHeartbeats 40000000 in
theorem rm6 (l : Launch) (Z : State) (a0 : Array Value) (hw : ∀ d ∈ tables_1, d.before a0 Z = true) (ws : List Jvm.Cond) (xa : Addr) (q1 : Int64) (u : Value) (h0 : Heap) (n0 : Nat) (Z0 : n0 ≤ h0.size) (f0_xa : Exa Z h0 xa "java/lang/Long") (f1_xa_value : Fld Z h0 xa "java/lang/Long" "value" "J" u) (g_xa : n0 ≤ xa) :
    MetFree l (⟨"java/lang/Long", "<init>", "(J)V"⟩ : MethodName) (head1 (Jvm.Cond.code (⟨"java/lang/Long", "<init>", "(J)V"⟩ : MethodName) jdk_35_method_26_code 3 none :: ws) ({ frames := 2, cells := 0, slots := 0, locals := 24 } : Room)) (fun a U => a = #[(.ref xa), (.long q1)] ∧ Z.Warmed39 U.vm ∧ U.heap = h0) (fun _ _ _ _ _ => True) (fun _ U o U' => ∃ v L, o = .returned v ∧ Q6 Z xa q1 u h0 n0 v U'.heap L ∧ FrameEnd U o U' L 0 0) := by
  refine MetFree.of_bodySF (plainFor_of_name pn_10) hisR ?_
  intro p e s m args below meth c s₁ Bd hml0 hP hK
  obtain ⟨rfl, hZ, hh⟩ := hP
  have hx := Bd.exec
  have hby := Bd.bytes
  have hml : c.maxLocals = 3 := hml0
  have hown : s.vm.findClass "java/lang/Long" = some m.cls := findClass_of_methodNamed Bd.named
  have hnm := (name_of_methodNamed Bd.named Bd.method).1
  have X0 : Stand p l e ({ frames := 2, cells := 0, slots := 0, locals := 24 } : Room) s m #[(.ref xa), (.long q1)] below meth c s₁ [] 0 0 := Stand.of_body Bd
  have e0 : s₁.heap = h0 := by rw [← hh, Bd.state]; rfl
  have N0 := Fr.nil n0
  refine own_start (Q := fun v h L => Q6 Z xa q1 u h0 n0 v h L) ?_
  refine Goes.via (S' := (s₁.setTop (mkF m 0 #[.val (.ref xa), .val (.long q1), .second] []))) (fun t k => castTop (ef_6 m xa q1) k) ?_
  refine Goes.via (S' := (s₁.setTop (mkF m 1 #[.val (.ref xa), .val (.long q1), .second] [(.ref xa)]))) (fun t k => XS.aloadN X0.here hx rfl (hb hby d6_0) rfl rfl k) ?_
  obtain ⟨_, _, ⟨T1, L1, k1, n1⟩, -, X1, ⟨Lc1, hQ1, l1, y1, z1⟩, st1⟩ := X0.specialBack hx (y := (⟨"java/lang/Number", "<init>", "()V"⟩ : MethodName)) rfl hown (mvT hZ (hw _ (List.mem_of_getElem? (i := 45) rfl))) (mvT hZ (hw _ (List.mem_of_getElem? (i := 46) rfl))) (mvT hZ (hw _ (List.mem_of_getElem? (i := 50) rfl))) (by decide) (backOf (W := 0) (rm7 l Z a0 hw [] xa h0 n0 Z0 ) hZ (hw _ (List.mem_of_getElem? (i := 50) rfl)) (hw _ (List.mem_of_getElem? (i := 49) rfl)) (by decide) (by decide)) (g := (mkF m 1 #[.val (.ref xa), .val (.long q1), .second] [(.ref xa)])) rfl (by rw [hml]; rfl) (Steps.refl _) (a := xa) (argsL := []) (rest := []) (lenOf pd_0 rfl) rfl (by show 2 * 0 + _ ≤ _; exact Nat.le_of_eq rfl) (hb hby d6_1) (fun _ _ => ⟨rfl, e0, (by decide : 0 + 0 ≤ _), (by decide : 0 + 0 ≤ _)⟩)
  dsimp only [Pt.U, Pt.locs, Pt.cells, Pt.slots] at X1 l1 y1 z1 st1 hQ1
  subst l1 y1 z1
  obtain ⟨rfl, N1q, eq1⟩ := hQ1
  have N1 := Fr.app N0 N1q
  refine Goes.via (S' := (T1.setTop (mkF m 4 #[.val (.ref xa), .val (.long q1), .second] []))) (fun t k => st1.trans k) ?_
  refine Goes.via (S' := (T1.setTop (mkF m 5 #[.val (.ref xa), .val (.long q1), .second] [(.ref xa)]))) (fun t k => XS.aloadN X1.here hx rfl (hb hby d6_4) rfl rfl k) ?_
  refine Goes.via (S' := (T1.setTop (mkF m 6 #[.val (.ref xa), .val (.long q1), .second] [(.long q1), (.ref xa)]))) (fun t k => XS.lloadN X1.here hx rfl (hb hby d6_5) rfl k) ?_
  obtain ⟨T2, h2, X2, e2, W2, st2⟩ := putF X1 hx hZ hown (host := "") (Or.inl (hw _ (List.mem_of_getElem? (i := 52) rfl))) Via.refl eq1 f1_xa_value f0_xa (Or.inr ⟨(hw _ (List.mem_of_getElem? (i := 53) rfl)), rfl, hnm⟩) (hw _ (List.mem_of_getElem? (i := 40) rfl)) (ty := .long) (by decide) rfl rfl (g := (mkF m 6 #[.val (.ref xa), .val (.long q1), .second] [(.long q1), (.ref xa)])) rfl rfl (hb hby d6_6)
  have f3 : Exa Z h2 xa "java/lang/Long" := f0_xa.wr W2
  have f4 : Fld Z h2 xa "java/lang/Long" "value" "J" (.long q1) := f1_xa_value.same W2
  have K2 : Keep h0 h2 [xa] := Keep.wr (Keep.refl h0 [xa]) W2 (Or.inl (List.mem_of_getElem? (i := 0) rfl))
  have Z2 : n0 ≤ h2.size := Nat.le_trans Z0 K2.1
  have N2 := Fr.snoc X2 N1 g_xa
  refine Goes.via (S' := (T2.setTop (mkF m 9 #[.val (.ref xa), .val (.long q1), .second] []))) (fun t k => st2 _ k) ?_
  exact own_retV X2 hx Bd.notSynchronized Bd.returns (hb hby d6_9) e2 ⟨rfl, N2, K2, f3, f4⟩ (by decide) (by decide)
theorem d4_0 : decode jdk_35_method_24_code 0 = .ok (.sipush 128, 3) := by decide +kernel
theorem d4_3 : decode jdk_35_method_24_code 3 = .ok (.istore_n 2, 1) := by decide +kernel
theorem d4_4 : decode jdk_35_method_24_code 4 = .ok (.lload_n 0, 1) := by decide +kernel
theorem d4_5 : decode jdk_35_method_24_code 5 = .ok (.ldc2_w 230, 3) := by decide +kernel
theorem d4_8 : decode jdk_35_method_24_code 8 = .ok (.lcmp, 1) := by decide +kernel
theorem d4_9 : decode jdk_35_method_24_code 9 = .ok (.ifCond .lt 22, 3) := by decide +kernel
theorem d4_12 : decode jdk_35_method_24_code 12 = .ok (.lload_n 0, 1) := by decide +kernel
theorem d4_13 : decode jdk_35_method_24_code 13 = .ok (.ldc2_w 232, 3) := by decide +kernel
theorem d4_16 : decode jdk_35_method_24_code 16 = .ok (.lcmp, 1) := by decide +kernel
theorem d4_17 : decode jdk_35_method_24_code 17 = .ok (.ifCond .gt 14, 3) := by decide +kernel
theorem d4_20 : decode jdk_35_method_24_code 20 = .ok (.getstatic 234, 3) := by decide +kernel
theorem d4_23 : decode jdk_35_method_24_code 23 = .ok (.lload_n 0, 1) := by decide +kernel
theorem d4_24 : decode jdk_35_method_24_code 24 = .ok (.l2i, 1) := by decide +kernel
theorem d4_25 : decode jdk_35_method_24_code 25 = .ok (.sipush 128, 3) := by decide +kernel
theorem d4_28 : decode jdk_35_method_24_code 28 = .ok (.iadd, 1) := by decide +kernel
theorem d4_29 : decode jdk_35_method_24_code 29 = .ok (.aaload, 1) := by decide +kernel
theorem d4_30 : decode jdk_35_method_24_code 30 = .ok (.areturn, 1) := by decide +kernel
theorem d4_31 : decode jdk_35_method_24_code 31 = .ok (.new 1, 3) := by decide +kernel
theorem d4_34 : decode jdk_35_method_24_code 34 = .ok (.dup, 1) := by decide +kernel
theorem d4_35 : decode jdk_35_method_24_code 35 = .ok (.lload_n 0, 1) := by decide +kernel
theorem d4_36 : decode jdk_35_method_24_code 36 = .ok (.invokespecial 240, 3) := by decide +kernel
theorem d4_39 : decode jdk_35_method_24_code 39 = .ok (.areturn, 1) := by decide +kernel
theorem ef_4 (m : MethodId) (q0 : Int64) : entryFrame m #[(.long q0)] 3 = mkF m 0 #[.val (.long q0), .second, .unset] [] := by first | (simp [entryFrame, mkF, argsToLocals, Value.category]; done) | rfl
def Q4 (Z : State) (q0 : Int64) (yc : Addr) (h0 : Heap) (n0 : Nat) (v : Option Value) (h : Heap) (L : List Loc) : Prop := ∃ r : Addr, v = some (.ref r) ∧ (True) ∧ Fr n0 L ∧ Keep h0 h [] ∧ Exa Z h r "java/lang/Long"
set_option maxRecDepth 65536 in
set_option maxHeartbeats 40000000 in
theorem rm4 (l : Launch) (Z : State) (a0 : Array Value) (hw : ∀ d ∈ tables_1, d.before a0 Z = true) (ws : List Jvm.Cond) (q0 : Int64) (yc : Addr) (h0 : Heap) (n0 : Nat) (Z0 : n0 ≤ h0.size) (f0_cache : Sta Z h0 "java/lang/Long$LongCache" "cache" "[Ljava/lang/Long;" (.ref yc)) (hcache : own_Cache Z h0 yc) :
    MetFree l (⟨"java/lang/Long", "valueOf", "(J)Ljava/lang/Long;"⟩ : MethodName) (head1 (Jvm.Cond.code (⟨"java/lang/Long", "valueOf", "(J)Ljava/lang/Long;"⟩ : MethodName) jdk_35_method_24_code 3 (some (.object "java/lang/Long")) :: ws) ({ frames := 3, cells := 1, slots := 1, locals := 39 } : Room)) (fun a U => a = #[(.long q0)] ∧ Z.Warmed39 U.vm ∧ U.heap = h0) (fun _ _ _ _ _ => True) (fun _ U o U' => ∃ v L, o = .returned v ∧ Q4 Z q0 yc h0 n0 v U'.heap L ∧ FrameEnd U o U' L 1 1) := by
  refine MetFree.of_bodySF (plainFor_of_name pn_10) hisR ?_
  intro p e s m args below meth c s₁ Bd hml0 hP hK
  obtain ⟨rfl, hZ, hh⟩ := hP
  have hx := Bd.exec
  have hby := Bd.bytes
  have hml : c.maxLocals = 3 := hml0
  have hown : s.vm.findClass "java/lang/Long" = some m.cls := findClass_of_methodNamed Bd.named
  have hnm := (name_of_methodNamed Bd.named Bd.method).1
  have X0 : Stand p l e ({ frames := 3, cells := 1, slots := 1, locals := 39 } : Room) s m #[(.long q0)] below meth c s₁ [] 0 0 := Stand.of_body Bd
  have e0 : s₁.heap = h0 := by rw [← hh, Bd.state]; rfl
  have N0 := Fr.nil n0
  refine own_start (Q := fun v h L => Q4 Z q0 yc h0 n0 v h L) ?_
  refine Goes.via (S' := (s₁.setTop (mkF m 0 #[.val (.long q0), .second, .unset] []))) (fun t k => castTop (ef_4 m q0) k) ?_
  refine Goes.via (S' := (s₁.setTop (mkF m 3 #[.val (.long q0), .second, .unset] [(.int (128 : Int32))]))) (fun t k => XS.sipush X0.here hx rfl (hb hby d4_0) k) ?_
  refine Goes.via (S' := (s₁.setTop (mkF m 4 #[.val (.long q0), .second, .val (.int (128 : Int32))] []))) (fun t k => XS.istoreN X0.here hx rfl (hb hby d4_3) rfl (l' := #[.val (.long q0), .second, .val (.int (128 : Int32))]) rfl k) ?_
  refine Goes.via (S' := (s₁.setTop (mkF m 5 #[.val (.long q0), .second, .val (.int (128 : Int32))] [(.long q0)]))) (fun t k => XS.lloadN X0.here hx rfl (hb hby d4_4) rfl k) ?_
  refine Goes.via (S' := (s₁.setTop (mkF m 8 #[.val (.long q0), .second, .val (.int (128 : Int32))] [(.long (-128 : Int64)), (.long q0)]))) (fun t k => X0.ldc2Long hx hown (mvT hZ (hw _ (List.mem_of_getElem? (i := 25) rfl))) (g := (mkF m 5 #[.val (.long q0), .second, .val (.int (128 : Int32))] [(.long q0)])) rfl (hb hby d4_5) _ k) ?_
  refine Goes.via (S' := (s₁.setTop (mkF m 9 #[.val (.long q0), .second, .val (.int (128 : Int32))] [(.int (lcmpW q0 (-128 : Int64)))]))) (fun t k => XS.lcmp X0.here hx rfl (hb hby d4_8) rfl k) ?_
  by_cases hc1 : (q0 < (-128 : Int64))
  · refine Goes.via (S' := (s₁.setTop (mkF m 31 #[.val (.long q0), .second, .val (.int (128 : Int32))] []))) (fun t k => XS.ifYes X0.here hx rfl (pc0 := 9) (pc' := 31) rfl (hb hby d4_9) rfl ((if0 _ _).trans (tlt (own_lt hc1)).1) (by decide) (by decide) k) ?_
    obtain ⟨T2, h2, X2, e2, E2, A2, D2, -, st2⟩ := newO X0 hx hZ hown (hw _ (List.mem_of_getElem? (i := 39) rfl)) (hw _ (List.mem_of_getElem? (i := 40) rfl)) (hw _ (List.mem_of_getElem? (i := 23) rfl)) e0 (g := (mkF m 31 #[.val (.long q0), .second, .val (.int (128 : Int32))] [])) rfl (hb hby d4_31) (by decide) (by decide)
    obtain ⟨b2, g2⟩ : ∃ z, z = h0.size := ⟨_, rfl⟩
    rw [← g2] at A2 D2 st2
    have f3 : Sta Z h2 "java/lang/Long$LongCache" "cache" "[Ljava/lang/Long;" (.ref yc) := f0_cache.ext E2
    have K2 : Keep h0 h2 [] := Keep.ext (Keep.refl h0 []) E2
    have Z2 : n0 ≤ h2.size := Nat.le_trans Z0 K2.1
    have g_b2 : n0 ≤ b2 := Nat.le_trans Z0 (Nat.le_of_eq g2.symm)
    have sz_b2 : h0.size ≤ b2 := Nat.le_trans ((Keep.refl h0 [])).1 (Nat.le_of_eq g2.symm)
    have f4 : Exa Z h2 b2 "java/lang/Long" := A2
    have f5 : Fld Z h2 b2 "java/lang/Long" "value" "J" (.long (0 : Int64)) := D2 (Or.inr (hw _ (List.mem_of_getElem? (i := 53) rfl))) (ty := .long) (by decide)
    refine Goes.via (S' := (T2.setTop (mkF m 34 #[.val (.long q0), .second, .val (.int (128 : Int32))] [(.ref b2)]))) (fun t k => st2 _ k) ?_
    refine Goes.via (S' := (T2.setTop (mkF m 35 #[.val (.long q0), .second, .val (.int (128 : Int32))] [(.ref b2), (.ref b2)]))) (fun t k => XS.dup X2.here hx rfl (hb hby d4_34) rfl rfl k) ?_
    refine Goes.via (S' := (T2.setTop (mkF m 36 #[.val (.long q0), .second, .val (.int (128 : Int32))] [(.long q0), (.ref b2), (.ref b2)]))) (fun t k => XS.lloadN X2.here hx rfl (hb hby d4_35) rfl k) ?_
    obtain ⟨_, _, ⟨T6, L6, k6, n6⟩, -, X6, ⟨Lc6, hQ6, l6, y6, z6⟩, st6⟩ := X2.specialBack hx (y := (⟨"java/lang/Long", "<init>", "(J)V"⟩ : MethodName)) rfl hown (mvT hZ (hw _ (List.mem_of_getElem? (i := 41) rfl))) (mvT hZ (hw _ (List.mem_of_getElem? (i := 42) rfl))) (mvT hZ (hw _ (List.mem_of_getElem? (i := 44) rfl))) (by decide) (backOf (W := 1) (rm6 l Z a0 hw [] b2 q0 (.long (0 : Int64)) h2 n0 Z2 f4 f5 g_b2) hZ (hw _ (List.mem_of_getElem? (i := 44) rfl)) (hw _ (List.mem_of_getElem? (i := 23) rfl)) (by decide) (by decide)) (g := (mkF m 36 #[.val (.long q0), .second, .val (.int (128 : Int32))] [(.long q0), (.ref b2), (.ref b2)])) rfl (by rw [hml]; rfl) (Steps.refl _) (a := b2) (argsL := [(.long q0)]) (rest := [(.ref b2)]) (lenOf pd_1 rfl) rfl (by show 2 * 0 + _ ≤ _; exact Nat.le_of_eq rfl) (hb hby d4_36) (fun _ _ => ⟨rfl, e2, (by decide : 1 + 0 ≤ _), (by decide : 1 + 0 ≤ _)⟩)
    dsimp only [Pt.U, Pt.locs, Pt.cells, Pt.slots] at X6 l6 y6 z6 st6 hQ6
    subst l6 y6 z6
    obtain ⟨rfl, N6q, K6q, po6_0, po6_1⟩ := hQ6
    have N6 := Fr.app N0 N6q
    have f7 : Sta Z T6.heap "java/lang/Long$LongCache" "cache" "[Ljava/lang/Long;" (.ref yc) := own_staKeep f3 K6q (allS (own_nst f4) all0)
    have f8 : Exa Z T6.heap b2 "java/lang/Long" := f4.keep K6q
    have K6 : Keep h0 T6.heap [] := Keep.trans K2 K6q (allS (Or.inr sz_b2) all0)
    have Z6 : n0 ≤ T6.heap.size := Nat.le_trans Z0 K6.1
    refine Goes.via (S' := (T6.setTop (mkF m 39 #[.val (.long q0), .second, .val (.int (128 : Int32))] [(.ref b2)]))) (fun t k => st6.trans k) ?_
    exact own_ret X6 hx Bd.notSynchronized Bd.returns rfl (Or.inr (Or.inr (Or.inr (Or.inr ⟨rfl, rfl, rfl⟩)))) (hb hby d4_39) rfl ⟨b2, rfl, trivial, N6, K6, po6_0⟩ (by decide) (by decide)
  · refine Goes.via (S' := (s₁.setTop (mkF m 12 #[.val (.long q0), .second, .val (.int (128 : Int32))] []))) (fun t k => XS.ifNo X0.here hx rfl (hb hby d4_9) rfl ((if0 _ _).trans (flt (own_nlt hc1)).1) k) ?_
    refine Goes.via (S' := (s₁.setTop (mkF m 13 #[.val (.long q0), .second, .val (.int (128 : Int32))] [(.long q0)]))) (fun t k => XS.lloadN X0.here hx rfl (hb hby d4_12) rfl k) ?_
    refine Goes.via (S' := (s₁.setTop (mkF m 16 #[.val (.long q0), .second, .val (.int (128 : Int32))] [(.long (127 : Int64)), (.long q0)]))) (fun t k => X0.ldc2Long hx hown (mvT hZ (hw _ (List.mem_of_getElem? (i := 26) rfl))) (g := (mkF m 13 #[.val (.long q0), .second, .val (.int (128 : Int32))] [(.long q0)])) rfl (hb hby d4_13) _ k) ?_
    refine Goes.via (S' := (s₁.setTop (mkF m 17 #[.val (.long q0), .second, .val (.int (128 : Int32))] [(.int (lcmpW q0 (127 : Int64)))]))) (fun t k => XS.lcmp X0.here hx rfl (hb hby d4_16) rfl k) ?_
    by_cases hc9 : ((127 : Int64) < q0)
    · refine Goes.via (S' := (s₁.setTop (mkF m 31 #[.val (.long q0), .second, .val (.int (128 : Int32))] []))) (fun t k => XS.ifYes X0.here hx rfl (pc0 := 17) (pc' := 31) rfl (hb hby d4_17) rfl ((if0 _ _).trans (tlt (own_gt hc9)).2.2.1) (by decide) (by decide) k) ?_
      obtain ⟨T10, h10, X10, e10, E10, A10, D10, -, st10⟩ := newO X0 hx hZ hown (hw _ (List.mem_of_getElem? (i := 39) rfl)) (hw _ (List.mem_of_getElem? (i := 40) rfl)) (hw _ (List.mem_of_getElem? (i := 23) rfl)) e0 (g := (mkF m 31 #[.val (.long q0), .second, .val (.int (128 : Int32))] [])) rfl (hb hby d4_31) (by decide) (by decide)
      obtain ⟨b10, g10⟩ : ∃ z, z = h0.size := ⟨_, rfl⟩
      rw [← g10] at A10 D10 st10
      have f11 : Sta Z h10 "java/lang/Long$LongCache" "cache" "[Ljava/lang/Long;" (.ref yc) := f0_cache.ext E10
      have K10 : Keep h0 h10 [] := Keep.ext (Keep.refl h0 []) E10
      have Z10 : n0 ≤ h10.size := Nat.le_trans Z0 K10.1
      have g_b10 : n0 ≤ b10 := Nat.le_trans Z0 (Nat.le_of_eq g10.symm)
      have sz_b10 : h0.size ≤ b10 := Nat.le_trans ((Keep.refl h0 [])).1 (Nat.le_of_eq g10.symm)
      have f12 : Exa Z h10 b10 "java/lang/Long" := A10
      have f13 : Fld Z h10 b10 "java/lang/Long" "value" "J" (.long (0 : Int64)) := D10 (Or.inr (hw _ (List.mem_of_getElem? (i := 53) rfl))) (ty := .long) (by decide)
      refine Goes.via (S' := (T10.setTop (mkF m 34 #[.val (.long q0), .second, .val (.int (128 : Int32))] [(.ref b10)]))) (fun t k => st10 _ k) ?_
      refine Goes.via (S' := (T10.setTop (mkF m 35 #[.val (.long q0), .second, .val (.int (128 : Int32))] [(.ref b10), (.ref b10)]))) (fun t k => XS.dup X10.here hx rfl (hb hby d4_34) rfl rfl k) ?_
      refine Goes.via (S' := (T10.setTop (mkF m 36 #[.val (.long q0), .second, .val (.int (128 : Int32))] [(.long q0), (.ref b10), (.ref b10)]))) (fun t k => XS.lloadN X10.here hx rfl (hb hby d4_35) rfl k) ?_
      obtain ⟨_, _, ⟨T14, L14, k14, n14⟩, -, X14, ⟨Lc14, hQ14, l14, y14, z14⟩, st14⟩ := X10.specialBack hx (y := (⟨"java/lang/Long", "<init>", "(J)V"⟩ : MethodName)) rfl hown (mvT hZ (hw _ (List.mem_of_getElem? (i := 41) rfl))) (mvT hZ (hw _ (List.mem_of_getElem? (i := 42) rfl))) (mvT hZ (hw _ (List.mem_of_getElem? (i := 44) rfl))) (by decide) (backOf (W := 1) (rm6 l Z a0 hw [] b10 q0 (.long (0 : Int64)) h10 n0 Z10 f12 f13 g_b10) hZ (hw _ (List.mem_of_getElem? (i := 44) rfl)) (hw _ (List.mem_of_getElem? (i := 23) rfl)) (by decide) (by decide)) (g := (mkF m 36 #[.val (.long q0), .second, .val (.int (128 : Int32))] [(.long q0), (.ref b10), (.ref b10)])) rfl (by rw [hml]; rfl) (Steps.refl _) (a := b10) (argsL := [(.long q0)]) (rest := [(.ref b10)]) (lenOf pd_1 rfl) rfl (by show 2 * 0 + _ ≤ _; exact Nat.le_of_eq rfl) (hb hby d4_36) (fun _ _ => ⟨rfl, e10, (by decide : 1 + 0 ≤ _), (by decide : 1 + 0 ≤ _)⟩)
      dsimp only [Pt.U, Pt.locs, Pt.cells, Pt.slots] at X14 l14 y14 z14 st14 hQ14
      subst l14 y14 z14
      obtain ⟨rfl, N14q, K14q, po14_0, po14_1⟩ := hQ14
      have N14 := Fr.app N0 N14q
      have f15 : Sta Z T14.heap "java/lang/Long$LongCache" "cache" "[Ljava/lang/Long;" (.ref yc) := own_staKeep f11 K14q (allS (own_nst f12) all0)
      have f16 : Exa Z T14.heap b10 "java/lang/Long" := f12.keep K14q
      have K14 : Keep h0 T14.heap [] := Keep.trans K10 K14q (allS (Or.inr sz_b10) all0)
      have Z14 : n0 ≤ T14.heap.size := Nat.le_trans Z0 K14.1
      refine Goes.via (S' := (T14.setTop (mkF m 39 #[.val (.long q0), .second, .val (.int (128 : Int32))] [(.ref b10)]))) (fun t k => st14.trans k) ?_
      exact own_ret X14 hx Bd.notSynchronized Bd.returns rfl (Or.inr (Or.inr (Or.inr (Or.inr ⟨rfl, rfl, rfl⟩)))) (hb hby d4_39) rfl ⟨b10, rfl, trivial, N14, K14, po14_0⟩ (by decide) (by decide)
    · refine Goes.via (S' := (s₁.setTop (mkF m 20 #[.val (.long q0), .second, .val (.int (128 : Int32))] []))) (fun t k => XS.ifNo X0.here hx rfl (hb hby d4_17) rfl ((if0 _ _).trans (flt (own_ngt hc9)).2.2.1) k) ?_
      obtain ⟨T17, X17, e17, st17⟩ := getS2 X0 hx hZ hown (host := "") (Or.inl (hw _ (List.mem_of_getElem? (i := 27) rfl))) Via.refl e0 f0_cache (g := (mkF m 20 #[.val (.long q0), .second, .val (.int (128 : Int32))] [])) rfl (hb hby d4_20)
      refine Goes.via (S' := (T17.setTop (mkF m 23 #[.val (.long q0), .second, .val (.int (128 : Int32))] [(.ref yc)]))) (fun t k => st17 _ k) ?_
      refine Goes.via (S' := (T17.setTop (mkF m 24 #[.val (.long q0), .second, .val (.int (128 : Int32))] [(.long q0), (.ref yc)]))) (fun t k => XS.lloadN X17.here hx rfl (hb hby d4_23) rfl k) ?_
      refine Goes.via (S' := (T17.setTop (mkF m 25 #[.val (.long q0), .second, .val (.int (128 : Int32))] [(.int (q0.toInt32)), (.ref yc)]))) (fun t k => XS.l2i X17.here hx rfl (hb hby d4_24) rfl k) ?_
      refine Goes.via (S' := (T17.setTop (mkF m 28 #[.val (.long q0), .second, .val (.int (128 : Int32))] [(.int (128 : Int32)), (.int (q0.toInt32)), (.ref yc)]))) (fun t k => XS.sipush X17.here hx rfl (hb hby d4_25) k) ?_
      refine Goes.via (S' := (T17.setTop (mkF m 29 #[.val (.long q0), .second, .val (.int (128 : Int32))] [(.int ((q0.toInt32) + (128 : Int32))), (.ref yc)]))) (fun t k => XS.iadd X17.here hx rfl (hb hby d4_28) rfl k) ?_
      obtain ⟨cl18, b18, Ar18, hin18, hat18, Eb18⟩ := hcache q0 hc1 hc9
      refine Goes.via (S' := (T17.setTop (mkF m 30 #[.val (.long q0), .second, .val (.int (128 : Int32))] [(.ref b18)]))) (fun t k => X17.aaload hx (j := ((q0.toInt32) + (128 : Int32))) (v := (.ref b18)) (by rw [e17]; exact Ar18.1) (State.isArrayOf_alike hZ.alike Ar18.2.1) rfl Ar18.2.2 hin18 hat18 (g := (mkF m 29 #[.val (.long q0), .second, .val (.int (128 : Int32))] [(.int ((q0.toInt32) + (128 : Int32))), (.ref yc)])) rfl rfl (hb hby d4_29) _ k) ?_
      exact own_ret X17 hx Bd.notSynchronized Bd.returns rfl (Or.inr (Or.inr (Or.inr (Or.inr ⟨rfl, rfl, rfl⟩)))) (hb hby d4_30) e17 ⟨b18, rfl, trivial, N0, (Keep.refl h0 []), Eb18⟩ (by decide) (by decide)
theorem d1_0 : decode method_2_code 0 = .ok (.iload_n 2, 1) := by decide +kernel
theorem d1_1 : decode method_2_code 1 = .ok (.iload_n 3, 1) := by decide +kernel
theorem d1_2 : decode method_2_code 2 = .ok (.ishr, 1) := by decide +kernel
theorem d1_3 : decode method_2_code 3 = .ok (.iconst 1, 1) := by decide +kernel
theorem d1_4 : decode method_2_code 4 = .ok (.iand, 1) := by decide +kernel
theorem d1_5 : decode method_2_code 5 = .ok (.ifCond .eq 8, 3) := by decide +kernel
theorem d1_8 : decode method_2_code 8 = .ok (.lload_n 0, 1) := by decide +kernel
theorem d1_9 : decode method_2_code 9 = .ok (.lload 4, 2) := by decide +kernel
theorem d1_11 : decode method_2_code 11 = .ok (.ladd, 1) := by decide +kernel
theorem d1_12 : decode method_2_code 12 = .ok (.lreturn, 1) := by decide +kernel
theorem d1_13 : decode method_2_code 13 = .ok (.lload_n 0, 1) := by decide +kernel
theorem d1_14 : decode method_2_code 14 = .ok (.lreturn, 1) := by decide +kernel
theorem ef_1 (m : MethodId) (q0 : Int64) (p1 : Int32) (p2 : Int32) (q3 : Int64) : entryFrame m #[(.long q0), (.int p1), (.int p2), (.long q3)] 6 = mkF m 0 #[.val (.long q0), .second, .val (.int p1), .val (.int p2), .val (.long q3), .second] [] := by first | (simp [entryFrame, mkF, argsToLocals, Value.category]; done) | rfl
def Q1 (Z : State) (q0 : Int64) (p1 : Int32) (p2 : Int32) (q3 : Int64) (h0 : Heap) (n0 : Nat) (v : Option Value) (h : Heap) (L : List Loc) : Prop := ∃ r : Int64, v = some (.long r) ∧ (r = if ((p1 >>> (p2 &&& 31)) &&& (1 : Int32)) = (0 : Int32) then q0 else q0 + q3) ∧ Fr n0 L ∧ h = h0
set_option maxRecDepth 65536 in
set_option maxHeartbeats 40000000 in
theorem rm1 (l : Launch) (Z : State) (a0 : Array Value) (hw : ∀ d ∈ tables_1, d.before a0 Z = true) (ws : List Jvm.Cond) (q0 : Int64) (p1 : Int32) (p2 : Int32) (q3 : Int64) (h0 : Heap) (n0 : Nat) (Z0 : n0 ≤ h0.size) :
    MetFree l (⟨"com/example/eolog/eolog/producer/AbortedTransactionEqualsPinLaw", "bump", "(JIIJ)J"⟩ : MethodName) (head1 (Jvm.Cond.code (⟨"com/example/eolog/eolog/producer/AbortedTransactionEqualsPinLaw", "bump", "(JIIJ)J"⟩ : MethodName) method_2_code 6 (some .long) :: ws) ({ frames := 0, cells := 0, slots := 0, locals := 0 } : Room)) (fun a U => a = #[(.long q0), (.int p1), (.int p2), (.long q3)] ∧ Z.Warmed39 U.vm ∧ U.heap = h0) (fun _ _ _ _ _ => True) (fun _ U o U' => ∃ v L, o = .returned v ∧ Q1 Z q0 p1 p2 q3 h0 n0 v U'.heap L ∧ FrameEnd U o U' L 0 0) := by
  refine MetFree.of_bodySF (plainFor_of_name pn_45) hisR ?_
  intro p e s m args below meth c s₁ Bd hml0 hP hK
  obtain ⟨rfl, hZ, hh⟩ := hP
  have hx := Bd.exec
  have hby := Bd.bytes
  have hml : c.maxLocals = 6 := hml0
  have hown : s.vm.findClass "com/example/eolog/eolog/producer/AbortedTransactionEqualsPinLaw" = some m.cls := findClass_of_methodNamed Bd.named
  have hnm := (name_of_methodNamed Bd.named Bd.method).1
  have X0 : Stand p l e ({ frames := 0, cells := 0, slots := 0, locals := 0 } : Room) s m #[(.long q0), (.int p1), (.int p2), (.long q3)] below meth c s₁ [] 0 0 := Stand.of_body Bd
  have e0 : s₁.heap = h0 := by rw [← hh, Bd.state]; rfl
  have N0 := Fr.nil n0
  refine own_start (Q := fun v h L => Q1 Z q0 p1 p2 q3 h0 n0 v h L) ?_
  refine Goes.via (S' := (s₁.setTop (mkF m 0 #[.val (.long q0), .second, .val (.int p1), .val (.int p2), .val (.long q3), .second] []))) (fun t k => castTop (ef_1 m q0 p1 p2 q3) k) ?_
  refine Goes.via (S' := (s₁.setTop (mkF m 1 #[.val (.long q0), .second, .val (.int p1), .val (.int p2), .val (.long q3), .second] [(.int p1)]))) (fun t k => XS.iloadN X0.here hx rfl (hb hby d1_0) rfl k) ?_
  refine Goes.via (S' := (s₁.setTop (mkF m 2 #[.val (.long q0), .second, .val (.int p1), .val (.int p2), .val (.long q3), .second] [(.int p2), (.int p1)]))) (fun t k => XS.iloadN X0.here hx rfl (hb hby d1_1) rfl k) ?_
  refine Goes.via (S' := (s₁.setTop (mkF m 3 #[.val (.long q0), .second, .val (.int p1), .val (.int p2), .val (.long q3), .second] [(.int (p1 >>> (p2 &&& 31)))]))) (fun t k => XS.ishr X0.here hx rfl (hb hby d1_2) rfl k) ?_
  refine Goes.via (S' := (s₁.setTop (mkF m 4 #[.val (.long q0), .second, .val (.int p1), .val (.int p2), .val (.long q3), .second] [(.int (1 : Int32)), (.int (p1 >>> (p2 &&& 31)))]))) (fun t k => XS.iconst X0.here hx rfl (hb hby d1_3) k) ?_
  refine Goes.via (S' := (s₁.setTop (mkF m 5 #[.val (.long q0), .second, .val (.int p1), .val (.int p2), .val (.long q3), .second] [(.int ((p1 >>> (p2 &&& 31)) &&& (1 : Int32)))]))) (fun t k => XS.iand X0.here hx rfl (hb hby d1_4) rfl k) ?_
  by_cases hc1 : (((p1 >>> (p2 &&& 31)) &&& (1 : Int32)) = (0 : Int32))
  · refine Goes.via (S' := (s₁.setTop (mkF m 13 #[.val (.long q0), .second, .val (.int p1), .val (.int p2), .val (.long q3), .second] []))) (fun t k => XS.ifYes X0.here hx rfl (pc0 := 5) (pc' := 13) rfl (hb hby d1_5) rfl ((if0 _ _).trans (teq hc1).1) (by decide) (by decide) k) ?_
    refine Goes.via (S' := (s₁.setTop (mkF m 14 #[.val (.long q0), .second, .val (.int p1), .val (.int p2), .val (.long q3), .second] [(.long q0)]))) (fun t k => XS.lloadN X0.here hx rfl (hb hby d1_13) rfl k) ?_
    exact own_ret X0 hx Bd.notSynchronized Bd.returns rfl (Or.inr (Or.inl ⟨rfl, rfl, _, rfl⟩)) (hb hby d1_14) e0 ⟨q0, rfl, (by simp [hc1]), N0, rfl⟩ (by decide) (by decide)
  · refine Goes.via (S' := (s₁.setTop (mkF m 8 #[.val (.long q0), .second, .val (.int p1), .val (.int p2), .val (.long q3), .second] []))) (fun t k => XS.ifNo X0.here hx rfl (hb hby d1_5) rfl ((if0 _ _).trans (feq hc1).1) k) ?_
    refine Goes.via (S' := (s₁.setTop (mkF m 9 #[.val (.long q0), .second, .val (.int p1), .val (.int p2), .val (.long q3), .second] [(.long q0)]))) (fun t k => XS.lloadN X0.here hx rfl (hb hby d1_8) rfl k) ?_
    refine Goes.via (S' := (s₁.setTop (mkF m 11 #[.val (.long q0), .second, .val (.int p1), .val (.int p2), .val (.long q3), .second] [(.long q3), (.long q0)]))) (fun t k => XS.lload X0.here hx rfl (hb hby d1_9) rfl k) ?_
    refine Goes.via (S' := (s₁.setTop (mkF m 12 #[.val (.long q0), .second, .val (.int p1), .val (.int p2), .val (.long q3), .second] [(.long (q0 + q3))]))) (fun t k => XS.ladd X0.here hx rfl (hb hby d1_11) rfl k) ?_
    exact own_ret X0 hx Bd.notSynchronized Bd.returns rfl (Or.inr (Or.inl ⟨rfl, rfl, _, rfl⟩)) (hb hby d1_12) e0 ⟨(q0 + q3), rfl, (by simp [hc1]), N0, rfl⟩ (by decide) (by decide)
theorem d2_0 : decode prog_83_method_1_code 0 = .ok (.aload_n 0, 1) := by decide +kernel
theorem d2_1 : decode prog_83_method_1_code 1 = .ok (.invokespecial 1, 3) := by decide +kernel
theorem d2_4 : decode prog_83_method_1_code 4 = .ok (.aload_n 0, 1) := by decide +kernel
theorem d2_5 : decode prog_83_method_1_code 5 = .ok (.lload_n 1, 1) := by decide +kernel
theorem d2_6 : decode prog_83_method_1_code 6 = .ok (.putfield 7, 3) := by decide +kernel
theorem d2_9 : decode prog_83_method_1_code 9 = .ok (.aload_n 0, 1) := by decide +kernel
theorem d2_10 : decode prog_83_method_1_code 10 = .ok (.lload_n 3, 1) := by decide +kernel
theorem d2_11 : decode prog_83_method_1_code 11 = .ok (.putfield 13, 3) := by decide +kernel
theorem d2_14 : decode prog_83_method_1_code 14 = .ok (.aload_n 0, 1) := by decide +kernel
theorem d2_15 : decode prog_83_method_1_code 15 = .ok (.lload 5, 2) := by decide +kernel
theorem d2_17 : decode prog_83_method_1_code 17 = .ok (.putfield 16, 3) := by decide +kernel
theorem d2_20 : decode prog_83_method_1_code 20 = .ok (.aload_n 0, 1) := by decide +kernel
theorem d2_21 : decode prog_83_method_1_code 21 = .ok (.lload 7, 2) := by decide +kernel
theorem d2_23 : decode prog_83_method_1_code 23 = .ok (.putfield 19, 3) := by decide +kernel
theorem d2_26 : decode prog_83_method_1_code 26 = .ok (.return_, 1) := by decide +kernel
theorem ef_2 (m : MethodId) (xa : Addr) (q0 : Int64) (q1 : Int64) (q2 : Int64) (q3 : Int64) : entryFrame m #[(.ref xa), (.long q0), (.long q1), (.long q2), (.long q3)] 9 = mkF m 0 #[.val (.ref xa), .val (.long q0), .second, .val (.long q1), .second, .val (.long q2), .second, .val (.long q3), .second] [] := by first | (simp [entryFrame, mkF, argsToLocals, Value.category]; done) | rfl
def Q2 (Z : State) (xa : Addr) (q0 : Int64) (q1 : Int64) (q2 : Int64) (q3 : Int64) (u0 : Value) (u1 : Value) (u2 : Value) (u3 : Value) (h0 : Heap) (n0 : Nat) (v : Option Value) (h : Heap) (L : List Loc) : Prop := v = none ∧ Fr n0 L ∧ Keep h0 h [xa] ∧ Exa Z h xa "com/example/eolog/eolog/producer/AbortedTransaction" ∧ Fld Z h xa "com/example/eolog/eolog/producer/AbortedTransaction" "producerId" "J" (.long q0) ∧ Fld Z h xa "com/example/eolog/eolog/producer/AbortedTransaction" "firstOffset" "J" (.long q1) ∧ Fld Z h xa "com/example/eolog/eolog/producer/AbortedTransaction" "lastOffset" "J" (.long q2) ∧ Fld Z h xa "com/example/eolog/eolog/producer/AbortedTransaction" "lastStableOffset" "J" (.long q3)
set_option maxRecDepth 65536 in
set_option maxHeartbeats 40000000 in
theorem rm2 (l : Launch) (Z : State) (a0 : Array Value) (hw : ∀ d ∈ tables_1, d.before a0 Z = true) (ws : List Jvm.Cond) (xa : Addr) (q0 : Int64) (q1 : Int64) (q2 : Int64) (q3 : Int64) (u0 : Value) (u1 : Value) (u2 : Value) (u3 : Value) (h0 : Heap) (n0 : Nat) (Z0 : n0 ≤ h0.size) (f0_xa : Exa Z h0 xa "com/example/eolog/eolog/producer/AbortedTransaction") (f1_xa_producerId : Fld Z h0 xa "com/example/eolog/eolog/producer/AbortedTransaction" "producerId" "J" u0) (f2_xa_firstOffset : Fld Z h0 xa "com/example/eolog/eolog/producer/AbortedTransaction" "firstOffset" "J" u1) (f3_xa_lastOffset : Fld Z h0 xa "com/example/eolog/eolog/producer/AbortedTransaction" "lastOffset" "J" u2) (f4_xa_lastStableOffset : Fld Z h0 xa "com/example/eolog/eolog/producer/AbortedTransaction" "lastStableOffset" "J" u3) (g_xa : n0 ≤ xa) :
    MetFree l (⟨"com/example/eolog/eolog/producer/AbortedTransaction", "<init>", "(JJJJ)V"⟩ : MethodName) (head1 (Jvm.Cond.code (⟨"com/example/eolog/eolog/producer/AbortedTransaction", "<init>", "(JJJJ)V"⟩ : MethodName) prog_83_method_1_code 9 none :: ws) ({ frames := 1, cells := 0, slots := 0, locals := 12 } : Room)) (fun a U => a = #[(.ref xa), (.long q0), (.long q1), (.long q2), (.long q3)] ∧ Z.Warmed39 U.vm ∧ U.heap = h0) (fun _ _ _ _ _ => True) (fun _ U o U' => ∃ v L, o = .returned v ∧ Q2 Z xa q0 q1 q2 q3 u0 u1 u2 u3 h0 n0 v U'.heap L ∧ FrameEnd U o U' L 0 0) := by
  refine MetFree.of_bodySF (plainFor_of_name pn_61) hisR ?_
  intro p e s m args below meth c s₁ Bd hml0 hP hK
  obtain ⟨rfl, hZ, hh⟩ := hP
  have hx := Bd.exec
  have hby := Bd.bytes
  have hml : c.maxLocals = 9 := hml0
  have hown : s.vm.findClass "com/example/eolog/eolog/producer/AbortedTransaction" = some m.cls := findClass_of_methodNamed Bd.named
  have hnm := (name_of_methodNamed Bd.named Bd.method).1
  have X0 : Stand p l e ({ frames := 1, cells := 0, slots := 0, locals := 12 } : Room) s m #[(.ref xa), (.long q0), (.long q1), (.long q2), (.long q3)] below meth c s₁ [] 0 0 := Stand.of_body Bd
  have e0 : s₁.heap = h0 := by rw [← hh, Bd.state]; rfl
  have N0 := Fr.nil n0
  refine own_start (Q := fun v h L => Q2 Z xa q0 q1 q2 q3 u0 u1 u2 u3 h0 n0 v h L) ?_
  refine Goes.via (S' := (s₁.setTop (mkF m 0 #[.val (.ref xa), .val (.long q0), .second, .val (.long q1), .second, .val (.long q2), .second, .val (.long q3), .second] []))) (fun t k => castTop (ef_2 m xa q0 q1 q2 q3) k) ?_
  refine Goes.via (S' := (s₁.setTop (mkF m 1 #[.val (.ref xa), .val (.long q0), .second, .val (.long q1), .second, .val (.long q2), .second, .val (.long q3), .second] [(.ref xa)]))) (fun t k => XS.aloadN X0.here hx rfl (hb hby d2_0) rfl rfl k) ?_
  obtain ⟨T1, X1, e1, st1⟩ := initO X0 hx hZ hown (hw _ (List.mem_of_getElem? (i := 10) rfl)) (hw _ (List.mem_of_getElem? (i := 11) rfl)) (hw _ (List.mem_of_getElem? (i := 12) rfl)) e0 (g := (mkF m 1 #[.val (.ref xa), .val (.long q0), .second, .val (.long q1), .second, .val (.long q2), .second, .val (.long q3), .second] [(.ref xa)])) rfl (by rw [hml]; rfl) rfl (hb hby d2_1) (by decide) (W := 0) (by show 2 * 0 + _ ≤ _; exact Nat.le_of_eq rfl) (by decide)
  refine Goes.via (S' := (T1.setTop (mkF m 4 #[.val (.ref xa), .val (.long q0), .second, .val (.long q1), .second, .val (.long q2), .second, .val (.long q3), .second] []))) (fun t k => st1 _ k) ?_
  refine Goes.via (S' := (T1.setTop (mkF m 5 #[.val (.ref xa), .val (.long q0), .second, .val (.long q1), .second, .val (.long q2), .second, .val (.long q3), .second] [(.ref xa)]))) (fun t k => XS.aloadN X1.here hx rfl (hb hby d2_4) rfl rfl k) ?_
  refine Goes.via (S' := (T1.setTop (mkF m 6 #[.val (.ref xa), .val (.long q0), .second, .val (.long q1), .second, .val (.long q2), .second, .val (.long q3), .second] [(.long q0), (.ref xa)]))) (fun t k => XS.lloadN X1.here hx rfl (hb hby d2_5) rfl k) ?_
  obtain ⟨T2, h2, X2, e2, W2, st2⟩ := putF X1 hx hZ hown (host := "") (Or.inl (hw _ (List.mem_of_getElem? (i := 13) rfl))) Via.refl e1 f1_xa_producerId f0_xa (Or.inr ⟨(hw _ (List.mem_of_getElem? (i := 14) rfl)), rfl, hnm⟩) (hw _ (List.mem_of_getElem? (i := 5) rfl)) (ty := .long) (by decide) rfl rfl (g := (mkF m 6 #[.val (.ref xa), .val (.long q0), .second, .val (.long q1), .second, .val (.long q2), .second, .val (.long q3), .second] [(.long q0), (.ref xa)])) rfl rfl (hb hby d2_6)
  have f3 : Exa Z h2 xa "com/example/eolog/eolog/producer/AbortedTransaction" := f0_xa.wr W2
  have f4 : Fld Z h2 xa "com/example/eolog/eolog/producer/AbortedTransaction" "firstOffset" "J" u1 := f2_xa_firstOffset.other W2 (Or.inr (slot_ne (Or.inr (hw _ (List.mem_of_getElem? (i := 16) rfl))) (Or.inr (hw _ (List.mem_of_getElem? (i := 14) rfl))) (by decide) (t := .long) (t' := .long) (by decide) (by decide)))
  have f5 : Fld Z h2 xa "com/example/eolog/eolog/producer/AbortedTransaction" "lastOffset" "J" u2 := f3_xa_lastOffset.other W2 (Or.inr (slot_ne (Or.inr (hw _ (List.mem_of_getElem? (i := 18) rfl))) (Or.inr (hw _ (List.mem_of_getElem? (i := 14) rfl))) (by decide) (t := .long) (t' := .long) (by decide) (by decide)))
  have f6 : Fld Z h2 xa "com/example/eolog/eolog/producer/AbortedTransaction" "lastStableOffset" "J" u3 := f4_xa_lastStableOffset.other W2 (Or.inr (slot_ne (Or.inr (hw _ (List.mem_of_getElem? (i := 20) rfl))) (Or.inr (hw _ (List.mem_of_getElem? (i := 14) rfl))) (by decide) (t := .long) (t' := .long) (by decide) (by decide)))
  have f7 : Fld Z h2 xa "com/example/eolog/eolog/producer/AbortedTransaction" "producerId" "J" (.long q0) := f1_xa_producerId.same W2
  have K2 : Keep h0 h2 [xa] := Keep.wr (Keep.refl h0 [xa]) W2 (Or.inl (List.mem_of_getElem? (i := 0) rfl))
  have Z2 : n0 ≤ h2.size := Nat.le_trans Z0 K2.1
  have N2 := Fr.snoc X2 N0 g_xa
  refine Goes.via (S' := (T2.setTop (mkF m 9 #[.val (.ref xa), .val (.long q0), .second, .val (.long q1), .second, .val (.long q2), .second, .val (.long q3), .second] []))) (fun t k => st2 _ k) ?_
  refine Goes.via (S' := (T2.setTop (mkF m 10 #[.val (.ref xa), .val (.long q0), .second, .val (.long q1), .second, .val (.long q2), .second, .val (.long q3), .second] [(.ref xa)]))) (fun t k => XS.aloadN X2.here hx rfl (hb hby d2_9) rfl rfl k) ?_
  refine Goes.via (S' := (T2.setTop (mkF m 11 #[.val (.ref xa), .val (.long q0), .second, .val (.long q1), .second, .val (.long q2), .second, .val (.long q3), .second] [(.long q1), (.ref xa)]))) (fun t k => XS.lloadN X2.here hx rfl (hb hby d2_10) rfl k) ?_
  obtain ⟨T8, h8, X8, e8, W8, st8⟩ := putF X2 hx hZ hown (host := "") (Or.inl (hw _ (List.mem_of_getElem? (i := 15) rfl))) Via.refl e2 f4 f3 (Or.inr ⟨(hw _ (List.mem_of_getElem? (i := 16) rfl)), rfl, hnm⟩) (hw _ (List.mem_of_getElem? (i := 5) rfl)) (ty := .long) (by decide) rfl rfl (g := (mkF m 11 #[.val (.ref xa), .val (.long q0), .second, .val (.long q1), .second, .val (.long q2), .second, .val (.long q3), .second] [(.long q1), (.ref xa)])) rfl rfl (hb hby d2_11)
  have f9 : Exa Z h8 xa "com/example/eolog/eolog/producer/AbortedTransaction" := f3.wr W8
  have f10 : Fld Z h8 xa "com/example/eolog/eolog/producer/AbortedTransaction" "lastOffset" "J" u2 := f5.other W8 (Or.inr (slot_ne (Or.inr (hw _ (List.mem_of_getElem? (i := 18) rfl))) (Or.inr (hw _ (List.mem_of_getElem? (i := 16) rfl))) (by decide) (t := .long) (t' := .long) (by decide) (by decide)))
  have f11 : Fld Z h8 xa "com/example/eolog/eolog/producer/AbortedTransaction" "lastStableOffset" "J" u3 := f6.other W8 (Or.inr (slot_ne (Or.inr (hw _ (List.mem_of_getElem? (i := 20) rfl))) (Or.inr (hw _ (List.mem_of_getElem? (i := 16) rfl))) (by decide) (t := .long) (t' := .long) (by decide) (by decide)))
  have f12 : Fld Z h8 xa "com/example/eolog/eolog/producer/AbortedTransaction" "producerId" "J" (.long q0) := f7.other W8 (Or.inr (slot_ne (Or.inr (hw _ (List.mem_of_getElem? (i := 14) rfl))) (Or.inr (hw _ (List.mem_of_getElem? (i := 16) rfl))) (by decide) (t := .long) (t' := .long) (by decide) (by decide)))
  have f13 : Fld Z h8 xa "com/example/eolog/eolog/producer/AbortedTransaction" "firstOffset" "J" (.long q1) := f4.same W8
  have K8 : Keep h0 h8 [xa] := Keep.wr K2 W8 (Or.inl (List.mem_of_getElem? (i := 0) rfl))
  have Z8 : n0 ≤ h8.size := Nat.le_trans Z0 K8.1
  have N8 := Fr.snoc X8 N2 g_xa
  refine Goes.via (S' := (T8.setTop (mkF m 14 #[.val (.ref xa), .val (.long q0), .second, .val (.long q1), .second, .val (.long q2), .second, .val (.long q3), .second] []))) (fun t k => st8 _ k) ?_
  refine Goes.via (S' := (T8.setTop (mkF m 15 #[.val (.ref xa), .val (.long q0), .second, .val (.long q1), .second, .val (.long q2), .second, .val (.long q3), .second] [(.ref xa)]))) (fun t k => XS.aloadN X8.here hx rfl (hb hby d2_14) rfl rfl k) ?_
  refine Goes.via (S' := (T8.setTop (mkF m 17 #[.val (.ref xa), .val (.long q0), .second, .val (.long q1), .second, .val (.long q2), .second, .val (.long q3), .second] [(.long q2), (.ref xa)]))) (fun t k => XS.lload X8.here hx rfl (hb hby d2_15) rfl k) ?_
  obtain ⟨T14, h14, X14, e14, W14, st14⟩ := putF X8 hx hZ hown (host := "") (Or.inl (hw _ (List.mem_of_getElem? (i := 17) rfl))) Via.refl e8 f10 f9 (Or.inr ⟨(hw _ (List.mem_of_getElem? (i := 18) rfl)), rfl, hnm⟩) (hw _ (List.mem_of_getElem? (i := 5) rfl)) (ty := .long) (by decide) rfl rfl (g := (mkF m 17 #[.val (.ref xa), .val (.long q0), .second, .val (.long q1), .second, .val (.long q2), .second, .val (.long q3), .second] [(.long q2), (.ref xa)])) rfl rfl (hb hby d2_17)
  have f15 : Exa Z h14 xa "com/example/eolog/eolog/producer/AbortedTransaction" := f9.wr W14
  have f16 : Fld Z h14 xa "com/example/eolog/eolog/producer/AbortedTransaction" "lastStableOffset" "J" u3 := f11.other W14 (Or.inr (slot_ne (Or.inr (hw _ (List.mem_of_getElem? (i := 20) rfl))) (Or.inr (hw _ (List.mem_of_getElem? (i := 18) rfl))) (by decide) (t := .long) (t' := .long) (by decide) (by decide)))
  have f17 : Fld Z h14 xa "com/example/eolog/eolog/producer/AbortedTransaction" "producerId" "J" (.long q0) := f12.other W14 (Or.inr (slot_ne (Or.inr (hw _ (List.mem_of_getElem? (i := 14) rfl))) (Or.inr (hw _ (List.mem_of_getElem? (i := 18) rfl))) (by decide) (t := .long) (t' := .long) (by decide) (by decide)))
  have f18 : Fld Z h14 xa "com/example/eolog/eolog/producer/AbortedTransaction" "firstOffset" "J" (.long q1) := f13.other W14 (Or.inr (slot_ne (Or.inr (hw _ (List.mem_of_getElem? (i := 16) rfl))) (Or.inr (hw _ (List.mem_of_getElem? (i := 18) rfl))) (by decide) (t := .long) (t' := .long) (by decide) (by decide)))
  have f19 : Fld Z h14 xa "com/example/eolog/eolog/producer/AbortedTransaction" "lastOffset" "J" (.long q2) := f10.same W14
  have K14 : Keep h0 h14 [xa] := Keep.wr K8 W14 (Or.inl (List.mem_of_getElem? (i := 0) rfl))
  have Z14 : n0 ≤ h14.size := Nat.le_trans Z0 K14.1
  have N14 := Fr.snoc X14 N8 g_xa
  refine Goes.via (S' := (T14.setTop (mkF m 20 #[.val (.ref xa), .val (.long q0), .second, .val (.long q1), .second, .val (.long q2), .second, .val (.long q3), .second] []))) (fun t k => st14 _ k) ?_
  refine Goes.via (S' := (T14.setTop (mkF m 21 #[.val (.ref xa), .val (.long q0), .second, .val (.long q1), .second, .val (.long q2), .second, .val (.long q3), .second] [(.ref xa)]))) (fun t k => XS.aloadN X14.here hx rfl (hb hby d2_20) rfl rfl k) ?_
  refine Goes.via (S' := (T14.setTop (mkF m 23 #[.val (.ref xa), .val (.long q0), .second, .val (.long q1), .second, .val (.long q2), .second, .val (.long q3), .second] [(.long q3), (.ref xa)]))) (fun t k => XS.lload X14.here hx rfl (hb hby d2_21) rfl k) ?_
  obtain ⟨T20, h20, X20, e20, W20, st20⟩ := putF X14 hx hZ hown (host := "") (Or.inl (hw _ (List.mem_of_getElem? (i := 19) rfl))) Via.refl e14 f16 f15 (Or.inr ⟨(hw _ (List.mem_of_getElem? (i := 20) rfl)), rfl, hnm⟩) (hw _ (List.mem_of_getElem? (i := 5) rfl)) (ty := .long) (by decide) rfl rfl (g := (mkF m 23 #[.val (.ref xa), .val (.long q0), .second, .val (.long q1), .second, .val (.long q2), .second, .val (.long q3), .second] [(.long q3), (.ref xa)])) rfl rfl (hb hby d2_23)
  have f21 : Exa Z h20 xa "com/example/eolog/eolog/producer/AbortedTransaction" := f15.wr W20
  have f22 : Fld Z h20 xa "com/example/eolog/eolog/producer/AbortedTransaction" "producerId" "J" (.long q0) := f17.other W20 (Or.inr (slot_ne (Or.inr (hw _ (List.mem_of_getElem? (i := 14) rfl))) (Or.inr (hw _ (List.mem_of_getElem? (i := 20) rfl))) (by decide) (t := .long) (t' := .long) (by decide) (by decide)))
  have f23 : Fld Z h20 xa "com/example/eolog/eolog/producer/AbortedTransaction" "firstOffset" "J" (.long q1) := f18.other W20 (Or.inr (slot_ne (Or.inr (hw _ (List.mem_of_getElem? (i := 16) rfl))) (Or.inr (hw _ (List.mem_of_getElem? (i := 20) rfl))) (by decide) (t := .long) (t' := .long) (by decide) (by decide)))
  have f24 : Fld Z h20 xa "com/example/eolog/eolog/producer/AbortedTransaction" "lastOffset" "J" (.long q2) := f19.other W20 (Or.inr (slot_ne (Or.inr (hw _ (List.mem_of_getElem? (i := 18) rfl))) (Or.inr (hw _ (List.mem_of_getElem? (i := 20) rfl))) (by decide) (t := .long) (t' := .long) (by decide) (by decide)))
  have f25 : Fld Z h20 xa "com/example/eolog/eolog/producer/AbortedTransaction" "lastStableOffset" "J" (.long q3) := f16.same W20
  have K20 : Keep h0 h20 [xa] := Keep.wr K14 W20 (Or.inl (List.mem_of_getElem? (i := 0) rfl))
  have Z20 : n0 ≤ h20.size := Nat.le_trans Z0 K20.1
  have N20 := Fr.snoc X20 N14 g_xa
  refine Goes.via (S' := (T20.setTop (mkF m 26 #[.val (.ref xa), .val (.long q0), .second, .val (.long q1), .second, .val (.long q2), .second, .val (.long q3), .second] []))) (fun t k => st20 _ k) ?_
  exact own_retV X20 hx Bd.notSynchronized Bd.returns (hb hby d2_26) e20 ⟨rfl, N20, K20, f21, f22, f23, f24, f25⟩ (by decide) (by decide)
theorem d5_0 : decode prog_83_method_6_code 0 = .ok (.aload_n 1, 1) := by decide +kernel
theorem d5_1 : decode prog_83_method_6_code 1 = .ok (.instanceof 8, 3) := by decide +kernel
theorem d5_4 : decode prog_83_method_6_code 4 = .ok (.ifCond .ne 5, 3) := by decide +kernel
theorem d5_9 : decode prog_83_method_6_code 9 = .ok (.aload_n 1, 1) := by decide +kernel
theorem d5_10 : decode prog_83_method_6_code 10 = .ok (.checkcast 8, 3) := by decide +kernel
theorem d5_13 : decode prog_83_method_6_code 13 = .ok (.astore_n 2, 1) := by decide +kernel
theorem d5_14 : decode prog_83_method_6_code 14 = .ok (.aload_n 0, 1) := by decide +kernel
theorem d5_15 : decode prog_83_method_6_code 15 = .ok (.getfield 7, 3) := by decide +kernel
theorem d5_18 : decode prog_83_method_6_code 18 = .ok (.aload_n 2, 1) := by decide +kernel
theorem d5_19 : decode prog_83_method_6_code 19 = .ok (.getfield 7, 3) := by decide +kernel
theorem d5_22 : decode prog_83_method_6_code 22 = .ok (.lcmp, 1) := by decide +kernel
theorem d5_23 : decode prog_83_method_6_code 23 = .ok (.ifCond .ne 43, 3) := by decide +kernel
theorem d5_26 : decode prog_83_method_6_code 26 = .ok (.aload_n 0, 1) := by decide +kernel
theorem d5_27 : decode prog_83_method_6_code 27 = .ok (.getfield 13, 3) := by decide +kernel
theorem d5_30 : decode prog_83_method_6_code 30 = .ok (.aload_n 2, 1) := by decide +kernel
theorem d5_31 : decode prog_83_method_6_code 31 = .ok (.getfield 13, 3) := by decide +kernel
theorem d5_34 : decode prog_83_method_6_code 34 = .ok (.lcmp, 1) := by decide +kernel
theorem d5_35 : decode prog_83_method_6_code 35 = .ok (.ifCond .ne 31, 3) := by decide +kernel
theorem d5_38 : decode prog_83_method_6_code 38 = .ok (.aload_n 0, 1) := by decide +kernel
theorem d5_39 : decode prog_83_method_6_code 39 = .ok (.getfield 16, 3) := by decide +kernel
theorem d5_42 : decode prog_83_method_6_code 42 = .ok (.aload_n 2, 1) := by decide +kernel
theorem d5_43 : decode prog_83_method_6_code 43 = .ok (.getfield 16, 3) := by decide +kernel
theorem d5_46 : decode prog_83_method_6_code 46 = .ok (.lcmp, 1) := by decide +kernel
theorem d5_47 : decode prog_83_method_6_code 47 = .ok (.ifCond .ne 19, 3) := by decide +kernel
theorem d5_50 : decode prog_83_method_6_code 50 = .ok (.aload_n 0, 1) := by decide +kernel
theorem d5_51 : decode prog_83_method_6_code 51 = .ok (.getfield 19, 3) := by decide +kernel
theorem d5_54 : decode prog_83_method_6_code 54 = .ok (.aload_n 2, 1) := by decide +kernel
theorem d5_55 : decode prog_83_method_6_code 55 = .ok (.getfield 19, 3) := by decide +kernel
theorem d5_58 : decode prog_83_method_6_code 58 = .ok (.lcmp, 1) := by decide +kernel
theorem d5_59 : decode prog_83_method_6_code 59 = .ok (.ifCond .ne 7, 3) := by decide +kernel
theorem d5_62 : decode prog_83_method_6_code 62 = .ok (.iconst 1, 1) := by decide +kernel
theorem d5_63 : decode prog_83_method_6_code 63 = .ok (.goto 4, 3) := by decide +kernel
theorem d5_66 : decode prog_83_method_6_code 66 = .ok (.iconst 0, 1) := by decide +kernel
theorem d5_67 : decode prog_83_method_6_code 67 = .ok (.ireturn, 1) := by decide +kernel
theorem ef_5 (m : MethodId) (xa : Addr) (xb : Addr) : entryFrame m #[(.ref xa), (.ref xb)] 3 = mkF m 0 #[.val (.ref xa), .val (.ref xb), .unset] [] := by first | (simp [entryFrame, mkF, argsToLocals, Value.category]; done) | rfl
def Q5 (Z : State) (xa : Addr) (xb : Addr) (w0 : Int64) (w1 : Int64) (w2 : Int64) (w3 : Int64) (w4 : Int64) (w5 : Int64) (w6 : Int64) (w7 : Int64) (h0 : Heap) (n0 : Nat) (v : Option Value) (h : Heap) (L : List Loc) : Prop := ∃ r : Int32, v = some (.int r) ∧ r = (if ((w0 = w4) ∧ ((w1 = w5) ∧ ((w2 = w6) ∧ (w3 = w7)))) then (1 : Int32) else 0) ∧ Fr n0 L ∧ h = h0
set_option maxRecDepth 65536 in
set_option maxHeartbeats 40000000 in
theorem rm5 (l : Launch) (Z : State) (a0 : Array Value) (hw : ∀ d ∈ tables_1, d.before a0 Z = true) (ws : List Jvm.Cond) (xa : Addr) (xb : Addr) (w0 : Int64) (w1 : Int64) (w2 : Int64) (w3 : Int64) (w4 : Int64) (w5 : Int64) (w6 : Int64) (w7 : Int64) (h0 : Heap) (n0 : Nat) (Z0 : n0 ≤ h0.size) (f0_xb : Exa Z h0 xb "com/example/eolog/eolog/producer/AbortedTransaction") (f1_xa_producerId : Fld Z h0 xa "com/example/eolog/eolog/producer/AbortedTransaction" "producerId" "J" (.long w0)) (f2_xa_firstOffset : Fld Z h0 xa "com/example/eolog/eolog/producer/AbortedTransaction" "firstOffset" "J" (.long w1)) (f3_xa_lastOffset : Fld Z h0 xa "com/example/eolog/eolog/producer/AbortedTransaction" "lastOffset" "J" (.long w2)) (f4_xa_lastStableOffset : Fld Z h0 xa "com/example/eolog/eolog/producer/AbortedTransaction" "lastStableOffset" "J" (.long w3)) (f5_xb_producerId : Fld Z h0 xb "com/example/eolog/eolog/producer/AbortedTransaction" "producerId" "J" (.long w4)) (f6_xb_firstOffset : Fld Z h0 xb "com/example/eolog/eolog/producer/AbortedTransaction" "firstOffset" "J" (.long w5)) (f7_xb_lastOffset : Fld Z h0 xb "com/example/eolog/eolog/producer/AbortedTransaction" "lastOffset" "J" (.long w6)) (f8_xb_lastStableOffset : Fld Z h0 xb "com/example/eolog/eolog/producer/AbortedTransaction" "lastStableOffset" "J" (.long w7)) :
    MetFree l (⟨"com/example/eolog/eolog/producer/AbortedTransaction", "equals", "(Ljava/lang/Object;)Z"⟩ : MethodName) (head1 (Jvm.Cond.code (⟨"com/example/eolog/eolog/producer/AbortedTransaction", "equals", "(Ljava/lang/Object;)Z"⟩ : MethodName) prog_83_method_6_code 3 (some .boolean) :: ws) ({ frames := 0, cells := 0, slots := 0, locals := 0 } : Room)) (fun a U => a = #[(.ref xa), (.ref xb)] ∧ Z.Warmed39 U.vm ∧ U.heap = h0) (fun _ _ _ _ _ => True) (fun _ U o U' => ∃ v L, o = .returned v ∧ Q5 Z xa xb w0 w1 w2 w3 w4 w5 w6 w7 h0 n0 v U'.heap L ∧ FrameEnd U o U' L 0 0) := by
  refine MetFree.of_bodySF (plainFor_of_name pn_61) hisR ?_
  intro p e s m args below meth c s₁ Bd hml0 hP hK
  obtain ⟨rfl, hZ, hh⟩ := hP
  have hx := Bd.exec
  have hby := Bd.bytes
  have hml : c.maxLocals = 3 := hml0
  have hown : s.vm.findClass "com/example/eolog/eolog/producer/AbortedTransaction" = some m.cls := findClass_of_methodNamed Bd.named
  have hnm := (name_of_methodNamed Bd.named Bd.method).1
  have X0 : Stand p l e ({ frames := 0, cells := 0, slots := 0, locals := 0 } : Room) s m #[(.ref xa), (.ref xb)] below meth c s₁ [] 0 0 := Stand.of_body Bd
  have e0 : s₁.heap = h0 := by rw [← hh, Bd.state]; rfl
  have N0 := Fr.nil n0
  refine own_start (Q := fun v h L => Q5 Z xa xb w0 w1 w2 w3 w4 w5 w6 w7 h0 n0 v h L) ?_
  refine Goes.via (S' := (s₁.setTop (mkF m 0 #[.val (.ref xa), .val (.ref xb), .unset] []))) (fun t k => castTop (ef_5 m xa xb) k) ?_
  refine Goes.via (S' := (s₁.setTop (mkF m 1 #[.val (.ref xa), .val (.ref xb), .unset] [(.ref xb)]))) (fun t k => XS.aloadN X0.here hx rfl (hb hby d5_0) rfl rfl k) ?_
  obtain ⟨T1, X1, e1, st1⟩ := instY X0 hx hZ hown (hw _ (List.mem_of_getElem? (i := 34) rfl)) e0 (Ins.self f0_xb) (g := (mkF m 1 #[.val (.ref xa), .val (.ref xb), .unset] [(.ref xb)])) rfl rfl (hb hby d5_1)
  refine Goes.via (S' := (T1.setTop (mkF m 4 #[.val (.ref xa), .val (.ref xb), .unset] [(.int (1 : Int32))]))) (fun t k => st1 _ k) ?_
  refine Goes.via (S' := (T1.setTop (mkF m 9 #[.val (.ref xa), .val (.ref xb), .unset] []))) (fun t k => XS.ifYes X1.here hx rfl (pc0 := 4) (pc' := 9) rfl (hb hby d5_4) rfl ((if0 _ _).trans (feq (by decide : ¬ ((1 : Int32) = (0 : Int32)))).2) (by decide) (by decide) k) ?_
  refine Goes.via (S' := (T1.setTop (mkF m 10 #[.val (.ref xa), .val (.ref xb), .unset] [(.ref xb)]))) (fun t k => XS.aloadN X1.here hx rfl (hb hby d5_9) rfl rfl k) ?_
  obtain ⟨T2, X2, e2, st2⟩ := castY X1 hx hZ hown (hw _ (List.mem_of_getElem? (i := 34) rfl)) e1 (Ins.self f0_xb) (g := (mkF m 10 #[.val (.ref xa), .val (.ref xb), .unset] [(.ref xb)])) rfl rfl (hb hby d5_10)
  refine Goes.via (S' := (T2.setTop (mkF m 13 #[.val (.ref xa), .val (.ref xb), .unset] [(.ref xb)]))) (fun t k => st2 _ k) ?_
  refine Goes.via (S' := (T2.setTop (mkF m 14 #[.val (.ref xa), .val (.ref xb), .val (.ref xb)] []))) (fun t k => XS.astoreN X2.here hx rfl (hb hby d5_13) rfl rfl (l' := #[.val (.ref xa), .val (.ref xb), .val (.ref xb)]) rfl k) ?_
  refine Goes.via (S' := (T2.setTop (mkF m 15 #[.val (.ref xa), .val (.ref xb), .val (.ref xb)] [(.ref xa)]))) (fun t k => XS.aloadN X2.here hx rfl (hb hby d5_14) rfl rfl k) ?_
  obtain ⟨T3, X3, e3, st3⟩ := getF X2 hx hZ hown (host := "") (Or.inl (hw _ (List.mem_of_getElem? (i := 13) rfl))) Via.refl e2 f1_xa_producerId (g := (mkF m 15 #[.val (.ref xa), .val (.ref xb), .val (.ref xb)] [(.ref xa)])) rfl rfl (hb hby d5_15)
  refine Goes.via (S' := (T3.setTop (mkF m 18 #[.val (.ref xa), .val (.ref xb), .val (.ref xb)] [(.long w0)]))) (fun t k => st3 _ k) ?_
  refine Goes.via (S' := (T3.setTop (mkF m 19 #[.val (.ref xa), .val (.ref xb), .val (.ref xb)] [(.ref xb), (.long w0)]))) (fun t k => XS.aloadN X3.here hx rfl (hb hby d5_18) rfl rfl k) ?_
  obtain ⟨T4, X4, e4, st4⟩ := getF X3 hx hZ hown (host := "") (Or.inl (hw _ (List.mem_of_getElem? (i := 13) rfl))) Via.refl e3 f5_xb_producerId (g := (mkF m 19 #[.val (.ref xa), .val (.ref xb), .val (.ref xb)] [(.ref xb), (.long w0)])) rfl rfl (hb hby d5_19)
  refine Goes.via (S' := (T4.setTop (mkF m 22 #[.val (.ref xa), .val (.ref xb), .val (.ref xb)] [(.long w4), (.long w0)]))) (fun t k => st4 _ k) ?_
  refine Goes.via (S' := (T4.setTop (mkF m 23 #[.val (.ref xa), .val (.ref xb), .val (.ref xb)] [(.int (lcmpW w0 w4))]))) (fun t k => XS.lcmp X4.here hx rfl (hb hby d5_22) rfl k) ?_
  by_cases hc6 : (w0 = w4)
  · refine Goes.via (S' := (T4.setTop (mkF m 26 #[.val (.ref xa), .val (.ref xb), .val (.ref xb)] []))) (fun t k => XS.ifNo X4.here hx rfl (hb hby d5_23) rfl ((if0 _ _).trans (teq (own_eq hc6)).2) k) ?_
    refine Goes.via (S' := (T4.setTop (mkF m 27 #[.val (.ref xa), .val (.ref xb), .val (.ref xb)] [(.ref xa)]))) (fun t k => XS.aloadN X4.here hx rfl (hb hby d5_26) rfl rfl k) ?_
    obtain ⟨T7, X7, e7, st7⟩ := getF X4 hx hZ hown (host := "") (Or.inl (hw _ (List.mem_of_getElem? (i := 15) rfl))) Via.refl e4 f2_xa_firstOffset (g := (mkF m 27 #[.val (.ref xa), .val (.ref xb), .val (.ref xb)] [(.ref xa)])) rfl rfl (hb hby d5_27)
    refine Goes.via (S' := (T7.setTop (mkF m 30 #[.val (.ref xa), .val (.ref xb), .val (.ref xb)] [(.long w1)]))) (fun t k => st7 _ k) ?_
    refine Goes.via (S' := (T7.setTop (mkF m 31 #[.val (.ref xa), .val (.ref xb), .val (.ref xb)] [(.ref xb), (.long w1)]))) (fun t k => XS.aloadN X7.here hx rfl (hb hby d5_30) rfl rfl k) ?_
    obtain ⟨T8, X8, e8, st8⟩ := getF X7 hx hZ hown (host := "") (Or.inl (hw _ (List.mem_of_getElem? (i := 15) rfl))) Via.refl e7 f6_xb_firstOffset (g := (mkF m 31 #[.val (.ref xa), .val (.ref xb), .val (.ref xb)] [(.ref xb), (.long w1)])) rfl rfl (hb hby d5_31)
    refine Goes.via (S' := (T8.setTop (mkF m 34 #[.val (.ref xa), .val (.ref xb), .val (.ref xb)] [(.long w5), (.long w1)]))) (fun t k => st8 _ k) ?_
    refine Goes.via (S' := (T8.setTop (mkF m 35 #[.val (.ref xa), .val (.ref xb), .val (.ref xb)] [(.int (lcmpW w1 w5))]))) (fun t k => XS.lcmp X8.here hx rfl (hb hby d5_34) rfl k) ?_
    by_cases hc10 : (w1 = w5)
    · refine Goes.via (S' := (T8.setTop (mkF m 38 #[.val (.ref xa), .val (.ref xb), .val (.ref xb)] []))) (fun t k => XS.ifNo X8.here hx rfl (hb hby d5_35) rfl ((if0 _ _).trans (teq (own_eq hc10)).2) k) ?_
      refine Goes.via (S' := (T8.setTop (mkF m 39 #[.val (.ref xa), .val (.ref xb), .val (.ref xb)] [(.ref xa)]))) (fun t k => XS.aloadN X8.here hx rfl (hb hby d5_38) rfl rfl k) ?_
      obtain ⟨T11, X11, e11, st11⟩ := getF X8 hx hZ hown (host := "") (Or.inl (hw _ (List.mem_of_getElem? (i := 17) rfl))) Via.refl e8 f3_xa_lastOffset (g := (mkF m 39 #[.val (.ref xa), .val (.ref xb), .val (.ref xb)] [(.ref xa)])) rfl rfl (hb hby d5_39)
      refine Goes.via (S' := (T11.setTop (mkF m 42 #[.val (.ref xa), .val (.ref xb), .val (.ref xb)] [(.long w2)]))) (fun t k => st11 _ k) ?_
      refine Goes.via (S' := (T11.setTop (mkF m 43 #[.val (.ref xa), .val (.ref xb), .val (.ref xb)] [(.ref xb), (.long w2)]))) (fun t k => XS.aloadN X11.here hx rfl (hb hby d5_42) rfl rfl k) ?_
      obtain ⟨T12, X12, e12, st12⟩ := getF X11 hx hZ hown (host := "") (Or.inl (hw _ (List.mem_of_getElem? (i := 17) rfl))) Via.refl e11 f7_xb_lastOffset (g := (mkF m 43 #[.val (.ref xa), .val (.ref xb), .val (.ref xb)] [(.ref xb), (.long w2)])) rfl rfl (hb hby d5_43)
      refine Goes.via (S' := (T12.setTop (mkF m 46 #[.val (.ref xa), .val (.ref xb), .val (.ref xb)] [(.long w6), (.long w2)]))) (fun t k => st12 _ k) ?_
      refine Goes.via (S' := (T12.setTop (mkF m 47 #[.val (.ref xa), .val (.ref xb), .val (.ref xb)] [(.int (lcmpW w2 w6))]))) (fun t k => XS.lcmp X12.here hx rfl (hb hby d5_46) rfl k) ?_
      by_cases hc14 : (w2 = w6)
      · refine Goes.via (S' := (T12.setTop (mkF m 50 #[.val (.ref xa), .val (.ref xb), .val (.ref xb)] []))) (fun t k => XS.ifNo X12.here hx rfl (hb hby d5_47) rfl ((if0 _ _).trans (teq (own_eq hc14)).2) k) ?_
        refine Goes.via (S' := (T12.setTop (mkF m 51 #[.val (.ref xa), .val (.ref xb), .val (.ref xb)] [(.ref xa)]))) (fun t k => XS.aloadN X12.here hx rfl (hb hby d5_50) rfl rfl k) ?_
        obtain ⟨T15, X15, e15, st15⟩ := getF X12 hx hZ hown (host := "") (Or.inl (hw _ (List.mem_of_getElem? (i := 19) rfl))) Via.refl e12 f4_xa_lastStableOffset (g := (mkF m 51 #[.val (.ref xa), .val (.ref xb), .val (.ref xb)] [(.ref xa)])) rfl rfl (hb hby d5_51)
        refine Goes.via (S' := (T15.setTop (mkF m 54 #[.val (.ref xa), .val (.ref xb), .val (.ref xb)] [(.long w3)]))) (fun t k => st15 _ k) ?_
        refine Goes.via (S' := (T15.setTop (mkF m 55 #[.val (.ref xa), .val (.ref xb), .val (.ref xb)] [(.ref xb), (.long w3)]))) (fun t k => XS.aloadN X15.here hx rfl (hb hby d5_54) rfl rfl k) ?_
        obtain ⟨T16, X16, e16, st16⟩ := getF X15 hx hZ hown (host := "") (Or.inl (hw _ (List.mem_of_getElem? (i := 19) rfl))) Via.refl e15 f8_xb_lastStableOffset (g := (mkF m 55 #[.val (.ref xa), .val (.ref xb), .val (.ref xb)] [(.ref xb), (.long w3)])) rfl rfl (hb hby d5_55)
        refine Goes.via (S' := (T16.setTop (mkF m 58 #[.val (.ref xa), .val (.ref xb), .val (.ref xb)] [(.long w7), (.long w3)]))) (fun t k => st16 _ k) ?_
        refine Goes.via (S' := (T16.setTop (mkF m 59 #[.val (.ref xa), .val (.ref xb), .val (.ref xb)] [(.int (lcmpW w3 w7))]))) (fun t k => XS.lcmp X16.here hx rfl (hb hby d5_58) rfl k) ?_
        obtain ⟨v18, hv18⟩ : ∃ z : Int32, z = (if (w3 = w7) then (1 : Int32) else 0) := ⟨_, rfl⟩
        refine Goes.via (S' := (T16.setTop (mkF m 67 #[.val (.ref xa), .val (.ref xb), .val (.ref xb)] [(.int v18)]))) (fun t k => ?_) ?_
        · by_cases hc17 : (w3 = w7)
          · refine XS.ifNo X16.here hx rfl (hb hby d5_59) rfl ((if0 _ _).trans (teq (own_eq hc17)).2) ?_
            show Steps p.tables e below (T16.setTop (mkF m 62 #[.val (.ref xa), .val (.ref xb), .val (.ref xb)] [])) _
            refine XS.iconst X16.here hx rfl (hb hby d5_62) ?_
            show Steps p.tables e below (T16.setTop (mkF m 63 #[.val (.ref xa), .val (.ref xb), .val (.ref xb)] [(.int (1 : Int32))])) _
            refine XS.goto X16.here hx rfl (pc0 := 63) (pc' := 67) rfl (hb hby d5_63) (by decide) (by decide) ?_
            show Steps p.tables e below (T16.setTop (mkF m 67 #[.val (.ref xa), .val (.ref xb), .val (.ref xb)] [(.int (1 : Int32))])) _
            have q_v18 : v18 = (1 : Int32) := hv18.trans (if_pos hc17)
            rw [q_v18] at k
            exact k
          · refine XS.ifYes X16.here hx rfl (pc0 := 59) (pc' := 66) rfl (hb hby d5_59) rfl ((if0 _ _).trans (feq (own_neq hc17)).2) (by decide) (by decide) ?_
            show Steps p.tables e below (T16.setTop (mkF m 66 #[.val (.ref xa), .val (.ref xb), .val (.ref xb)] [])) _
            refine XS.iconst X16.here hx rfl (hb hby d5_66) ?_
            show Steps p.tables e below (T16.setTop (mkF m 67 #[.val (.ref xa), .val (.ref xb), .val (.ref xb)] [(.int (0 : Int32))])) _
            have q_v18 : v18 = (0 : Int32) := hv18.trans (if_neg hc17)
            rw [q_v18] at k
            exact k
        exact own_ret X16 hx Bd.notSynchronized Bd.returns (own_nb hv18) (Or.inl ⟨rfl, by simp, _, rfl⟩) (hb hby d5_67) e16 ⟨v18, rfl, (by simp [hc6, hc10, hc14, hv18]), N0, rfl⟩ (by decide) (by decide)
      · refine Goes.via (S' := (T12.setTop (mkF m 66 #[.val (.ref xa), .val (.ref xb), .val (.ref xb)] []))) (fun t k => XS.ifYes X12.here hx rfl (pc0 := 47) (pc' := 66) rfl (hb hby d5_47) rfl ((if0 _ _).trans (feq (own_neq hc14)).2) (by decide) (by decide) k) ?_
        refine Goes.via (S' := (T12.setTop (mkF m 67 #[.val (.ref xa), .val (.ref xb), .val (.ref xb)] [(.int (0 : Int32))]))) (fun t k => XS.iconst X12.here hx rfl (hb hby d5_66) k) ?_
        exact own_ret X12 hx Bd.notSynchronized Bd.returns rfl (Or.inl ⟨rfl, by simp, _, rfl⟩) (hb hby d5_67) e12 ⟨(0 : Int32), rfl, (if_neg (fun q => (fun q => (fun q => hc14 q.1) q.2) q.2)).symm, N0, rfl⟩ (by decide) (by decide)
    · refine Goes.via (S' := (T8.setTop (mkF m 66 #[.val (.ref xa), .val (.ref xb), .val (.ref xb)] []))) (fun t k => XS.ifYes X8.here hx rfl (pc0 := 35) (pc' := 66) rfl (hb hby d5_35) rfl ((if0 _ _).trans (feq (own_neq hc10)).2) (by decide) (by decide) k) ?_
      refine Goes.via (S' := (T8.setTop (mkF m 67 #[.val (.ref xa), .val (.ref xb), .val (.ref xb)] [(.int (0 : Int32))]))) (fun t k => XS.iconst X8.here hx rfl (hb hby d5_66) k) ?_
      exact own_ret X8 hx Bd.notSynchronized Bd.returns rfl (Or.inl ⟨rfl, by simp, _, rfl⟩) (hb hby d5_67) e8 ⟨(0 : Int32), rfl, (if_neg (fun q => (fun q => hc10 q.1) q.2)).symm, N0, rfl⟩ (by decide) (by decide)
  · refine Goes.via (S' := (T4.setTop (mkF m 66 #[.val (.ref xa), .val (.ref xb), .val (.ref xb)] []))) (fun t k => XS.ifYes X4.here hx rfl (pc0 := 23) (pc' := 66) rfl (hb hby d5_23) rfl ((if0 _ _).trans (feq (own_neq hc6)).2) (by decide) (by decide) k) ?_
    refine Goes.via (S' := (T4.setTop (mkF m 67 #[.val (.ref xa), .val (.ref xb), .val (.ref xb)] [(.int (0 : Int32))]))) (fun t k => XS.iconst X4.here hx rfl (hb hby d5_66) k) ?_
    exact own_ret X4 hx Bd.notSynchronized Bd.returns rfl (Or.inl ⟨rfl, by simp, _, rfl⟩) (hb hby d5_67) e4 ⟨(0 : Int32), rfl, (if_neg (fun q => hc6 q.1)).symm, N0, rfl⟩ (by decide) (by decide)
theorem d5_7 : decode prog_83_method_6_code 7 = .ok (.iconst 0, 1) := by decide +kernel
theorem d5_8 : decode prog_83_method_6_code 8 = .ok (.ireturn, 1) := by decide +kernel
theorem ef_5n (m : MethodId) (xa : Addr) : entryFrame m #[(.ref xa), .null] 3 = mkF m 0 #[.val (.ref xa), .val .null, .unset] [] := by first | (simp [entryFrame, mkF, argsToLocals, Value.category]; done) | rfl
def Q5n (Z : State) (xa : Addr) (h0 : Heap) (n0 : Nat) (v : Option Value) (h : Heap) (L : List Loc) : Prop := v = some (.int (0 : Int32)) ∧ Fr n0 L ∧ h = h0
set_option maxRecDepth 65536 in
set_option maxHeartbeats 40000000 in
theorem rm5n (l : Launch) (Z : State) (a0 : Array Value) (hw : ∀ d ∈ tables_1, d.before a0 Z = true) (ws : List Jvm.Cond) (xa : Addr) (h0 : Heap) (n0 : Nat) (Z0 : n0 ≤ h0.size) :
    MetFree l (⟨"com/example/eolog/eolog/producer/AbortedTransaction", "equals", "(Ljava/lang/Object;)Z"⟩ : MethodName) (head1 (Jvm.Cond.code (⟨"com/example/eolog/eolog/producer/AbortedTransaction", "equals", "(Ljava/lang/Object;)Z"⟩ : MethodName) prog_83_method_6_code 3 (some .boolean) :: ws) ({ frames := 0, cells := 0, slots := 0, locals := 0 } : Room)) (fun a U => a = #[(.ref xa), .null] ∧ Z.Warmed39 U.vm ∧ U.heap = h0) (fun _ _ _ _ _ => True) (fun _ U o U' => ∃ v L, o = .returned v ∧ Q5n Z xa h0 n0 v U'.heap L ∧ FrameEnd U o U' L 0 0) := by
  refine MetFree.of_bodySF (plainFor_of_name pn_61) hisR ?_
  intro p e s m args below meth c s₁ Bd hml0 hP hK
  obtain ⟨rfl, hZ, hh⟩ := hP
  have hx := Bd.exec
  have hby := Bd.bytes
  have hml : c.maxLocals = 3 := hml0
  have hown : s.vm.findClass "com/example/eolog/eolog/producer/AbortedTransaction" = some m.cls := findClass_of_methodNamed Bd.named
  have hnm := (name_of_methodNamed Bd.named Bd.method).1
  have X0 : Stand p l e ({ frames := 0, cells := 0, slots := 0, locals := 0 } : Room) s m #[(.ref xa), .null] below meth c s₁ [] 0 0 := Stand.of_body Bd
  have e0 : s₁.heap = h0 := by rw [← hh, Bd.state]; rfl
  have N0 := Fr.nil n0
  refine own_start (Q := fun v h L => Q5n Z xa h0 n0 v h L) ?_
  refine Goes.via (S' := (s₁.setTop (mkF m 0 #[.val (.ref xa), .val .null, .unset] []))) (fun t k => castTop (ef_5n m xa) k) ?_
  refine Goes.via (S' := (s₁.setTop (mkF m 1 #[.val (.ref xa), .val .null, .unset] [.null]))) (fun t k => XS.aloadN X0.here hx rfl (hb hby d5_0) rfl rfl k) ?_
  refine Goes.via (S' := (s₁.setTop (mkF m 4 #[.val (.ref xa), .val .null, .unset] [(.int (0 : Int32))]))) (fun t k => X0.instanceofNull hx (g := (mkF m 1 #[.val (.ref xa), .val .null, .unset] [.null])) rfl rfl (hb hby d5_1) _ k) ?_
  refine Goes.via (S' := (s₁.setTop (mkF m 7 #[.val (.ref xa), .val .null, .unset] []))) (fun t k => XS.ifNo X0.here hx rfl (hb hby d5_4) rfl ((if0 _ _).trans (teq rfl).2) k) ?_
  refine Goes.via (S' := (s₁.setTop (mkF m 8 #[.val (.ref xa), .val .null, .unset] [(.int (0 : Int32))]))) (fun t k => XS.iconst X0.here hx rfl (hb hby d5_7) k) ?_
  exact own_ret X0 hx Bd.notSynchronized Bd.returns rfl (Or.inl ⟨rfl, by simp, _, rfl⟩) (hb hby d5_8) e0 ⟨rfl, N0, rfl⟩ (by decide) (by decide)
theorem ef_5l (m : MethodId) (xa : Addr) (xb : Addr) : entryFrame m #[(.ref xa), (.ref xb)] 3 = mkF m 0 #[.val (.ref xa), .val (.ref xb), .unset] [] := by first | (simp [entryFrame, mkF, argsToLocals, Value.category]; done) | rfl
def Q5l (Z : State) (xa : Addr) (xb : Addr) (h0 : Heap) (n0 : Nat) (v : Option Value) (h : Heap) (L : List Loc) : Prop := v = some (.int (0 : Int32)) ∧ Fr n0 L ∧ h = h0
set_option maxRecDepth 65536 in
set_option maxHeartbeats 40000000 in
theorem rm5l (l : Launch) (Z : State) (a0 : Array Value) (hw : ∀ d ∈ tables_1, d.before a0 Z = true) (ws : List Jvm.Cond) (xa : Addr) (xb : Addr) (h0 : Heap) (n0 : Nat) (Z0 : n0 ≤ h0.size) (f0_xb : Exa Z h0 xb "java/lang/Long") :
    MetFree l (⟨"com/example/eolog/eolog/producer/AbortedTransaction", "equals", "(Ljava/lang/Object;)Z"⟩ : MethodName) (head1 (Jvm.Cond.code (⟨"com/example/eolog/eolog/producer/AbortedTransaction", "equals", "(Ljava/lang/Object;)Z"⟩ : MethodName) prog_83_method_6_code 3 (some .boolean) :: ws) ({ frames := 0, cells := 0, slots := 0, locals := 0 } : Room)) (fun a U => a = #[(.ref xa), (.ref xb)] ∧ Z.Warmed39 U.vm ∧ U.heap = h0) (fun _ _ _ _ _ => True) (fun _ U o U' => ∃ v L, o = .returned v ∧ Q5l Z xa xb h0 n0 v U'.heap L ∧ FrameEnd U o U' L 0 0) := by
  refine MetFree.of_bodySF (plainFor_of_name pn_61) hisR ?_
  intro p e s m args below meth c s₁ Bd hml0 hP hK
  obtain ⟨rfl, hZ, hh⟩ := hP
  have hx := Bd.exec
  have hby := Bd.bytes
  have hml : c.maxLocals = 3 := hml0
  have hown : s.vm.findClass "com/example/eolog/eolog/producer/AbortedTransaction" = some m.cls := findClass_of_methodNamed Bd.named
  have hnm := (name_of_methodNamed Bd.named Bd.method).1
  have X0 : Stand p l e ({ frames := 0, cells := 0, slots := 0, locals := 0 } : Room) s m #[(.ref xa), (.ref xb)] below meth c s₁ [] 0 0 := Stand.of_body Bd
  have e0 : s₁.heap = h0 := by rw [← hh, Bd.state]; rfl
  have N0 := Fr.nil n0
  refine own_start (Q := fun v h L => Q5l Z xa xb h0 n0 v h L) ?_
  refine Goes.via (S' := (s₁.setTop (mkF m 0 #[.val (.ref xa), .val (.ref xb), .unset] []))) (fun t k => castTop (ef_5l m xa xb) k) ?_
  refine Goes.via (S' := (s₁.setTop (mkF m 1 #[.val (.ref xa), .val (.ref xb), .unset] [(.ref xb)]))) (fun t k => XS.aloadN X0.here hx rfl (hb hby d5_0) rfl rfl k) ?_
  obtain ⟨T1, X1, e1, st1⟩ := instNo X0 hx hZ hown (hw _ (List.mem_of_getElem? (i := 34) rfl)) e0 f0_xb (own_notL (hw _ (List.mem_of_getElem? (i := 36) rfl)) (hw _ (List.mem_of_getElem? (i := 37) rfl)) (hw _ (List.mem_of_getElem? (i := 38) rfl)) (hw _ (List.mem_of_getElem? (i := 5) rfl)) (by decide) (by decide) (by decide)) (g := (mkF m 1 #[.val (.ref xa), .val (.ref xb), .unset] [(.ref xb)])) rfl rfl (hb hby d5_1)
  refine Goes.via (S' := (T1.setTop (mkF m 4 #[.val (.ref xa), .val (.ref xb), .unset] [(.int (0 : Int32))]))) (fun t k => st1 _ k) ?_
  refine Goes.via (S' := (T1.setTop (mkF m 7 #[.val (.ref xa), .val (.ref xb), .unset] []))) (fun t k => XS.ifNo X1.here hx rfl (hb hby d5_4) rfl ((if0 _ _).trans (teq rfl).2) k) ?_
  refine Goes.via (S' := (T1.setTop (mkF m 8 #[.val (.ref xa), .val (.ref xb), .unset] [(.int (0 : Int32))]))) (fun t k => XS.iconst X1.here hx rfl (hb hby d5_7) k) ?_
  exact own_ret X1 hx Bd.notSynchronized Bd.returns rfl (Or.inl ⟨rfl, by simp, _, rfl⟩) (hb hby d5_8) e1 ⟨rfl, N0, rfl⟩ (by decide) (by decide)
theorem ef_0 (m : MethodId) (q0 : Int64) (q1 : Int64) (q2 : Int64) (q3 : Int64) (p4 : Int32) (q5 : Int64) : entryFrame m #[(.long q0), (.long q1), (.long q2), (.long q3), (.int p4), (.long q5)] maxLocals = mkF m 0 #[.val (.long q0), .second, .val (.long q1), .second, .val (.long q2), .second, .val (.long q3), .second, .val (.int p4), .val (.long q5), .second, .unset, .unset, .unset, .unset, .unset, .unset, .unset, .unset, .unset, .unset, .unset, .unset, .unset, .unset, .unset, .unset, .unset] [] := by first | (simp [entryFrame, mkF, argsToLocals, Value.category, maxLocals]; done) | rfl
def Q0 (Z : State) (q0 : Int64) (q1 : Int64) (q2 : Int64) (q3 : Int64) (p4 : Int32) (q5 : Int64) (yc : Addr) (h0 : Heap) (n0 : Nat) (v : Option Value) (h : Heap) (L : List Loc) : Prop := v = some (.int 1) ∧ Fr n0 L
set_option maxRecDepth 65536 in
set_option maxHeartbeats 40000000 in
theorem rm0 (l : Launch) (Z : State) (a0 : Array Value) (hw : ∀ d ∈ tables_1, d.before a0 Z = true) (ws : List Jvm.Cond) (q0 : Int64) (q1 : Int64) (q2 : Int64) (q3 : Int64) (p4 : Int32) (q5 : Int64) (yc : Addr) (h0 : Heap) (n0 : Nat) (Z0 : n0 ≤ h0.size) (f0_cache : Sta Z h0 "java/lang/Long$LongCache" "cache" "[Ljava/lang/Long;" (.ref yc)) (hcache : own_Cache Z h0 yc) :
    MetFree l x (head1 (Jvm.Cond.code x code maxLocals ret :: ws) room_1) (fun a U => a = #[(.long q0), (.long q1), (.long q2), (.long q3), (.int p4), (.long q5)] ∧ Z.Warmed39 U.vm ∧ U.heap = h0) (fun _ _ _ _ _ => True) (fun _ U o U' => ∃ v L, o = .returned v ∧ Q0 Z q0 q1 q2 q3 p4 q5 yc h0 n0 v U'.heap L ∧ FrameEnd U o U' L 16 128) := by
  refine MetFree.of_bodySF (plainFor_of_name pn_45) hisR ?_
  intro p e s m args below meth c s₁ Bd hml0 hP hK
  obtain ⟨rfl, hZ, hh⟩ := hP
  have hx := Bd.exec
  have hby := Bd.bytes
  have hml : c.maxLocals = 28 := hml0
  have hown : s.vm.findClass "com/example/eolog/eolog/producer/AbortedTransactionEqualsPinLaw" = some m.cls := findClass_of_methodNamed Bd.named
  have hnm := (name_of_methodNamed Bd.named Bd.method).1
  have X0 : Stand p l e room_1 s m #[(.long q0), (.long q1), (.long q2), (.long q3), (.int p4), (.long q5)] below meth c s₁ [] 0 0 := Stand.of_body Bd
  have e0 : s₁.heap = h0 := by rw [← hh, Bd.state]; rfl
  have N0 := Fr.nil n0
  refine own_start (Q := fun v h L => Q0 Z q0 q1 q2 q3 p4 q5 yc h0 n0 v h L) ?_
  refine Goes.via (S' := (s₁.setTop (mkF m 0 #[.val (.long q0), .second, .val (.long q1), .second, .val (.long q2), .second, .val (.long q3), .second, .val (.int p4), .val (.long q5), .second, .unset, .unset, .unset, .unset, .unset, .unset, .unset, .unset, .unset, .unset, .unset, .unset, .unset, .unset, .unset, .unset, .unset] []))) (fun t k => castTop (ef_0 m q0 q1 q2 q3 p4 q5) k) ?_
  refine Goes.via (S' := (s₁.setTop (mkF m 1 #[.val (.long q0), .second, .val (.long q1), .second, .val (.long q2), .second, .val (.long q3), .second, .val (.int p4), .val (.long q5), .second, .unset, .unset, .unset, .unset, .unset, .unset, .unset, .unset, .unset, .unset, .unset, .unset, .unset, .unset, .unset, .unset, .unset] [(.long q0)]))) (fun t k => XS.lloadN X0.here hx rfl (hb hby at_0) rfl k) ?_
  refine Goes.via (S' := (s₁.setTop (mkF m 3 #[.val (.long q0), .second, .val (.long q1), .second, .val (.long q2), .second, .val (.long q3), .second, .val (.int p4), .val (.long q5), .second, .unset, .unset, .unset, .unset, .unset, .unset, .unset, .unset, .unset, .unset, .unset, .unset, .unset, .unset, .unset, .unset, .unset] [(.int p4), (.long q0)]))) (fun t k => XS.iload X0.here hx rfl (hb hby at_1) rfl k) ?_
  refine Goes.via (S' := (s₁.setTop (mkF m 4 #[.val (.long q0), .second, .val (.long q1), .second, .val (.long q2), .second, .val (.long q3), .second, .val (.int p4), .val (.long q5), .second, .unset, .unset, .unset, .unset, .unset, .unset, .unset, .unset, .unset, .unset, .unset, .unset, .unset, .unset, .unset, .unset, .unset] [(.int (0 : Int32)), (.int p4), (.long q0)]))) (fun t k => XS.iconst X0.here hx rfl (hb hby at_3) k) ?_
  refine Goes.via (S' := (s₁.setTop (mkF m 6 #[.val (.long q0), .second, .val (.long q1), .second, .val (.long q2), .second, .val (.long q3), .second, .val (.int p4), .val (.long q5), .second, .unset, .unset, .unset, .unset, .unset, .unset, .unset, .unset, .unset, .unset, .unset, .unset, .unset, .unset, .unset, .unset, .unset] [(.long q5), (.int (0 : Int32)), (.int p4), (.long q0)]))) (fun t k => XS.lload X0.here hx rfl (hb hby at_4) rfl k) ?_
  obtain ⟨_, _, ⟨T1, L1, k1, n1⟩, -, X1, ⟨Lc1, hQ1, l1, y1, z1⟩, st1⟩ := Jvm.LawKit.callS X0 hx (y := (⟨"com/example/eolog/eolog/producer/AbortedTransactionEqualsPinLaw", "bump", "(JIIJ)J"⟩ : MethodName)) hown (mvT hZ (hw _ (List.mem_of_getElem? (i := 0) rfl))) (mvT hZ (hw _ (List.mem_of_getElem? (i := 1) rfl))) (mvT hZ (hw _ (List.mem_of_getElem? (i := 2) rfl))) (mvT hZ (hw _ (List.mem_of_getElem? (i := 3) rfl))) (by decide) (backOf (W := 0) (rm1 l Z a0 hw [] q0 p4 (0 : Int32) q5 h0 n0 Z0 ) hZ (hw _ (List.mem_of_getElem? (i := 3) rfl)) (hw _ (List.mem_of_getElem? (i := 2) rfl)) (by decide) (by decide)) (g := (mkF m 6 #[.val (.long q0), .second, .val (.long q1), .second, .val (.long q2), .second, .val (.long q3), .second, .val (.int p4), .val (.long q5), .second, .unset, .unset, .unset, .unset, .unset, .unset, .unset, .unset, .unset, .unset, .unset, .unset, .unset, .unset, .unset, .unset, .unset] [(.long q5), (.int (0 : Int32)), (.int p4), (.long q0)])) rfl (by rw [hml]; rfl) (argsL := [(.long q0), (.int p4), (.int (0 : Int32)), (.long q5)]) (rest := []) (lenOf pd_2 rfl) rfl (by show 2 * 0 + _ ≤ _; exact Nat.le_of_eq rfl) (hb hby at_6) (fun _ _ => ⟨rfl, e0, (by decide : 0 + 0 ≤ _), (by decide : 0 + 0 ≤ _)⟩)
  dsimp only [Pt.U, Pt.locs, Pt.cells, Pt.slots] at X1 l1 y1 z1 st1 hQ1
  subst l1 y1 z1
  obtain ⟨r1, rfl, hr1, N1q, eq1⟩ := hQ1
  have N1 := Fr.app N0 N1q
  refine Goes.via (S' := (T1.setTop (mkF m 9 #[.val (.long q0), .second, .val (.long q1), .second, .val (.long q2), .second, .val (.long q3), .second, .val (.int p4), .val (.long q5), .second, .unset, .unset, .unset, .unset, .unset, .unset, .unset, .unset, .unset, .unset, .unset, .unset, .unset, .unset, .unset, .unset, .unset] [(.long r1)]))) (fun t k => st1 _ k) ?_
  refine Goes.via (S' := (T1.setTop (mkF m 11 #[.val (.long q0), .second, .val (.long q1), .second, .val (.long q2), .second, .val (.long q3), .second, .val (.int p4), .val (.long q5), .second, .val (.long r1), .second, .unset, .unset, .unset, .unset, .unset, .unset, .unset, .unset, .unset, .unset, .unset, .unset, .unset, .unset, .unset] []))) (fun t k => XS.lstore X1.here hx rfl (hb hby at_9) rfl (l' := #[.val (.long q0), .second, .val (.long q1), .second, .val (.long q2), .second, .val (.long q3), .second, .val (.int p4), .val (.long q5), .second, .val (.long r1), .second, .unset, .unset, .unset, .unset, .unset, .unset, .unset, .unset, .unset, .unset, .unset, .unset, .unset, .unset, .unset]) rfl k) ?_
  refine Goes.via (S' := (T1.setTop (mkF m 12 #[.val (.long q0), .second, .val (.long q1), .second, .val (.long q2), .second, .val (.long q3), .second, .val (.int p4), .val (.long q5), .second, .val (.long r1), .second, .unset, .unset, .unset, .unset, .unset, .unset, .unset, .unset, .unset, .unset, .unset, .unset, .unset, .unset, .unset] [(.long q1)]))) (fun t k => XS.lloadN X1.here hx rfl (hb hby at_11) rfl k) ?_
  refine Goes.via (S' := (T1.setTop (mkF m 14 #[.val (.long q0), .second, .val (.long q1), .second, .val (.long q2), .second, .val (.long q3), .second, .val (.int p4), .val (.long q5), .second, .val (.long r1), .second, .unset, .unset, .unset, .unset, .unset, .unset, .unset, .unset, .unset, .unset, .unset, .unset, .unset, .unset, .unset] [(.int p4), (.long q1)]))) (fun t k => XS.iload X1.here hx rfl (hb hby at_12) rfl k) ?_
  refine Goes.via (S' := (T1.setTop (mkF m 15 #[.val (.long q0), .second, .val (.long q1), .second, .val (.long q2), .second, .val (.long q3), .second, .val (.int p4), .val (.long q5), .second, .val (.long r1), .second, .unset, .unset, .unset, .unset, .unset, .unset, .unset, .unset, .unset, .unset, .unset, .unset, .unset, .unset, .unset] [(.int (1 : Int32)), (.int p4), (.long q1)]))) (fun t k => XS.iconst X1.here hx rfl (hb hby at_14) k) ?_
  refine Goes.via (S' := (T1.setTop (mkF m 17 #[.val (.long q0), .second, .val (.long q1), .second, .val (.long q2), .second, .val (.long q3), .second, .val (.int p4), .val (.long q5), .second, .val (.long r1), .second, .unset, .unset, .unset, .unset, .unset, .unset, .unset, .unset, .unset, .unset, .unset, .unset, .unset, .unset, .unset] [(.long q5), (.int (1 : Int32)), (.int p4), (.long q1)]))) (fun t k => XS.lload X1.here hx rfl (hb hby at_15) rfl k) ?_
  obtain ⟨_, _, ⟨T2, L2, k2, n2⟩, -, X2, ⟨Lc2, hQ2, l2, y2, z2⟩, st2⟩ := Jvm.LawKit.callS X1 hx (y := (⟨"com/example/eolog/eolog/producer/AbortedTransactionEqualsPinLaw", "bump", "(JIIJ)J"⟩ : MethodName)) hown (mvT hZ (hw _ (List.mem_of_getElem? (i := 0) rfl))) (mvT hZ (hw _ (List.mem_of_getElem? (i := 1) rfl))) (mvT hZ (hw _ (List.mem_of_getElem? (i := 2) rfl))) (mvT hZ (hw _ (List.mem_of_getElem? (i := 3) rfl))) (by decide) (backOf (W := 0) (rm1 l Z a0 hw [] q1 p4 (1 : Int32) q5 h0 n0 Z0 ) hZ (hw _ (List.mem_of_getElem? (i := 3) rfl)) (hw _ (List.mem_of_getElem? (i := 2) rfl)) (by decide) (by decide)) (g := (mkF m 17 #[.val (.long q0), .second, .val (.long q1), .second, .val (.long q2), .second, .val (.long q3), .second, .val (.int p4), .val (.long q5), .second, .val (.long r1), .second, .unset, .unset, .unset, .unset, .unset, .unset, .unset, .unset, .unset, .unset, .unset, .unset, .unset, .unset, .unset] [(.long q5), (.int (1 : Int32)), (.int p4), (.long q1)])) rfl (by rw [hml]; rfl) (argsL := [(.long q1), (.int p4), (.int (1 : Int32)), (.long q5)]) (rest := []) (lenOf pd_2 rfl) rfl (by show 2 * 0 + _ ≤ _; exact Nat.le_of_eq rfl) (hb hby at_17) (fun _ _ => ⟨rfl, eq1, (by decide : 0 + 0 ≤ _), (by decide : 0 + 0 ≤ _)⟩)
  dsimp only [Pt.U, Pt.locs, Pt.cells, Pt.slots] at X2 l2 y2 z2 st2 hQ2
  subst l2 y2 z2
  obtain ⟨r2, rfl, hr2, N2q, eq2⟩ := hQ2
  have N2 := Fr.app N1 N2q
  refine Goes.via (S' := (T2.setTop (mkF m 20 #[.val (.long q0), .second, .val (.long q1), .second, .val (.long q2), .second, .val (.long q3), .second, .val (.int p4), .val (.long q5), .second, .val (.long r1), .second, .unset, .unset, .unset, .unset, .unset, .unset, .unset, .unset, .unset, .unset, .unset, .unset, .unset, .unset, .unset] [(.long r2)]))) (fun t k => st2 _ k) ?_
  refine Goes.via (S' := (T2.setTop (mkF m 22 #[.val (.long q0), .second, .val (.long q1), .second, .val (.long q2), .second, .val (.long q3), .second, .val (.int p4), .val (.long q5), .second, .val (.long r1), .second, .val (.long r2), .second, .unset, .unset, .unset, .unset, .unset, .unset, .unset, .unset, .unset, .unset, .unset, .unset, .unset] []))) (fun t k => XS.lstore X2.here hx rfl (hb hby at_20) rfl (l' := #[.val (.long q0), .second, .val (.long q1), .second, .val (.long q2), .second, .val (.long q3), .second, .val (.int p4), .val (.long q5), .second, .val (.long r1), .second, .val (.long r2), .second, .unset, .unset, .unset, .unset, .unset, .unset, .unset, .unset, .unset, .unset, .unset, .unset, .unset]) rfl k) ?_
  refine Goes.via (S' := (T2.setTop (mkF m 24 #[.val (.long q0), .second, .val (.long q1), .second, .val (.long q2), .second, .val (.long q3), .second, .val (.int p4), .val (.long q5), .second, .val (.long r1), .second, .val (.long r2), .second, .unset, .unset, .unset, .unset, .unset, .unset, .unset, .unset, .unset, .unset, .unset, .unset, .unset] [(.long q2)]))) (fun t k => XS.lload X2.here hx rfl (hb hby at_22) rfl k) ?_
  refine Goes.via (S' := (T2.setTop (mkF m 26 #[.val (.long q0), .second, .val (.long q1), .second, .val (.long q2), .second, .val (.long q3), .second, .val (.int p4), .val (.long q5), .second, .val (.long r1), .second, .val (.long r2), .second, .unset, .unset, .unset, .unset, .unset, .unset, .unset, .unset, .unset, .unset, .unset, .unset, .unset] [(.int p4), (.long q2)]))) (fun t k => XS.iload X2.here hx rfl (hb hby at_24) rfl k) ?_
  refine Goes.via (S' := (T2.setTop (mkF m 27 #[.val (.long q0), .second, .val (.long q1), .second, .val (.long q2), .second, .val (.long q3), .second, .val (.int p4), .val (.long q5), .second, .val (.long r1), .second, .val (.long r2), .second, .unset, .unset, .unset, .unset, .unset, .unset, .unset, .unset, .unset, .unset, .unset, .unset, .unset] [(.int (2 : Int32)), (.int p4), (.long q2)]))) (fun t k => XS.iconst X2.here hx rfl (hb hby at_26) k) ?_
  refine Goes.via (S' := (T2.setTop (mkF m 29 #[.val (.long q0), .second, .val (.long q1), .second, .val (.long q2), .second, .val (.long q3), .second, .val (.int p4), .val (.long q5), .second, .val (.long r1), .second, .val (.long r2), .second, .unset, .unset, .unset, .unset, .unset, .unset, .unset, .unset, .unset, .unset, .unset, .unset, .unset] [(.long q5), (.int (2 : Int32)), (.int p4), (.long q2)]))) (fun t k => XS.lload X2.here hx rfl (hb hby at_27) rfl k) ?_
  obtain ⟨_, _, ⟨T3, L3, k3, n3⟩, -, X3, ⟨Lc3, hQ3, l3, y3, z3⟩, st3⟩ := Jvm.LawKit.callS X2 hx (y := (⟨"com/example/eolog/eolog/producer/AbortedTransactionEqualsPinLaw", "bump", "(JIIJ)J"⟩ : MethodName)) hown (mvT hZ (hw _ (List.mem_of_getElem? (i := 0) rfl))) (mvT hZ (hw _ (List.mem_of_getElem? (i := 1) rfl))) (mvT hZ (hw _ (List.mem_of_getElem? (i := 2) rfl))) (mvT hZ (hw _ (List.mem_of_getElem? (i := 3) rfl))) (by decide) (backOf (W := 0) (rm1 l Z a0 hw [] q2 p4 (2 : Int32) q5 h0 n0 Z0 ) hZ (hw _ (List.mem_of_getElem? (i := 3) rfl)) (hw _ (List.mem_of_getElem? (i := 2) rfl)) (by decide) (by decide)) (g := (mkF m 29 #[.val (.long q0), .second, .val (.long q1), .second, .val (.long q2), .second, .val (.long q3), .second, .val (.int p4), .val (.long q5), .second, .val (.long r1), .second, .val (.long r2), .second, .unset, .unset, .unset, .unset, .unset, .unset, .unset, .unset, .unset, .unset, .unset, .unset, .unset] [(.long q5), (.int (2 : Int32)), (.int p4), (.long q2)])) rfl (by rw [hml]; rfl) (argsL := [(.long q2), (.int p4), (.int (2 : Int32)), (.long q5)]) (rest := []) (lenOf pd_2 rfl) rfl (by show 2 * 0 + _ ≤ _; exact Nat.le_of_eq rfl) (hb hby at_29) (fun _ _ => ⟨rfl, eq2, (by decide : 0 + 0 ≤ _), (by decide : 0 + 0 ≤ _)⟩)
  dsimp only [Pt.U, Pt.locs, Pt.cells, Pt.slots] at X3 l3 y3 z3 st3 hQ3
  subst l3 y3 z3
  obtain ⟨r3, rfl, hr3, N3q, eq3⟩ := hQ3
  have N3 := Fr.app N2 N3q
  refine Goes.via (S' := (T3.setTop (mkF m 32 #[.val (.long q0), .second, .val (.long q1), .second, .val (.long q2), .second, .val (.long q3), .second, .val (.int p4), .val (.long q5), .second, .val (.long r1), .second, .val (.long r2), .second, .unset, .unset, .unset, .unset, .unset, .unset, .unset, .unset, .unset, .unset, .unset, .unset, .unset] [(.long r3)]))) (fun t k => st3 _ k) ?_
  refine Goes.via (S' := (T3.setTop (mkF m 34 #[.val (.long q0), .second, .val (.long q1), .second, .val (.long q2), .second, .val (.long q3), .second, .val (.int p4), .val (.long q5), .second, .val (.long r1), .second, .val (.long r2), .second, .val (.long r3), .second, .unset, .unset, .unset, .unset, .unset, .unset, .unset, .unset, .unset, .unset, .unset] []))) (fun t k => XS.lstore X3.here hx rfl (hb hby at_32) rfl (l' := #[.val (.long q0), .second, .val (.long q1), .second, .val (.long q2), .second, .val (.long q3), .second, .val (.int p4), .val (.long q5), .second, .val (.long r1), .second, .val (.long r2), .second, .val (.long r3), .second, .unset, .unset, .unset, .unset, .unset, .unset, .unset, .unset, .unset, .unset, .unset]) rfl k) ?_
  refine Goes.via (S' := (T3.setTop (mkF m 36 #[.val (.long q0), .second, .val (.long q1), .second, .val (.long q2), .second, .val (.long q3), .second, .val (.int p4), .val (.long q5), .second, .val (.long r1), .second, .val (.long r2), .second, .val (.long r3), .second, .unset, .unset, .unset, .unset, .unset, .unset, .unset, .unset, .unset, .unset, .unset] [(.long q3)]))) (fun t k => XS.lload X3.here hx rfl (hb hby at_34) rfl k) ?_
  refine Goes.via (S' := (T3.setTop (mkF m 38 #[.val (.long q0), .second, .val (.long q1), .second, .val (.long q2), .second, .val (.long q3), .second, .val (.int p4), .val (.long q5), .second, .val (.long r1), .second, .val (.long r2), .second, .val (.long r3), .second, .unset, .unset, .unset, .unset, .unset, .unset, .unset, .unset, .unset, .unset, .unset] [(.int p4), (.long q3)]))) (fun t k => XS.iload X3.here hx rfl (hb hby at_36) rfl k) ?_
  refine Goes.via (S' := (T3.setTop (mkF m 39 #[.val (.long q0), .second, .val (.long q1), .second, .val (.long q2), .second, .val (.long q3), .second, .val (.int p4), .val (.long q5), .second, .val (.long r1), .second, .val (.long r2), .second, .val (.long r3), .second, .unset, .unset, .unset, .unset, .unset, .unset, .unset, .unset, .unset, .unset, .unset] [(.int (3 : Int32)), (.int p4), (.long q3)]))) (fun t k => XS.iconst X3.here hx rfl (hb hby at_38) k) ?_
  refine Goes.via (S' := (T3.setTop (mkF m 41 #[.val (.long q0), .second, .val (.long q1), .second, .val (.long q2), .second, .val (.long q3), .second, .val (.int p4), .val (.long q5), .second, .val (.long r1), .second, .val (.long r2), .second, .val (.long r3), .second, .unset, .unset, .unset, .unset, .unset, .unset, .unset, .unset, .unset, .unset, .unset] [(.long q5), (.int (3 : Int32)), (.int p4), (.long q3)]))) (fun t k => XS.lload X3.here hx rfl (hb hby at_39) rfl k) ?_
  obtain ⟨_, _, ⟨T4, L4, k4, n4⟩, -, X4, ⟨Lc4, hQ4, l4, y4, z4⟩, st4⟩ := Jvm.LawKit.callS X3 hx (y := (⟨"com/example/eolog/eolog/producer/AbortedTransactionEqualsPinLaw", "bump", "(JIIJ)J"⟩ : MethodName)) hown (mvT hZ (hw _ (List.mem_of_getElem? (i := 0) rfl))) (mvT hZ (hw _ (List.mem_of_getElem? (i := 1) rfl))) (mvT hZ (hw _ (List.mem_of_getElem? (i := 2) rfl))) (mvT hZ (hw _ (List.mem_of_getElem? (i := 3) rfl))) (by decide) (backOf (W := 0) (rm1 l Z a0 hw [] q3 p4 (3 : Int32) q5 h0 n0 Z0 ) hZ (hw _ (List.mem_of_getElem? (i := 3) rfl)) (hw _ (List.mem_of_getElem? (i := 2) rfl)) (by decide) (by decide)) (g := (mkF m 41 #[.val (.long q0), .second, .val (.long q1), .second, .val (.long q2), .second, .val (.long q3), .second, .val (.int p4), .val (.long q5), .second, .val (.long r1), .second, .val (.long r2), .second, .val (.long r3), .second, .unset, .unset, .unset, .unset, .unset, .unset, .unset, .unset, .unset, .unset, .unset] [(.long q5), (.int (3 : Int32)), (.int p4), (.long q3)])) rfl (by rw [hml]; rfl) (argsL := [(.long q3), (.int p4), (.int (3 : Int32)), (.long q5)]) (rest := []) (lenOf pd_2 rfl) rfl (by show 2 * 0 + _ ≤ _; exact Nat.le_of_eq rfl) (hb hby at_41) (fun _ _ => ⟨rfl, eq3, (by decide : 0 + 0 ≤ _), (by decide : 0 + 0 ≤ _)⟩)
  dsimp only [Pt.U, Pt.locs, Pt.cells, Pt.slots] at X4 l4 y4 z4 st4 hQ4
  subst l4 y4 z4
  obtain ⟨r4, rfl, hr4, N4q, eq4⟩ := hQ4
  have N4 := Fr.app N3 N4q
  refine Goes.via (S' := (T4.setTop (mkF m 44 #[.val (.long q0), .second, .val (.long q1), .second, .val (.long q2), .second, .val (.long q3), .second, .val (.int p4), .val (.long q5), .second, .val (.long r1), .second, .val (.long r2), .second, .val (.long r3), .second, .unset, .unset, .unset, .unset, .unset, .unset, .unset, .unset, .unset, .unset, .unset] [(.long r4)]))) (fun t k => st4 _ k) ?_
  refine Goes.via (S' := (T4.setTop (mkF m 46 #[.val (.long q0), .second, .val (.long q1), .second, .val (.long q2), .second, .val (.long q3), .second, .val (.int p4), .val (.long q5), .second, .val (.long r1), .second, .val (.long r2), .second, .val (.long r3), .second, .val (.long r4), .second, .unset, .unset, .unset, .unset, .unset, .unset, .unset, .unset, .unset] []))) (fun t k => XS.lstore X4.here hx rfl (hb hby at_44) rfl (l' := #[.val (.long q0), .second, .val (.long q1), .second, .val (.long q2), .second, .val (.long q3), .second, .val (.int p4), .val (.long q5), .second, .val (.long r1), .second, .val (.long r2), .second, .val (.long r3), .second, .val (.long r4), .second, .unset, .unset, .unset, .unset, .unset, .unset, .unset, .unset, .unset]) rfl k) ?_
  obtain ⟨T5, h5, X5, e5, E5, A5, D5, -, st5⟩ := newO X4 hx hZ hown (hw _ (List.mem_of_getElem? (i := 4) rfl)) (hw _ (List.mem_of_getElem? (i := 5) rfl)) (hw _ (List.mem_of_getElem? (i := 6) rfl)) eq4 (g := (mkF m 46 #[.val (.long q0), .second, .val (.long q1), .second, .val (.long q2), .second, .val (.long q3), .second, .val (.int p4), .val (.long q5), .second, .val (.long r1), .second, .val (.long r2), .second, .val (.long r3), .second, .val (.long r4), .second, .unset, .unset, .unset, .unset, .unset, .unset, .unset, .unset, .unset] [])) rfl (hb hby at_46) (by decide) (by decide)
  obtain ⟨b5, g5⟩ : ∃ z, z = h0.size := ⟨_, rfl⟩
  rw [← g5] at A5 D5 st5
  have f6 : Sta Z h5 "java/lang/Long$LongCache" "cache" "[Ljava/lang/Long;" (.ref yc) := f0_cache.ext E5
  have K5 : Keep h0 h5 [] := Keep.ext (Keep.refl h0 []) E5
  have Z5 : n0 ≤ h5.size := Nat.le_trans Z0 K5.1
  have g_b5 : n0 ≤ b5 := Nat.le_trans Z0 (Nat.le_of_eq g5.symm)
  have sz_b5 : h0.size ≤ b5 := Nat.le_trans ((Keep.refl h0 [])).1 (Nat.le_of_eq g5.symm)
  have f7 : Exa Z h5 b5 "com/example/eolog/eolog/producer/AbortedTransaction" := A5
  have f8 : Fld Z h5 b5 "com/example/eolog/eolog/producer/AbortedTransaction" "producerId" "J" (.long (0 : Int64)) := D5 (Or.inr (hw _ (List.mem_of_getElem? (i := 14) rfl))) (ty := .long) (by decide)
  have f9 : Fld Z h5 b5 "com/example/eolog/eolog/producer/AbortedTransaction" "firstOffset" "J" (.long (0 : Int64)) := D5 (Or.inr (hw _ (List.mem_of_getElem? (i := 16) rfl))) (ty := .long) (by decide)
  have f10 : Fld Z h5 b5 "com/example/eolog/eolog/producer/AbortedTransaction" "lastOffset" "J" (.long (0 : Int64)) := D5 (Or.inr (hw _ (List.mem_of_getElem? (i := 18) rfl))) (ty := .long) (by decide)
  have f11 : Fld Z h5 b5 "com/example/eolog/eolog/producer/AbortedTransaction" "lastStableOffset" "J" (.long (0 : Int64)) := D5 (Or.inr (hw _ (List.mem_of_getElem? (i := 20) rfl))) (ty := .long) (by decide)
  refine Goes.via (S' := (T5.setTop (mkF m 49 #[.val (.long q0), .second, .val (.long q1), .second, .val (.long q2), .second, .val (.long q3), .second, .val (.int p4), .val (.long q5), .second, .val (.long r1), .second, .val (.long r2), .second, .val (.long r3), .second, .val (.long r4), .second, .unset, .unset, .unset, .unset, .unset, .unset, .unset, .unset, .unset] [(.ref b5)]))) (fun t k => st5 _ k) ?_
  refine Goes.via (S' := (T5.setTop (mkF m 50 #[.val (.long q0), .second, .val (.long q1), .second, .val (.long q2), .second, .val (.long q3), .second, .val (.int p4), .val (.long q5), .second, .val (.long r1), .second, .val (.long r2), .second, .val (.long r3), .second, .val (.long r4), .second, .unset, .unset, .unset, .unset, .unset, .unset, .unset, .unset, .unset] [(.ref b5), (.ref b5)]))) (fun t k => XS.dup X5.here hx rfl (hb hby at_49) rfl rfl k) ?_
  refine Goes.via (S' := (T5.setTop (mkF m 51 #[.val (.long q0), .second, .val (.long q1), .second, .val (.long q2), .second, .val (.long q3), .second, .val (.int p4), .val (.long q5), .second, .val (.long r1), .second, .val (.long r2), .second, .val (.long r3), .second, .val (.long r4), .second, .unset, .unset, .unset, .unset, .unset, .unset, .unset, .unset, .unset] [(.long q0), (.ref b5), (.ref b5)]))) (fun t k => XS.lloadN X5.here hx rfl (hb hby at_50) rfl k) ?_
  refine Goes.via (S' := (T5.setTop (mkF m 52 #[.val (.long q0), .second, .val (.long q1), .second, .val (.long q2), .second, .val (.long q3), .second, .val (.int p4), .val (.long q5), .second, .val (.long r1), .second, .val (.long r2), .second, .val (.long r3), .second, .val (.long r4), .second, .unset, .unset, .unset, .unset, .unset, .unset, .unset, .unset, .unset] [(.long q1), (.long q0), (.ref b5), (.ref b5)]))) (fun t k => XS.lloadN X5.here hx rfl (hb hby at_51) rfl k) ?_
  refine Goes.via (S' := (T5.setTop (mkF m 54 #[.val (.long q0), .second, .val (.long q1), .second, .val (.long q2), .second, .val (.long q3), .second, .val (.int p4), .val (.long q5), .second, .val (.long r1), .second, .val (.long r2), .second, .val (.long r3), .second, .val (.long r4), .second, .unset, .unset, .unset, .unset, .unset, .unset, .unset, .unset, .unset] [(.long q2), (.long q1), (.long q0), (.ref b5), (.ref b5)]))) (fun t k => XS.lload X5.here hx rfl (hb hby at_52) rfl k) ?_
  refine Goes.via (S' := (T5.setTop (mkF m 56 #[.val (.long q0), .second, .val (.long q1), .second, .val (.long q2), .second, .val (.long q3), .second, .val (.int p4), .val (.long q5), .second, .val (.long r1), .second, .val (.long r2), .second, .val (.long r3), .second, .val (.long r4), .second, .unset, .unset, .unset, .unset, .unset, .unset, .unset, .unset, .unset] [(.long q3), (.long q2), (.long q1), (.long q0), (.ref b5), (.ref b5)]))) (fun t k => XS.lload X5.here hx rfl (hb hby at_54) rfl k) ?_
  obtain ⟨_, _, ⟨T12, L12, k12, n12⟩, -, X12, ⟨Lc12, hQ12, l12, y12, z12⟩, st12⟩ := X5.specialBack hx (y := (⟨"com/example/eolog/eolog/producer/AbortedTransaction", "<init>", "(JJJJ)V"⟩ : MethodName)) rfl hown (mvT hZ (hw _ (List.mem_of_getElem? (i := 7) rfl))) (mvT hZ (hw _ (List.mem_of_getElem? (i := 8) rfl))) (mvT hZ (hw _ (List.mem_of_getElem? (i := 9) rfl))) (by decide) (backOf (W := 1) (rm2 l Z a0 hw [] b5 q0 q1 q2 q3 (.long (0 : Int64)) (.long (0 : Int64)) (.long (0 : Int64)) (.long (0 : Int64)) h5 n0 Z5 f7 f8 f9 f10 f11 g_b5) hZ (hw _ (List.mem_of_getElem? (i := 9) rfl)) (hw _ (List.mem_of_getElem? (i := 6) rfl)) (by decide) (by decide)) (g := (mkF m 56 #[.val (.long q0), .second, .val (.long q1), .second, .val (.long q2), .second, .val (.long q3), .second, .val (.int p4), .val (.long q5), .second, .val (.long r1), .second, .val (.long r2), .second, .val (.long r3), .second, .val (.long r4), .second, .unset, .unset, .unset, .unset, .unset, .unset, .unset, .unset, .unset] [(.long q3), (.long q2), (.long q1), (.long q0), (.ref b5), (.ref b5)])) rfl (by rw [hml]; rfl) (Steps.refl _) (a := b5) (argsL := [(.long q0), (.long q1), (.long q2), (.long q3)]) (rest := [(.ref b5)]) (lenOf pd_3 rfl) rfl (by show 2 * 0 + _ ≤ _; exact Nat.le_of_eq rfl) (hb hby at_56) (fun _ _ => ⟨rfl, e5, (by decide : 1 + 0 ≤ _), (by decide : 4 + 0 ≤ _)⟩)
  dsimp only [Pt.U, Pt.locs, Pt.cells, Pt.slots] at X12 l12 y12 z12 st12 hQ12
  subst l12 y12 z12
  obtain ⟨rfl, N12q, K12q, po12_0, po12_1, po12_2, po12_3, po12_4⟩ := hQ12
  have N12 := Fr.app N4 N12q
  have f13 : Sta Z T12.heap "java/lang/Long$LongCache" "cache" "[Ljava/lang/Long;" (.ref yc) := own_staKeep f6 K12q (allS (own_nst f7) all0)
  have f14 : Exa Z T12.heap b5 "com/example/eolog/eolog/producer/AbortedTransaction" := f7.keep K12q
  have K12 : Keep h0 T12.heap [] := Keep.trans K5 K12q (allS (Or.inr sz_b5) all0)
  have Z12 : n0 ≤ T12.heap.size := Nat.le_trans Z0 K12.1
  refine Goes.via (S' := (T12.setTop (mkF m 59 #[.val (.long q0), .second, .val (.long q1), .second, .val (.long q2), .second, .val (.long q3), .second, .val (.int p4), .val (.long q5), .second, .val (.long r1), .second, .val (.long r2), .second, .val (.long r3), .second, .val (.long r4), .second, .unset, .unset, .unset, .unset, .unset, .unset, .unset, .unset, .unset] [(.ref b5)]))) (fun t k => st12.trans k) ?_
  refine Goes.via (S' := (T12.setTop (mkF m 61 #[.val (.long q0), .second, .val (.long q1), .second, .val (.long q2), .second, .val (.long q3), .second, .val (.int p4), .val (.long q5), .second, .val (.long r1), .second, .val (.long r2), .second, .val (.long r3), .second, .val (.long r4), .second, .val (.ref b5), .unset, .unset, .unset, .unset, .unset, .unset, .unset, .unset] []))) (fun t k => XS.astore X12.here hx rfl (hb hby at_59) rfl rfl (l' := #[.val (.long q0), .second, .val (.long q1), .second, .val (.long q2), .second, .val (.long q3), .second, .val (.int p4), .val (.long q5), .second, .val (.long r1), .second, .val (.long r2), .second, .val (.long r3), .second, .val (.long r4), .second, .val (.ref b5), .unset, .unset, .unset, .unset, .unset, .unset, .unset, .unset]) rfl k) ?_
  obtain ⟨T15, h15, X15, e15, E15, A15, D15, -, st15⟩ := newO X12 hx hZ hown (hw _ (List.mem_of_getElem? (i := 4) rfl)) (hw _ (List.mem_of_getElem? (i := 5) rfl)) (hw _ (List.mem_of_getElem? (i := 6) rfl)) rfl (g := (mkF m 61 #[.val (.long q0), .second, .val (.long q1), .second, .val (.long q2), .second, .val (.long q3), .second, .val (.int p4), .val (.long q5), .second, .val (.long r1), .second, .val (.long r2), .second, .val (.long r3), .second, .val (.long r4), .second, .val (.ref b5), .unset, .unset, .unset, .unset, .unset, .unset, .unset, .unset] [])) rfl (hb hby at_61) (by decide) (by decide)
  obtain ⟨b15, g15⟩ : ∃ z, z = T12.heap.size := ⟨_, rfl⟩
  rw [← g15] at A15 D15 st15
  have f16 : Sta Z h15 "java/lang/Long$LongCache" "cache" "[Ljava/lang/Long;" (.ref yc) := f13.ext E15
  have f17 : Exa Z h15 b5 "com/example/eolog/eolog/producer/AbortedTransaction" := po12_0.ext E15
  have f18 : Fld Z h15 b5 "com/example/eolog/eolog/producer/AbortedTransaction" "producerId" "J" (.long q0) := po12_1.ext E15
  have f19 : Fld Z h15 b5 "com/example/eolog/eolog/producer/AbortedTransaction" "firstOffset" "J" (.long q1) := po12_2.ext E15
  have f20 : Fld Z h15 b5 "com/example/eolog/eolog/producer/AbortedTransaction" "lastOffset" "J" (.long q2) := po12_3.ext E15
  have f21 : Fld Z h15 b5 "com/example/eolog/eolog/producer/AbortedTransaction" "lastStableOffset" "J" (.long q3) := po12_4.ext E15
  have K15 : Keep h0 h15 [] := Keep.ext K12 E15
  have Z15 : n0 ≤ h15.size := Nat.le_trans Z0 K15.1
  have g_b15 : n0 ≤ b15 := Nat.le_trans Z12 (Nat.le_of_eq g15.symm)
  have sz_b15 : h0.size ≤ b15 := Nat.le_trans (K12).1 (Nat.le_of_eq g15.symm)
  have ne_b5_b15 : b5 ≠ b15 := Nat.ne_of_lt (Nat.lt_of_lt_of_le po12_0.lt (Nat.le_of_eq g15.symm))
  have f22 : Exa Z h15 b15 "com/example/eolog/eolog/producer/AbortedTransaction" := A15
  have f23 : Fld Z h15 b15 "com/example/eolog/eolog/producer/AbortedTransaction" "producerId" "J" (.long (0 : Int64)) := D15 (Or.inr (hw _ (List.mem_of_getElem? (i := 14) rfl))) (ty := .long) (by decide)
  have f24 : Fld Z h15 b15 "com/example/eolog/eolog/producer/AbortedTransaction" "firstOffset" "J" (.long (0 : Int64)) := D15 (Or.inr (hw _ (List.mem_of_getElem? (i := 16) rfl))) (ty := .long) (by decide)
  have f25 : Fld Z h15 b15 "com/example/eolog/eolog/producer/AbortedTransaction" "lastOffset" "J" (.long (0 : Int64)) := D15 (Or.inr (hw _ (List.mem_of_getElem? (i := 18) rfl))) (ty := .long) (by decide)
  have f26 : Fld Z h15 b15 "com/example/eolog/eolog/producer/AbortedTransaction" "lastStableOffset" "J" (.long (0 : Int64)) := D15 (Or.inr (hw _ (List.mem_of_getElem? (i := 20) rfl))) (ty := .long) (by decide)
  refine Goes.via (S' := (T15.setTop (mkF m 64 #[.val (.long q0), .second, .val (.long q1), .second, .val (.long q2), .second, .val (.long q3), .second, .val (.int p4), .val (.long q5), .second, .val (.long r1), .second, .val (.long r2), .second, .val (.long r3), .second, .val (.long r4), .second, .val (.ref b5), .unset, .unset, .unset, .unset, .unset, .unset, .unset, .unset] [(.ref b15)]))) (fun t k => st15 _ k) ?_
  refine Goes.via (S' := (T15.setTop (mkF m 65 #[.val (.long q0), .second, .val (.long q1), .second, .val (.long q2), .second, .val (.long q3), .second, .val (.int p4), .val (.long q5), .second, .val (.long r1), .second, .val (.long r2), .second, .val (.long r3), .second, .val (.long r4), .second, .val (.ref b5), .unset, .unset, .unset, .unset, .unset, .unset, .unset, .unset] [(.ref b15), (.ref b15)]))) (fun t k => XS.dup X15.here hx rfl (hb hby at_64) rfl rfl k) ?_
  refine Goes.via (S' := (T15.setTop (mkF m 67 #[.val (.long q0), .second, .val (.long q1), .second, .val (.long q2), .second, .val (.long q3), .second, .val (.int p4), .val (.long q5), .second, .val (.long r1), .second, .val (.long r2), .second, .val (.long r3), .second, .val (.long r4), .second, .val (.ref b5), .unset, .unset, .unset, .unset, .unset, .unset, .unset, .unset] [(.long r1), (.ref b15), (.ref b15)]))) (fun t k => XS.lload X15.here hx rfl (hb hby at_65) rfl k) ?_
  refine Goes.via (S' := (T15.setTop (mkF m 69 #[.val (.long q0), .second, .val (.long q1), .second, .val (.long q2), .second, .val (.long q3), .second, .val (.int p4), .val (.long q5), .second, .val (.long r1), .second, .val (.long r2), .second, .val (.long r3), .second, .val (.long r4), .second, .val (.ref b5), .unset, .unset, .unset, .unset, .unset, .unset, .unset, .unset] [(.long r2), (.long r1), (.ref b15), (.ref b15)]))) (fun t k => XS.lload X15.here hx rfl (hb hby at_67) rfl k) ?_
  refine Goes.via (S' := (T15.setTop (mkF m 71 #[.val (.long q0), .second, .val (.long q1), .second, .val (.long q2), .second, .val (.long q3), .second, .val (.int p4), .val (.long q5), .second, .val (.long r1), .second, .val (.long r2), .second, .val (.long r3), .second, .val (.long r4), .second, .val (.ref b5), .unset, .unset, .unset, .unset, .unset, .unset, .unset, .unset] [(.long r3), (.long r2), (.long r1), (.ref b15), (.ref b15)]))) (fun t k => XS.lload X15.here hx rfl (hb hby at_69) rfl k) ?_
  refine Goes.via (S' := (T15.setTop (mkF m 73 #[.val (.long q0), .second, .val (.long q1), .second, .val (.long q2), .second, .val (.long q3), .second, .val (.int p4), .val (.long q5), .second, .val (.long r1), .second, .val (.long r2), .second, .val (.long r3), .second, .val (.long r4), .second, .val (.ref b5), .unset, .unset, .unset, .unset, .unset, .unset, .unset, .unset] [(.long r4), (.long r3), (.long r2), (.long r1), (.ref b15), (.ref b15)]))) (fun t k => XS.lload X15.here hx rfl (hb hby at_71) rfl k) ?_
  obtain ⟨_, _, ⟨T27, L27, k27, n27⟩, -, X27, ⟨Lc27, hQ27, l27, y27, z27⟩, st27⟩ := X15.specialBack hx (y := (⟨"com/example/eolog/eolog/producer/AbortedTransaction", "<init>", "(JJJJ)V"⟩ : MethodName)) rfl hown (mvT hZ (hw _ (List.mem_of_getElem? (i := 7) rfl))) (mvT hZ (hw _ (List.mem_of_getElem? (i := 8) rfl))) (mvT hZ (hw _ (List.mem_of_getElem? (i := 9) rfl))) (by decide) (backOf (W := 1) (rm2 l Z a0 hw [] b15 r1 r2 r3 r4 (.long (0 : Int64)) (.long (0 : Int64)) (.long (0 : Int64)) (.long (0 : Int64)) h15 n0 Z15 f22 f23 f24 f25 f26 g_b15) hZ (hw _ (List.mem_of_getElem? (i := 9) rfl)) (hw _ (List.mem_of_getElem? (i := 6) rfl)) (by decide) (by decide)) (g := (mkF m 73 #[.val (.long q0), .second, .val (.long q1), .second, .val (.long q2), .second, .val (.long q3), .second, .val (.int p4), .val (.long q5), .second, .val (.long r1), .second, .val (.long r2), .second, .val (.long r3), .second, .val (.long r4), .second, .val (.ref b5), .unset, .unset, .unset, .unset, .unset, .unset, .unset, .unset] [(.long r4), (.long r3), (.long r2), (.long r1), (.ref b15), (.ref b15)])) rfl (by rw [hml]; rfl) (Steps.refl _) (a := b15) (argsL := [(.long r1), (.long r2), (.long r3), (.long r4)]) (rest := [(.ref b15)]) (lenOf pd_3 rfl) rfl (by show 2 * 0 + _ ≤ _; exact Nat.le_of_eq rfl) (hb hby at_73) (fun _ _ => ⟨rfl, e15, (by decide : 2 + 0 ≤ _), (by decide : 8 + 0 ≤ _)⟩)
  dsimp only [Pt.U, Pt.locs, Pt.cells, Pt.slots] at X27 l27 y27 z27 st27 hQ27
  subst l27 y27 z27
  obtain ⟨rfl, N27q, K27q, po27_0, po27_1, po27_2, po27_3, po27_4⟩ := hQ27
  have N27 := Fr.app N12 N27q
  have f28 : Sta Z T27.heap "java/lang/Long$LongCache" "cache" "[Ljava/lang/Long;" (.ref yc) := own_staKeep f16 K27q (allS (own_nst f22) all0)
  have f29 : Exa Z T27.heap b5 "com/example/eolog/eolog/producer/AbortedTransaction" := f17.keep K27q
  have f30 : Fld Z T27.heap b5 "com/example/eolog/eolog/producer/AbortedTransaction" "producerId" "J" (.long q0) := f18.keep K27q (ninS ne_b5_b15 nin0)
  have f31 : Fld Z T27.heap b5 "com/example/eolog/eolog/producer/AbortedTransaction" "firstOffset" "J" (.long q1) := f19.keep K27q (ninS ne_b5_b15 nin0)
  have f32 : Fld Z T27.heap b5 "com/example/eolog/eolog/producer/AbortedTransaction" "lastOffset" "J" (.long q2) := f20.keep K27q (ninS ne_b5_b15 nin0)
  have f33 : Fld Z T27.heap b5 "com/example/eolog/eolog/producer/AbortedTransaction" "lastStableOffset" "J" (.long q3) := f21.keep K27q (ninS ne_b5_b15 nin0)
  have f34 : Exa Z T27.heap b15 "com/example/eolog/eolog/producer/AbortedTransaction" := f22.keep K27q
  have K27 : Keep h0 T27.heap [] := Keep.trans K15 K27q (allS (Or.inr sz_b15) all0)
  have Z27 : n0 ≤ T27.heap.size := Nat.le_trans Z0 K27.1
  refine Goes.via (S' := (T27.setTop (mkF m 76 #[.val (.long q0), .second, .val (.long q1), .second, .val (.long q2), .second, .val (.long q3), .second, .val (.int p4), .val (.long q5), .second, .val (.long r1), .second, .val (.long r2), .second, .val (.long r3), .second, .val (.long r4), .second, .val (.ref b5), .unset, .unset, .unset, .unset, .unset, .unset, .unset, .unset] [(.ref b15)]))) (fun t k => st27.trans k) ?_
  refine Goes.via (S' := (T27.setTop (mkF m 78 #[.val (.long q0), .second, .val (.long q1), .second, .val (.long q2), .second, .val (.long q3), .second, .val (.int p4), .val (.long q5), .second, .val (.long r1), .second, .val (.long r2), .second, .val (.long r3), .second, .val (.long r4), .second, .val (.ref b5), .val (.ref b15), .unset, .unset, .unset, .unset, .unset, .unset, .unset] []))) (fun t k => XS.astore X27.here hx rfl (hb hby at_76) rfl rfl (l' := #[.val (.long q0), .second, .val (.long q1), .second, .val (.long q2), .second, .val (.long q3), .second, .val (.int p4), .val (.long q5), .second, .val (.long r1), .second, .val (.long r2), .second, .val (.long r3), .second, .val (.long r4), .second, .val (.ref b5), .val (.ref b15), .unset, .unset, .unset, .unset, .unset, .unset, .unset]) rfl k) ?_
  refine Goes.via (S' := (T27.setTop (mkF m 80 #[.val (.long q0), .second, .val (.long q1), .second, .val (.long q2), .second, .val (.long q3), .second, .val (.int p4), .val (.long q5), .second, .val (.long r1), .second, .val (.long r2), .second, .val (.long r3), .second, .val (.long r4), .second, .val (.ref b5), .val (.ref b15), .unset, .unset, .unset, .unset, .unset, .unset, .unset] [(.int p4)]))) (fun t k => XS.iload X27.here hx rfl (hb hby at_78) rfl k) ?_
  refine Goes.via (S' := (T27.setTop (mkF m 82 #[.val (.long q0), .second, .val (.long q1), .second, .val (.long q2), .second, .val (.long q3), .second, .val (.int p4), .val (.long q5), .second, .val (.long r1), .second, .val (.long r2), .second, .val (.long r3), .second, .val (.long r4), .second, .val (.ref b5), .val (.ref b15), .unset, .unset, .unset, .unset, .unset, .unset, .unset] [(.int (15 : Int32)), (.int p4)]))) (fun t k => XS.bipush X27.here hx rfl (hb hby at_80) k) ?_
  refine Goes.via (S' := (T27.setTop (mkF m 83 #[.val (.long q0), .second, .val (.long q1), .second, .val (.long q2), .second, .val (.long q3), .second, .val (.int p4), .val (.long q5), .second, .val (.long r1), .second, .val (.long r2), .second, .val (.long r3), .second, .val (.long r4), .second, .val (.ref b5), .val (.ref b15), .unset, .unset, .unset, .unset, .unset, .unset, .unset] [(.int (p4 &&& (15 : Int32)))]))) (fun t k => XS.iand X27.here hx rfl (hb hby at_82) rfl k) ?_
  obtain ⟨v37, hv37⟩ : ∃ z : Int32, z = (if (((p4 &&& (15 : Int32)) = (0 : Int32)) ∨ (q5 = (0 : Int64))) then (1 : Int32) else 0) := ⟨_, rfl⟩
  refine Goes.via (S' := (T27.setTop (mkF m 98 #[.val (.long q0), .second, .val (.long q1), .second, .val (.long q2), .second, .val (.long q3), .second, .val (.int p4), .val (.long q5), .second, .val (.long r1), .second, .val (.long r2), .second, .val (.long r3), .second, .val (.long r4), .second, .val (.ref b5), .val (.ref b15), .unset, .unset, .unset, .unset, .unset, .unset, .unset] [(.int v37)]))) (fun t k => ?_) ?_
  · by_cases hc35 : ((p4 &&& (15 : Int32)) = (0 : Int32))
    · refine XS.ifYes X27.here hx rfl (pc0 := 83) (pc' := 93) rfl (hb hby at_83) rfl ((if0 _ _).trans (teq hc35).1) (by decide) (by decide) ?_
      show Steps p.tables e below (T27.setTop (mkF m 93 #[.val (.long q0), .second, .val (.long q1), .second, .val (.long q2), .second, .val (.long q3), .second, .val (.int p4), .val (.long q5), .second, .val (.long r1), .second, .val (.long r2), .second, .val (.long r3), .second, .val (.long r4), .second, .val (.ref b5), .val (.ref b15), .unset, .unset, .unset, .unset, .unset, .unset, .unset] [])) _
      refine XS.iconst X27.here hx rfl (hb hby at_93) ?_
      show Steps p.tables e below (T27.setTop (mkF m 94 #[.val (.long q0), .second, .val (.long q1), .second, .val (.long q2), .second, .val (.long q3), .second, .val (.int p4), .val (.long q5), .second, .val (.long r1), .second, .val (.long r2), .second, .val (.long r3), .second, .val (.long r4), .second, .val (.ref b5), .val (.ref b15), .unset, .unset, .unset, .unset, .unset, .unset, .unset] [(.int (1 : Int32))])) _
      refine XS.goto X27.here hx rfl (pc0 := 94) (pc' := 98) rfl (hb hby at_94) (by decide) (by decide) ?_
      show Steps p.tables e below (T27.setTop (mkF m 98 #[.val (.long q0), .second, .val (.long q1), .second, .val (.long q2), .second, .val (.long q3), .second, .val (.int p4), .val (.long q5), .second, .val (.long r1), .second, .val (.long r2), .second, .val (.long r3), .second, .val (.long r4), .second, .val (.ref b5), .val (.ref b15), .unset, .unset, .unset, .unset, .unset, .unset, .unset] [(.int (1 : Int32))])) _
      have q_v37 : v37 = (1 : Int32) := hv37.trans (if_pos (Or.inl hc35))
      rw [q_v37] at k
      exact k
    · refine XS.ifNo X27.here hx rfl (hb hby at_83) rfl ((if0 _ _).trans (feq hc35).1) ?_
      show Steps p.tables e below (T27.setTop (mkF m 86 #[.val (.long q0), .second, .val (.long q1), .second, .val (.long q2), .second, .val (.long q3), .second, .val (.int p4), .val (.long q5), .second, .val (.long r1), .second, .val (.long r2), .second, .val (.long r3), .second, .val (.long r4), .second, .val (.ref b5), .val (.ref b15), .unset, .unset, .unset, .unset, .unset, .unset, .unset] [])) _
      refine XS.lload X27.here hx rfl (hb hby at_86) rfl ?_
      show Steps p.tables e below (T27.setTop (mkF m 88 #[.val (.long q0), .second, .val (.long q1), .second, .val (.long q2), .second, .val (.long q3), .second, .val (.int p4), .val (.long q5), .second, .val (.long r1), .second, .val (.long r2), .second, .val (.long r3), .second, .val (.long r4), .second, .val (.ref b5), .val (.ref b15), .unset, .unset, .unset, .unset, .unset, .unset, .unset] [(.long q5)])) _
      refine XS.lconst X27.here hx rfl (hb hby at_88) ?_
      show Steps p.tables e below (T27.setTop (mkF m 89 #[.val (.long q0), .second, .val (.long q1), .second, .val (.long q2), .second, .val (.long q3), .second, .val (.int p4), .val (.long q5), .second, .val (.long r1), .second, .val (.long r2), .second, .val (.long r3), .second, .val (.long r4), .second, .val (.ref b5), .val (.ref b15), .unset, .unset, .unset, .unset, .unset, .unset, .unset] [(.long (0 : Int64)), (.long q5)])) _
      refine XS.lcmp X27.here hx rfl (hb hby at_89) rfl ?_
      show Steps p.tables e below (T27.setTop (mkF m 90 #[.val (.long q0), .second, .val (.long q1), .second, .val (.long q2), .second, .val (.long q3), .second, .val (.int p4), .val (.long q5), .second, .val (.long r1), .second, .val (.long r2), .second, .val (.long r3), .second, .val (.long r4), .second, .val (.ref b5), .val (.ref b15), .unset, .unset, .unset, .unset, .unset, .unset, .unset] [(.int (lcmpW q5 (0 : Int64)))])) _
      by_cases hc36 : (q5 = (0 : Int64))
      · refine XS.ifNo X27.here hx rfl (hb hby at_90) rfl ((if0 _ _).trans (teq (own_eq hc36)).2) ?_
        show Steps p.tables e below (T27.setTop (mkF m 93 #[.val (.long q0), .second, .val (.long q1), .second, .val (.long q2), .second, .val (.long q3), .second, .val (.int p4), .val (.long q5), .second, .val (.long r1), .second, .val (.long r2), .second, .val (.long r3), .second, .val (.long r4), .second, .val (.ref b5), .val (.ref b15), .unset, .unset, .unset, .unset, .unset, .unset, .unset] [])) _
        refine XS.iconst X27.here hx rfl (hb hby at_93) ?_
        show Steps p.tables e below (T27.setTop (mkF m 94 #[.val (.long q0), .second, .val (.long q1), .second, .val (.long q2), .second, .val (.long q3), .second, .val (.int p4), .val (.long q5), .second, .val (.long r1), .second, .val (.long r2), .second, .val (.long r3), .second, .val (.long r4), .second, .val (.ref b5), .val (.ref b15), .unset, .unset, .unset, .unset, .unset, .unset, .unset] [(.int (1 : Int32))])) _
        refine XS.goto X27.here hx rfl (pc0 := 94) (pc' := 98) rfl (hb hby at_94) (by decide) (by decide) ?_
        show Steps p.tables e below (T27.setTop (mkF m 98 #[.val (.long q0), .second, .val (.long q1), .second, .val (.long q2), .second, .val (.long q3), .second, .val (.int p4), .val (.long q5), .second, .val (.long r1), .second, .val (.long r2), .second, .val (.long r3), .second, .val (.long r4), .second, .val (.ref b5), .val (.ref b15), .unset, .unset, .unset, .unset, .unset, .unset, .unset] [(.int (1 : Int32))])) _
        have q_v37 : v37 = (1 : Int32) := hv37.trans (if_pos (Or.inr hc36))
        rw [q_v37] at k
        exact k
      · refine XS.ifYes X27.here hx rfl (pc0 := 90) (pc' := 97) rfl (hb hby at_90) rfl ((if0 _ _).trans (feq (own_neq hc36)).2) (by decide) (by decide) ?_
        show Steps p.tables e below (T27.setTop (mkF m 97 #[.val (.long q0), .second, .val (.long q1), .second, .val (.long q2), .second, .val (.long q3), .second, .val (.int p4), .val (.long q5), .second, .val (.long r1), .second, .val (.long r2), .second, .val (.long r3), .second, .val (.long r4), .second, .val (.ref b5), .val (.ref b15), .unset, .unset, .unset, .unset, .unset, .unset, .unset] [])) _
        refine XS.iconst X27.here hx rfl (hb hby at_97) ?_
        show Steps p.tables e below (T27.setTop (mkF m 98 #[.val (.long q0), .second, .val (.long q1), .second, .val (.long q2), .second, .val (.long q3), .second, .val (.int p4), .val (.long q5), .second, .val (.long r1), .second, .val (.long r2), .second, .val (.long r3), .second, .val (.long r4), .second, .val (.ref b5), .val (.ref b15), .unset, .unset, .unset, .unset, .unset, .unset, .unset] [(.int (0 : Int32))])) _
        have q_v37 : v37 = (0 : Int32) := hv37.trans (if_neg (fun q => q.elim hc35 hc36))
        rw [q_v37] at k
        exact k
  refine Goes.via (S' := (T27.setTop (mkF m 100 #[.val (.long q0), .second, .val (.long q1), .second, .val (.long q2), .second, .val (.long q3), .second, .val (.int p4), .val (.long q5), .second, .val (.long r1), .second, .val (.long r2), .second, .val (.long r3), .second, .val (.long r4), .second, .val (.ref b5), .val (.ref b15), .val (.int v37), .unset, .unset, .unset, .unset, .unset, .unset] []))) (fun t k => XS.istore X27.here hx rfl (hb hby at_98) rfl (l' := #[.val (.long q0), .second, .val (.long q1), .second, .val (.long q2), .second, .val (.long q3), .second, .val (.int p4), .val (.long q5), .second, .val (.long r1), .second, .val (.long r2), .second, .val (.long r3), .second, .val (.long r4), .second, .val (.ref b5), .val (.ref b15), .val (.int v37), .unset, .unset, .unset, .unset, .unset, .unset]) rfl k) ?_
  refine Goes.via (S' := (T27.setTop (mkF m 101 #[.val (.long q0), .second, .val (.long q1), .second, .val (.long q2), .second, .val (.long q3), .second, .val (.int p4), .val (.long q5), .second, .val (.long r1), .second, .val (.long r2), .second, .val (.long r3), .second, .val (.long r4), .second, .val (.ref b5), .val (.ref b15), .val (.int v37), .unset, .unset, .unset, .unset, .unset, .unset] [(.long q0)]))) (fun t k => XS.lloadN X27.here hx rfl (hb hby at_100) rfl k) ?_
  obtain ⟨_, _, ⟨T38, L38, k38, n38⟩, -, X38, ⟨Lc38, hQ38, l38, y38, z38⟩, st38⟩ := Jvm.LawKit.callS X27 hx (y := (⟨"java/lang/Long", "valueOf", "(J)Ljava/lang/Long;"⟩ : MethodName)) hown (mvT hZ (hw _ (List.mem_of_getElem? (i := 21) rfl))) (mvT hZ (hw _ (List.mem_of_getElem? (i := 22) rfl))) (mvT hZ (hw _ (List.mem_of_getElem? (i := 23) rfl))) (mvT hZ (hw _ (List.mem_of_getElem? (i := 24) rfl))) (by decide) (backOf (W := 0) (rm4 l Z a0 hw [] q0 yc T27.heap n0 Z27 f28 (own_cacheKeep K27 hcache)) hZ (hw _ (List.mem_of_getElem? (i := 24) rfl)) (hw _ (List.mem_of_getElem? (i := 23) rfl)) (by decide) (by decide)) (g := (mkF m 101 #[.val (.long q0), .second, .val (.long q1), .second, .val (.long q2), .second, .val (.long q3), .second, .val (.int p4), .val (.long q5), .second, .val (.long r1), .second, .val (.long r2), .second, .val (.long r3), .second, .val (.long r4), .second, .val (.ref b5), .val (.ref b15), .val (.int v37), .unset, .unset, .unset, .unset, .unset, .unset] [(.long q0)])) rfl (by rw [hml]; rfl) (argsL := [(.long q0)]) (rest := []) (lenOf pd_4 rfl) rfl (by show 2 * 0 + _ ≤ _; exact Nat.le_of_eq rfl) (hb hby at_101) (fun _ _ => ⟨rfl, rfl, (by decide : 2 + 1 ≤ _), (by decide : 8 + 1 ≤ _)⟩)
  dsimp only [Pt.U, Pt.locs, Pt.cells, Pt.slots] at X38 l38 y38 z38 st38 hQ38
  subst l38 y38 z38
  obtain ⟨r38, rfl, hr38, N38q, K38q, po38_0⟩ := hQ38
  have N38 := Fr.app N27 N38q
  have f39 : Sta Z T38.heap "java/lang/Long$LongCache" "cache" "[Ljava/lang/Long;" (.ref yc) := own_staKeep f28 K38q all0
  have f40 : Exa Z T38.heap b5 "com/example/eolog/eolog/producer/AbortedTransaction" := f29.keep K38q
  have f41 : Fld Z T38.heap b5 "com/example/eolog/eolog/producer/AbortedTransaction" "producerId" "J" (.long q0) := f30.keep K38q nin0
  have f42 : Fld Z T38.heap b5 "com/example/eolog/eolog/producer/AbortedTransaction" "firstOffset" "J" (.long q1) := f31.keep K38q nin0
  have f43 : Fld Z T38.heap b5 "com/example/eolog/eolog/producer/AbortedTransaction" "lastOffset" "J" (.long q2) := f32.keep K38q nin0
  have f44 : Fld Z T38.heap b5 "com/example/eolog/eolog/producer/AbortedTransaction" "lastStableOffset" "J" (.long q3) := f33.keep K38q nin0
  have f45 : Exa Z T38.heap b15 "com/example/eolog/eolog/producer/AbortedTransaction" := po27_0.keep K38q
  have f46 : Fld Z T38.heap b15 "com/example/eolog/eolog/producer/AbortedTransaction" "producerId" "J" (.long r1) := po27_1.keep K38q nin0
  have f47 : Fld Z T38.heap b15 "com/example/eolog/eolog/producer/AbortedTransaction" "firstOffset" "J" (.long r2) := po27_2.keep K38q nin0
  have f48 : Fld Z T38.heap b15 "com/example/eolog/eolog/producer/AbortedTransaction" "lastOffset" "J" (.long r3) := po27_3.keep K38q nin0
  have f49 : Fld Z T38.heap b15 "com/example/eolog/eolog/producer/AbortedTransaction" "lastStableOffset" "J" (.long r4) := po27_4.keep K38q nin0
  have K38 : Keep h0 T38.heap [] := Keep.trans K27 K38q all0
  have Z38 : n0 ≤ T38.heap.size := Nat.le_trans Z0 K38.1
  refine Goes.via (S' := (T38.setTop (mkF m 104 #[.val (.long q0), .second, .val (.long q1), .second, .val (.long q2), .second, .val (.long q3), .second, .val (.int p4), .val (.long q5), .second, .val (.long r1), .second, .val (.long r2), .second, .val (.long r3), .second, .val (.long r4), .second, .val (.ref b5), .val (.ref b15), .val (.int v37), .unset, .unset, .unset, .unset, .unset, .unset] [(.ref r38)]))) (fun t k => st38 _ k) ?_
  refine Goes.via (S' := (T38.setTop (mkF m 106 #[.val (.long q0), .second, .val (.long q1), .second, .val (.long q2), .second, .val (.long q3), .second, .val (.int p4), .val (.long q5), .second, .val (.long r1), .second, .val (.long r2), .second, .val (.long r3), .second, .val (.long r4), .second, .val (.ref b5), .val (.ref b15), .val (.int v37), .val (.ref r38), .unset, .unset, .unset, .unset, .unset] []))) (fun t k => XS.astore X38.here hx rfl (hb hby at_104) rfl rfl (l' := #[.val (.long q0), .second, .val (.long q1), .second, .val (.long q2), .second, .val (.long q3), .second, .val (.int p4), .val (.long q5), .second, .val (.long r1), .second, .val (.long r2), .second, .val (.long r3), .second, .val (.long r4), .second, .val (.ref b5), .val (.ref b15), .val (.int v37), .val (.ref r38), .unset, .unset, .unset, .unset, .unset]) rfl k) ?_
  refine Goes.via (S' := (T38.setTop (mkF m 108 #[.val (.long q0), .second, .val (.long q1), .second, .val (.long q2), .second, .val (.long q3), .second, .val (.int p4), .val (.long q5), .second, .val (.long r1), .second, .val (.long r2), .second, .val (.long r3), .second, .val (.long r4), .second, .val (.ref b5), .val (.ref b15), .val (.int v37), .val (.ref r38), .unset, .unset, .unset, .unset, .unset] [(.ref b5)]))) (fun t k => XS.aload X38.here hx rfl (hb hby at_106) rfl rfl k) ?_
  refine Goes.via (S' := (T38.setTop (mkF m 110 #[.val (.long q0), .second, .val (.long q1), .second, .val (.long q2), .second, .val (.long q3), .second, .val (.int p4), .val (.long q5), .second, .val (.long r1), .second, .val (.long r2), .second, .val (.long r3), .second, .val (.long r4), .second, .val (.ref b5), .val (.ref b15), .val (.int v37), .val (.ref r38), .unset, .unset, .unset, .unset, .unset] [(.ref b15), (.ref b5)]))) (fun t k => XS.aload X38.here hx rfl (hb hby at_108) rfl rfl k) ?_
  obtain ⟨cq50, kq50, q50a, q50b, q50c⟩ := isOf hZ rfl f40
  obtain ⟨_, _, ⟨T50, L50, k50, n50⟩, -, X50, ⟨Lc50, hQ50, l50, y50, z50⟩, st50⟩ := X38.virtualBack hx (y := (⟨"com/example/eolog/eolog/producer/AbortedTransaction", "equals", "(Ljava/lang/Object;)Z"⟩ : MethodName)) (z := (⟨"com/example/eolog/eolog/producer/AbortedTransaction", "equals", "(Ljava/lang/Object;)Z"⟩ : MethodName)) hown (mvT hZ (hw _ (List.mem_of_getElem? (i := 29) rfl))) (mvT hZ (hw _ (List.mem_of_getElem? (i := 30) rfl))) (notFace_of_selects (args := #[]) (mvT hZ (hw _ (List.mem_of_getElem? (i := 32) rfl)))) (mvT hZ (hw _ (List.mem_of_getElem? (i := 32) rfl))) (mvT hZ (hw _ (List.mem_of_getElem? (i := 31) rfl))) (by decide) (backOf (W := 0) (rm5 l Z a0 hw [] b5 b15 q0 q1 q2 q3 r1 r2 r3 r4 T38.heap n0 Z38 f45 f41 f42 f43 f44 f46 f47 f48 f49) hZ (hw _ (List.mem_of_getElem? (i := 33) rfl)) (hw _ (List.mem_of_getElem? (i := 6) rfl)) (by decide) (by decide)) q50a q50c (g := (mkF m 110 #[.val (.long q0), .second, .val (.long q1), .second, .val (.long q2), .second, .val (.long q3), .second, .val (.int p4), .val (.long q5), .second, .val (.long r1), .second, .val (.long r2), .second, .val (.long r3), .second, .val (.long r4), .second, .val (.ref b5), .val (.ref b15), .val (.int v37), .val (.ref r38), .unset, .unset, .unset, .unset, .unset] [(.ref b15), (.ref b5)])) rfl (by rw [hml]; rfl) (Steps.refl _) (argsL := [(.ref b15)]) (rest := []) (lenOf pd_5 rfl) rfl (by show 2 * 0 + _ ≤ _; exact Nat.le_of_eq rfl) (hb hby at_110) (fun _ _ => ⟨rfl, rfl, (by decide : 3 + 0 ≤ _), (by decide : 9 + 0 ≤ _)⟩)
  dsimp only [Pt.U, Pt.locs, Pt.cells, Pt.slots] at X50 l50 y50 z50 st50 hQ50
  subst l50 y50 z50
  obtain ⟨r50, rfl, hr50, N50q, eq50⟩ := hQ50
  have N50 := Fr.app N38 N50q
  refine Goes.via (S' := (T50.setTop (mkF m 113 #[.val (.long q0), .second, .val (.long q1), .second, .val (.long q2), .second, .val (.long q3), .second, .val (.int p4), .val (.long q5), .second, .val (.long r1), .second, .val (.long r2), .second, .val (.long r3), .second, .val (.long r4), .second, .val (.ref b5), .val (.ref b15), .val (.int v37), .val (.ref r38), .unset, .unset, .unset, .unset, .unset] [(.int r50)]))) (fun t k => st50.trans k) ?_
  refine Goes.via (S' := (T50.setTop (mkF m 115 #[.val (.long q0), .second, .val (.long q1), .second, .val (.long q2), .second, .val (.long q3), .second, .val (.int p4), .val (.long q5), .second, .val (.long r1), .second, .val (.long r2), .second, .val (.long r3), .second, .val (.long r4), .second, .val (.ref b5), .val (.ref b15), .val (.int v37), .val (.ref r38), .val (.int r50), .unset, .unset, .unset, .unset] []))) (fun t k => XS.istore X50.here hx rfl (hb hby at_113) rfl (l' := #[.val (.long q0), .second, .val (.long q1), .second, .val (.long q2), .second, .val (.long q3), .second, .val (.int p4), .val (.long q5), .second, .val (.long r1), .second, .val (.long r2), .second, .val (.long r3), .second, .val (.long r4), .second, .val (.ref b5), .val (.ref b15), .val (.int v37), .val (.ref r38), .val (.int r50), .unset, .unset, .unset, .unset]) rfl k) ?_
  refine Goes.via (S' := (T50.setTop (mkF m 117 #[.val (.long q0), .second, .val (.long q1), .second, .val (.long q2), .second, .val (.long q3), .second, .val (.int p4), .val (.long q5), .second, .val (.long r1), .second, .val (.long r2), .second, .val (.long r3), .second, .val (.long r4), .second, .val (.ref b5), .val (.ref b15), .val (.int v37), .val (.ref r38), .val (.int r50), .unset, .unset, .unset, .unset] [(.ref b15)]))) (fun t k => XS.aload X50.here hx rfl (hb hby at_115) rfl rfl k) ?_
  refine Goes.via (S' := (T50.setTop (mkF m 119 #[.val (.long q0), .second, .val (.long q1), .second, .val (.long q2), .second, .val (.long q3), .second, .val (.int p4), .val (.long q5), .second, .val (.long r1), .second, .val (.long r2), .second, .val (.long r3), .second, .val (.long r4), .second, .val (.ref b5), .val (.ref b15), .val (.int v37), .val (.ref r38), .val (.int r50), .unset, .unset, .unset, .unset] [(.ref b5), (.ref b15)]))) (fun t k => XS.aload X50.here hx rfl (hb hby at_117) rfl rfl k) ?_
  obtain ⟨cq51, kq51, q51a, q51b, q51c⟩ := isOf hZ eq50 f45
  obtain ⟨_, _, ⟨T51, L51, k51, n51⟩, -, X51, ⟨Lc51, hQ51, l51, y51, z51⟩, st51⟩ := X50.virtualBack hx (y := (⟨"com/example/eolog/eolog/producer/AbortedTransaction", "equals", "(Ljava/lang/Object;)Z"⟩ : MethodName)) (z := (⟨"com/example/eolog/eolog/producer/AbortedTransaction", "equals", "(Ljava/lang/Object;)Z"⟩ : MethodName)) hown (mvT hZ (hw _ (List.mem_of_getElem? (i := 29) rfl))) (mvT hZ (hw _ (List.mem_of_getElem? (i := 30) rfl))) (notFace_of_selects (args := #[]) (mvT hZ (hw _ (List.mem_of_getElem? (i := 32) rfl)))) (mvT hZ (hw _ (List.mem_of_getElem? (i := 32) rfl))) (mvT hZ (hw _ (List.mem_of_getElem? (i := 31) rfl))) (by decide) (backOf (W := 0) (rm5 l Z a0 hw [] b15 b5 r1 r2 r3 r4 q0 q1 q2 q3 T38.heap n0 Z38 f40 f46 f47 f48 f49 f41 f42 f43 f44) hZ (hw _ (List.mem_of_getElem? (i := 33) rfl)) (hw _ (List.mem_of_getElem? (i := 6) rfl)) (by decide) (by decide)) q51a q51c (g := (mkF m 119 #[.val (.long q0), .second, .val (.long q1), .second, .val (.long q2), .second, .val (.long q3), .second, .val (.int p4), .val (.long q5), .second, .val (.long r1), .second, .val (.long r2), .second, .val (.long r3), .second, .val (.long r4), .second, .val (.ref b5), .val (.ref b15), .val (.int v37), .val (.ref r38), .val (.int r50), .unset, .unset, .unset, .unset] [(.ref b5), (.ref b15)])) rfl (by rw [hml]; rfl) (Steps.refl _) (argsL := [(.ref b5)]) (rest := []) (lenOf pd_5 rfl) rfl (by show 2 * 0 + _ ≤ _; exact Nat.le_of_eq rfl) (hb hby at_119) (fun _ _ => ⟨rfl, eq50, (by decide : 3 + 0 ≤ _), (by decide : 9 + 0 ≤ _)⟩)
  dsimp only [Pt.U, Pt.locs, Pt.cells, Pt.slots] at X51 l51 y51 z51 st51 hQ51
  subst l51 y51 z51
  obtain ⟨r51, rfl, hr51, N51q, eq51⟩ := hQ51
  have N51 := Fr.app N50 N51q
  refine Goes.via (S' := (T51.setTop (mkF m 122 #[.val (.long q0), .second, .val (.long q1), .second, .val (.long q2), .second, .val (.long q3), .second, .val (.int p4), .val (.long q5), .second, .val (.long r1), .second, .val (.long r2), .second, .val (.long r3), .second, .val (.long r4), .second, .val (.ref b5), .val (.ref b15), .val (.int v37), .val (.ref r38), .val (.int r50), .unset, .unset, .unset, .unset] [(.int r51)]))) (fun t k => st51.trans k) ?_
  refine Goes.via (S' := (T51.setTop (mkF m 124 #[.val (.long q0), .second, .val (.long q1), .second, .val (.long q2), .second, .val (.long q3), .second, .val (.int p4), .val (.long q5), .second, .val (.long r1), .second, .val (.long r2), .second, .val (.long r3), .second, .val (.long r4), .second, .val (.ref b5), .val (.ref b15), .val (.int v37), .val (.ref r38), .val (.int r50), .val (.int r51), .unset, .unset, .unset] []))) (fun t k => XS.istore X51.here hx rfl (hb hby at_122) rfl (l' := #[.val (.long q0), .second, .val (.long q1), .second, .val (.long q2), .second, .val (.long q3), .second, .val (.int p4), .val (.long q5), .second, .val (.long r1), .second, .val (.long r2), .second, .val (.long r3), .second, .val (.long r4), .second, .val (.ref b5), .val (.ref b15), .val (.int v37), .val (.ref r38), .val (.int r50), .val (.int r51), .unset, .unset, .unset]) rfl k) ?_
  refine Goes.via (S' := (T51.setTop (mkF m 126 #[.val (.long q0), .second, .val (.long q1), .second, .val (.long q2), .second, .val (.long q3), .second, .val (.int p4), .val (.long q5), .second, .val (.long r1), .second, .val (.long r2), .second, .val (.long r3), .second, .val (.long r4), .second, .val (.ref b5), .val (.ref b15), .val (.int v37), .val (.ref r38), .val (.int r50), .val (.int r51), .unset, .unset, .unset] [(.ref b5)]))) (fun t k => XS.aload X51.here hx rfl (hb hby at_124) rfl rfl k) ?_
  refine Goes.via (S' := (T51.setTop (mkF m 128 #[.val (.long q0), .second, .val (.long q1), .second, .val (.long q2), .second, .val (.long q3), .second, .val (.int p4), .val (.long q5), .second, .val (.long r1), .second, .val (.long r2), .second, .val (.long r3), .second, .val (.long r4), .second, .val (.ref b5), .val (.ref b15), .val (.int v37), .val (.ref r38), .val (.int r50), .val (.int r51), .unset, .unset, .unset] [(.ref b5), (.ref b5)]))) (fun t k => XS.aload X51.here hx rfl (hb hby at_126) rfl rfl k) ?_
  obtain ⟨cq52, kq52, q52a, q52b, q52c⟩ := isOf hZ eq51 f40
  obtain ⟨_, _, ⟨T52, L52, k52, n52⟩, -, X52, ⟨Lc52, hQ52, l52, y52, z52⟩, st52⟩ := X51.virtualBack hx (y := (⟨"com/example/eolog/eolog/producer/AbortedTransaction", "equals", "(Ljava/lang/Object;)Z"⟩ : MethodName)) (z := (⟨"com/example/eolog/eolog/producer/AbortedTransaction", "equals", "(Ljava/lang/Object;)Z"⟩ : MethodName)) hown (mvT hZ (hw _ (List.mem_of_getElem? (i := 29) rfl))) (mvT hZ (hw _ (List.mem_of_getElem? (i := 30) rfl))) (notFace_of_selects (args := #[]) (mvT hZ (hw _ (List.mem_of_getElem? (i := 32) rfl)))) (mvT hZ (hw _ (List.mem_of_getElem? (i := 32) rfl))) (mvT hZ (hw _ (List.mem_of_getElem? (i := 31) rfl))) (by decide) (backOf (W := 0) (rm5 l Z a0 hw [] b5 b5 q0 q1 q2 q3 q0 q1 q2 q3 T38.heap n0 Z38 f40 f41 f42 f43 f44 f41 f42 f43 f44) hZ (hw _ (List.mem_of_getElem? (i := 33) rfl)) (hw _ (List.mem_of_getElem? (i := 6) rfl)) (by decide) (by decide)) q52a q52c (g := (mkF m 128 #[.val (.long q0), .second, .val (.long q1), .second, .val (.long q2), .second, .val (.long q3), .second, .val (.int p4), .val (.long q5), .second, .val (.long r1), .second, .val (.long r2), .second, .val (.long r3), .second, .val (.long r4), .second, .val (.ref b5), .val (.ref b15), .val (.int v37), .val (.ref r38), .val (.int r50), .val (.int r51), .unset, .unset, .unset] [(.ref b5), (.ref b5)])) rfl (by rw [hml]; rfl) (Steps.refl _) (argsL := [(.ref b5)]) (rest := []) (lenOf pd_5 rfl) rfl (by show 2 * 0 + _ ≤ _; exact Nat.le_of_eq rfl) (hb hby at_128) (fun _ _ => ⟨rfl, eq51, (by decide : 3 + 0 ≤ _), (by decide : 9 + 0 ≤ _)⟩)
  dsimp only [Pt.U, Pt.locs, Pt.cells, Pt.slots] at X52 l52 y52 z52 st52 hQ52
  subst l52 y52 z52
  obtain ⟨r52, rfl, hr52, N52q, eq52⟩ := hQ52
  have N52 := Fr.app N51 N52q
  refine Goes.via (S' := (T52.setTop (mkF m 131 #[.val (.long q0), .second, .val (.long q1), .second, .val (.long q2), .second, .val (.long q3), .second, .val (.int p4), .val (.long q5), .second, .val (.long r1), .second, .val (.long r2), .second, .val (.long r3), .second, .val (.long r4), .second, .val (.ref b5), .val (.ref b15), .val (.int v37), .val (.ref r38), .val (.int r50), .val (.int r51), .unset, .unset, .unset] [(.int r52)]))) (fun t k => st52.trans k) ?_
  refine Goes.via (S' := (T52.setTop (mkF m 133 #[.val (.long q0), .second, .val (.long q1), .second, .val (.long q2), .second, .val (.long q3), .second, .val (.int p4), .val (.long q5), .second, .val (.long r1), .second, .val (.long r2), .second, .val (.long r3), .second, .val (.long r4), .second, .val (.ref b5), .val (.ref b15), .val (.int v37), .val (.ref r38), .val (.int r50), .val (.int r51), .val (.int r52), .unset, .unset] []))) (fun t k => XS.istore X52.here hx rfl (hb hby at_131) rfl (l' := #[.val (.long q0), .second, .val (.long q1), .second, .val (.long q2), .second, .val (.long q3), .second, .val (.int p4), .val (.long q5), .second, .val (.long r1), .second, .val (.long r2), .second, .val (.long r3), .second, .val (.long r4), .second, .val (.ref b5), .val (.ref b15), .val (.int v37), .val (.ref r38), .val (.int r50), .val (.int r51), .val (.int r52), .unset, .unset]) rfl k) ?_
  refine Goes.via (S' := (T52.setTop (mkF m 135 #[.val (.long q0), .second, .val (.long q1), .second, .val (.long q2), .second, .val (.long q3), .second, .val (.int p4), .val (.long q5), .second, .val (.long r1), .second, .val (.long r2), .second, .val (.long r3), .second, .val (.long r4), .second, .val (.ref b5), .val (.ref b15), .val (.int v37), .val (.ref r38), .val (.int r50), .val (.int r51), .val (.int r52), .unset, .unset] [(.ref b5)]))) (fun t k => XS.aload X52.here hx rfl (hb hby at_133) rfl rfl k) ?_
  refine Goes.via (S' := (T52.setTop (mkF m 136 #[.val (.long q0), .second, .val (.long q1), .second, .val (.long q2), .second, .val (.long q3), .second, .val (.int p4), .val (.long q5), .second, .val (.long r1), .second, .val (.long r2), .second, .val (.long r3), .second, .val (.long r4), .second, .val (.ref b5), .val (.ref b15), .val (.int v37), .val (.ref r38), .val (.int r50), .val (.int r51), .val (.int r52), .unset, .unset] [.null, (.ref b5)]))) (fun t k => XS.aconstNull X52.here hx rfl (hb hby at_135) k) ?_
  obtain ⟨cq53, kq53, q53a, q53b, q53c⟩ := isOf hZ eq52 f40
  obtain ⟨_, _, ⟨T53, L53, k53, n53⟩, -, X53, ⟨Lc53, hQ53, l53, y53, z53⟩, st53⟩ := X52.virtualBack hx (y := (⟨"com/example/eolog/eolog/producer/AbortedTransaction", "equals", "(Ljava/lang/Object;)Z"⟩ : MethodName)) (z := (⟨"com/example/eolog/eolog/producer/AbortedTransaction", "equals", "(Ljava/lang/Object;)Z"⟩ : MethodName)) hown (mvT hZ (hw _ (List.mem_of_getElem? (i := 29) rfl))) (mvT hZ (hw _ (List.mem_of_getElem? (i := 30) rfl))) (notFace_of_selects (args := #[]) (mvT hZ (hw _ (List.mem_of_getElem? (i := 32) rfl)))) (mvT hZ (hw _ (List.mem_of_getElem? (i := 32) rfl))) (mvT hZ (hw _ (List.mem_of_getElem? (i := 31) rfl))) (by decide) (backOf (W := 0) (rm5n l Z a0 hw [] b5 T38.heap n0 Z38 ) hZ (hw _ (List.mem_of_getElem? (i := 33) rfl)) (hw _ (List.mem_of_getElem? (i := 6) rfl)) (by decide) (by decide)) q53a q53c (g := (mkF m 136 #[.val (.long q0), .second, .val (.long q1), .second, .val (.long q2), .second, .val (.long q3), .second, .val (.int p4), .val (.long q5), .second, .val (.long r1), .second, .val (.long r2), .second, .val (.long r3), .second, .val (.long r4), .second, .val (.ref b5), .val (.ref b15), .val (.int v37), .val (.ref r38), .val (.int r50), .val (.int r51), .val (.int r52), .unset, .unset] [.null, (.ref b5)])) rfl (by rw [hml]; rfl) (Steps.refl _) (argsL := [.null]) (rest := []) (lenOf pd_5 rfl) rfl (by show 2 * 0 + _ ≤ _; exact Nat.le_of_eq rfl) (hb hby at_136) (fun _ _ => ⟨rfl, eq52, (by decide : 3 + 0 ≤ _), (by decide : 9 + 0 ≤ _)⟩)
  dsimp only [Pt.U, Pt.locs, Pt.cells, Pt.slots] at X53 l53 y53 z53 st53 hQ53
  subst l53 y53 z53
  obtain ⟨rfl, N53q, eq53⟩ := hQ53
  have N53 := Fr.app N52 N53q
  refine Goes.via (S' := (T53.setTop (mkF m 139 #[.val (.long q0), .second, .val (.long q1), .second, .val (.long q2), .second, .val (.long q3), .second, .val (.int p4), .val (.long q5), .second, .val (.long r1), .second, .val (.long r2), .second, .val (.long r3), .second, .val (.long r4), .second, .val (.ref b5), .val (.ref b15), .val (.int v37), .val (.ref r38), .val (.int r50), .val (.int r51), .val (.int r52), .unset, .unset] [(.int (0 : Int32))]))) (fun t k => st53.trans k) ?_
  refine Goes.via (S' := (T53.setTop (mkF m 141 #[.val (.long q0), .second, .val (.long q1), .second, .val (.long q2), .second, .val (.long q3), .second, .val (.int p4), .val (.long q5), .second, .val (.long r1), .second, .val (.long r2), .second, .val (.long r3), .second, .val (.long r4), .second, .val (.ref b5), .val (.ref b15), .val (.int v37), .val (.ref r38), .val (.int r50), .val (.int r51), .val (.int r52), .val (.int (0 : Int32)), .unset] []))) (fun t k => XS.istore X53.here hx rfl (hb hby at_139) rfl (l' := #[.val (.long q0), .second, .val (.long q1), .second, .val (.long q2), .second, .val (.long q3), .second, .val (.int p4), .val (.long q5), .second, .val (.long r1), .second, .val (.long r2), .second, .val (.long r3), .second, .val (.long r4), .second, .val (.ref b5), .val (.ref b15), .val (.int v37), .val (.ref r38), .val (.int r50), .val (.int r51), .val (.int r52), .val (.int (0 : Int32)), .unset]) rfl k) ?_
  refine Goes.via (S' := (T53.setTop (mkF m 143 #[.val (.long q0), .second, .val (.long q1), .second, .val (.long q2), .second, .val (.long q3), .second, .val (.int p4), .val (.long q5), .second, .val (.long r1), .second, .val (.long r2), .second, .val (.long r3), .second, .val (.long r4), .second, .val (.ref b5), .val (.ref b15), .val (.int v37), .val (.ref r38), .val (.int r50), .val (.int r51), .val (.int r52), .val (.int (0 : Int32)), .unset] [(.ref b5)]))) (fun t k => XS.aload X53.here hx rfl (hb hby at_141) rfl rfl k) ?_
  refine Goes.via (S' := (T53.setTop (mkF m 145 #[.val (.long q0), .second, .val (.long q1), .second, .val (.long q2), .second, .val (.long q3), .second, .val (.int p4), .val (.long q5), .second, .val (.long r1), .second, .val (.long r2), .second, .val (.long r3), .second, .val (.long r4), .second, .val (.ref b5), .val (.ref b15), .val (.int v37), .val (.ref r38), .val (.int r50), .val (.int r51), .val (.int r52), .val (.int (0 : Int32)), .unset] [(.ref r38), (.ref b5)]))) (fun t k => XS.aload X53.here hx rfl (hb hby at_143) rfl rfl k) ?_
  obtain ⟨cq54, kq54, q54a, q54b, q54c⟩ := isOf hZ eq53 f40
  obtain ⟨_, _, ⟨T54, L54, k54, n54⟩, -, X54, ⟨Lc54, hQ54, l54, y54, z54⟩, st54⟩ := X53.virtualBack hx (y := (⟨"com/example/eolog/eolog/producer/AbortedTransaction", "equals", "(Ljava/lang/Object;)Z"⟩ : MethodName)) (z := (⟨"com/example/eolog/eolog/producer/AbortedTransaction", "equals", "(Ljava/lang/Object;)Z"⟩ : MethodName)) hown (mvT hZ (hw _ (List.mem_of_getElem? (i := 29) rfl))) (mvT hZ (hw _ (List.mem_of_getElem? (i := 30) rfl))) (notFace_of_selects (args := #[]) (mvT hZ (hw _ (List.mem_of_getElem? (i := 32) rfl)))) (mvT hZ (hw _ (List.mem_of_getElem? (i := 32) rfl))) (mvT hZ (hw _ (List.mem_of_getElem? (i := 31) rfl))) (by decide) (backOf (W := 0) (rm5l l Z a0 hw [] b5 r38 T38.heap n0 Z38 po38_0) hZ (hw _ (List.mem_of_getElem? (i := 33) rfl)) (hw _ (List.mem_of_getElem? (i := 6) rfl)) (by decide) (by decide)) q54a q54c (g := (mkF m 145 #[.val (.long q0), .second, .val (.long q1), .second, .val (.long q2), .second, .val (.long q3), .second, .val (.int p4), .val (.long q5), .second, .val (.long r1), .second, .val (.long r2), .second, .val (.long r3), .second, .val (.long r4), .second, .val (.ref b5), .val (.ref b15), .val (.int v37), .val (.ref r38), .val (.int r50), .val (.int r51), .val (.int r52), .val (.int (0 : Int32)), .unset] [(.ref r38), (.ref b5)])) rfl (by rw [hml]; rfl) (Steps.refl _) (argsL := [(.ref r38)]) (rest := []) (lenOf pd_5 rfl) rfl (by show 2 * 0 + _ ≤ _; exact Nat.le_of_eq rfl) (hb hby at_145) (fun _ _ => ⟨rfl, eq53, (by decide : 3 + 0 ≤ _), (by decide : 9 + 0 ≤ _)⟩)
  dsimp only [Pt.U, Pt.locs, Pt.cells, Pt.slots] at X54 l54 y54 z54 st54 hQ54
  subst l54 y54 z54
  obtain ⟨rfl, N54q, eq54⟩ := hQ54
  have N54 := Fr.app N53 N54q
  refine Goes.via (S' := (T54.setTop (mkF m 148 #[.val (.long q0), .second, .val (.long q1), .second, .val (.long q2), .second, .val (.long q3), .second, .val (.int p4), .val (.long q5), .second, .val (.long r1), .second, .val (.long r2), .second, .val (.long r3), .second, .val (.long r4), .second, .val (.ref b5), .val (.ref b15), .val (.int v37), .val (.ref r38), .val (.int r50), .val (.int r51), .val (.int r52), .val (.int (0 : Int32)), .unset] [(.int (0 : Int32))]))) (fun t k => st54.trans k) ?_
  refine Goes.via (S' := (T54.setTop (mkF m 150 #[.val (.long q0), .second, .val (.long q1), .second, .val (.long q2), .second, .val (.long q3), .second, .val (.int p4), .val (.long q5), .second, .val (.long r1), .second, .val (.long r2), .second, .val (.long r3), .second, .val (.long r4), .second, .val (.ref b5), .val (.ref b15), .val (.int v37), .val (.ref r38), .val (.int r50), .val (.int r51), .val (.int r52), .val (.int (0 : Int32)), .val (.int (0 : Int32))] []))) (fun t k => XS.istore X54.here hx rfl (hb hby at_148) rfl (l' := #[.val (.long q0), .second, .val (.long q1), .second, .val (.long q2), .second, .val (.long q3), .second, .val (.int p4), .val (.long q5), .second, .val (.long r1), .second, .val (.long r2), .second, .val (.long r3), .second, .val (.long r4), .second, .val (.ref b5), .val (.ref b15), .val (.int v37), .val (.ref r38), .val (.int r50), .val (.int r51), .val (.int r52), .val (.int (0 : Int32)), .val (.int (0 : Int32))]) rfl k) ?_
  refine Goes.via (S' := (T54.setTop (mkF m 152 #[.val (.long q0), .second, .val (.long q1), .second, .val (.long q2), .second, .val (.long q3), .second, .val (.int p4), .val (.long q5), .second, .val (.long r1), .second, .val (.long r2), .second, .val (.long r3), .second, .val (.long r4), .second, .val (.ref b5), .val (.ref b15), .val (.int v37), .val (.ref r38), .val (.int r50), .val (.int r51), .val (.int r52), .val (.int (0 : Int32)), .val (.int (0 : Int32))] [(.int r50)]))) (fun t k => XS.iload X54.here hx rfl (hb hby at_150) rfl k) ?_
  refine Goes.via (S' := (T54.setTop (mkF m 154 #[.val (.long q0), .second, .val (.long q1), .second, .val (.long q2), .second, .val (.long q3), .second, .val (.int p4), .val (.long q5), .second, .val (.long r1), .second, .val (.long r2), .second, .val (.long r3), .second, .val (.long r4), .second, .val (.ref b5), .val (.ref b15), .val (.int v37), .val (.ref r38), .val (.int r50), .val (.int r51), .val (.int r52), .val (.int (0 : Int32)), .val (.int (0 : Int32))] [(.int v37), (.int r50)]))) (fun t k => XS.iload X54.here hx rfl (hb hby at_152) rfl k) ?_
  refine Goes.via (S' := (T54.setTop (mkF m 157 #[.val (.long q0), .second, .val (.long q1), .second, .val (.long q2), .second, .val (.long q3), .second, .val (.int p4), .val (.long q5), .second, .val (.long r1), .second, .val (.long r2), .second, .val (.long r3), .second, .val (.long r4), .second, .val (.ref b5), .val (.ref b15), .val (.int v37), .val (.ref r38), .val (.int r50), .val (.int r51), .val (.int r52), .val (.int (0 : Int32)), .val (.int (0 : Int32))] []))) (fun t k => XS.icmpNo X54.here hx rfl (hb hby at_154) rfl (teq (own_beq hr50 hv37 (own_abt hr1 hr2 hr3 hr4) : (r50 = v37))).2 k) ?_
  refine Goes.via (S' := (T54.setTop (mkF m 159 #[.val (.long q0), .second, .val (.long q1), .second, .val (.long q2), .second, .val (.long q3), .second, .val (.int p4), .val (.long q5), .second, .val (.long r1), .second, .val (.long r2), .second, .val (.long r3), .second, .val (.long r4), .second, .val (.ref b5), .val (.ref b15), .val (.int v37), .val (.ref r38), .val (.int r50), .val (.int r51), .val (.int r52), .val (.int (0 : Int32)), .val (.int (0 : Int32))] [(.int r51)]))) (fun t k => XS.iload X54.here hx rfl (hb hby at_157) rfl k) ?_
  refine Goes.via (S' := (T54.setTop (mkF m 161 #[.val (.long q0), .second, .val (.long q1), .second, .val (.long q2), .second, .val (.long q3), .second, .val (.int p4), .val (.long q5), .second, .val (.long r1), .second, .val (.long r2), .second, .val (.long r3), .second, .val (.long r4), .second, .val (.ref b5), .val (.ref b15), .val (.int v37), .val (.ref r38), .val (.int r50), .val (.int r51), .val (.int r52), .val (.int (0 : Int32)), .val (.int (0 : Int32))] [(.int v37), (.int r51)]))) (fun t k => XS.iload X54.here hx rfl (hb hby at_159) rfl k) ?_
  refine Goes.via (S' := (T54.setTop (mkF m 164 #[.val (.long q0), .second, .val (.long q1), .second, .val (.long q2), .second, .val (.long q3), .second, .val (.int p4), .val (.long q5), .second, .val (.long r1), .second, .val (.long r2), .second, .val (.long r3), .second, .val (.long r4), .second, .val (.ref b5), .val (.ref b15), .val (.int v37), .val (.ref r38), .val (.int r50), .val (.int r51), .val (.int r52), .val (.int (0 : Int32)), .val (.int (0 : Int32))] []))) (fun t k => XS.icmpNo X54.here hx rfl (hb hby at_161) rfl (teq (own_beq hr51 hv37 ((own_sym4).trans (own_abt hr1 hr2 hr3 hr4)) : (r51 = v37))).2 k) ?_
  refine Goes.via (S' := (T54.setTop (mkF m 166 #[.val (.long q0), .second, .val (.long q1), .second, .val (.long q2), .second, .val (.long q3), .second, .val (.int p4), .val (.long q5), .second, .val (.long r1), .second, .val (.long r2), .second, .val (.long r3), .second, .val (.long r4), .second, .val (.ref b5), .val (.ref b15), .val (.int v37), .val (.ref r38), .val (.int r50), .val (.int r51), .val (.int r52), .val (.int (0 : Int32)), .val (.int (0 : Int32))] [(.int r52)]))) (fun t k => XS.iload X54.here hx rfl (hb hby at_164) rfl k) ?_
  refine Goes.via (S' := (T54.setTop (mkF m 169 #[.val (.long q0), .second, .val (.long q1), .second, .val (.long q2), .second, .val (.long q3), .second, .val (.int p4), .val (.long q5), .second, .val (.long r1), .second, .val (.long r2), .second, .val (.long r3), .second, .val (.long r4), .second, .val (.ref b5), .val (.ref b15), .val (.int v37), .val (.ref r38), .val (.int r50), .val (.int r51), .val (.int r52), .val (.int (0 : Int32)), .val (.int (0 : Int32))] []))) (fun t k => XS.ifNo X54.here hx rfl (hb hby at_166) rfl ((if0 _ _).trans (feq (own_b1 hr52 (by simp : ((q0 = q0) ∧ ((q1 = q1) ∧ ((q2 = q2) ∧ (q3 = q3))))))).1) k) ?_
  refine Goes.via (S' := (T54.setTop (mkF m 171 #[.val (.long q0), .second, .val (.long q1), .second, .val (.long q2), .second, .val (.long q3), .second, .val (.int p4), .val (.long q5), .second, .val (.long r1), .second, .val (.long r2), .second, .val (.long r3), .second, .val (.long r4), .second, .val (.ref b5), .val (.ref b15), .val (.int v37), .val (.ref r38), .val (.int r50), .val (.int r51), .val (.int r52), .val (.int (0 : Int32)), .val (.int (0 : Int32))] [(.int (0 : Int32))]))) (fun t k => XS.iload X54.here hx rfl (hb hby at_169) rfl k) ?_
  refine Goes.via (S' := (T54.setTop (mkF m 174 #[.val (.long q0), .second, .val (.long q1), .second, .val (.long q2), .second, .val (.long q3), .second, .val (.int p4), .val (.long q5), .second, .val (.long r1), .second, .val (.long r2), .second, .val (.long r3), .second, .val (.long r4), .second, .val (.ref b5), .val (.ref b15), .val (.int v37), .val (.ref r38), .val (.int r50), .val (.int r51), .val (.int r52), .val (.int (0 : Int32)), .val (.int (0 : Int32))] []))) (fun t k => XS.ifNo X54.here hx rfl (hb hby at_171) rfl ((if0 _ _).trans (teq rfl).2) k) ?_
  refine Goes.via (S' := (T54.setTop (mkF m 176 #[.val (.long q0), .second, .val (.long q1), .second, .val (.long q2), .second, .val (.long q3), .second, .val (.int p4), .val (.long q5), .second, .val (.long r1), .second, .val (.long r2), .second, .val (.long r3), .second, .val (.long r4), .second, .val (.ref b5), .val (.ref b15), .val (.int v37), .val (.ref r38), .val (.int r50), .val (.int r51), .val (.int r52), .val (.int (0 : Int32)), .val (.int (0 : Int32))] [(.int (0 : Int32))]))) (fun t k => XS.iload X54.here hx rfl (hb hby at_174) rfl k) ?_
  refine Goes.via (S' := (T54.setTop (mkF m 179 #[.val (.long q0), .second, .val (.long q1), .second, .val (.long q2), .second, .val (.long q3), .second, .val (.int p4), .val (.long q5), .second, .val (.long r1), .second, .val (.long r2), .second, .val (.long r3), .second, .val (.long r4), .second, .val (.ref b5), .val (.ref b15), .val (.int v37), .val (.ref r38), .val (.int r50), .val (.int r51), .val (.int r52), .val (.int (0 : Int32)), .val (.int (0 : Int32))] []))) (fun t k => XS.ifNo X54.here hx rfl (hb hby at_176) rfl ((if0 _ _).trans (teq rfl).2) k) ?_
  refine Goes.via (S' := (T54.setTop (mkF m 180 #[.val (.long q0), .second, .val (.long q1), .second, .val (.long q2), .second, .val (.long q3), .second, .val (.int p4), .val (.long q5), .second, .val (.long r1), .second, .val (.long r2), .second, .val (.long r3), .second, .val (.long r4), .second, .val (.ref b5), .val (.ref b15), .val (.int v37), .val (.ref r38), .val (.int r50), .val (.int r51), .val (.int r52), .val (.int (0 : Int32)), .val (.int (0 : Int32))] [(.int (1 : Int32))]))) (fun t k => XS.iconst X54.here hx rfl (hb hby at_179) k) ?_
  refine Goes.via (S' := (T54.setTop (mkF m 184 #[.val (.long q0), .second, .val (.long q1), .second, .val (.long q2), .second, .val (.long q3), .second, .val (.int p4), .val (.long q5), .second, .val (.long r1), .second, .val (.long r2), .second, .val (.long r3), .second, .val (.long r4), .second, .val (.ref b5), .val (.ref b15), .val (.int v37), .val (.ref r38), .val (.int r50), .val (.int r51), .val (.int r52), .val (.int (0 : Int32)), .val (.int (0 : Int32))] [(.int (1 : Int32))]))) (fun t k => XS.goto X54.here hx rfl (pc0 := 180) (pc' := 184) rfl (hb hby at_180) (by decide) (by decide) k) ?_
  exact own_ret X54 hx Bd.notSynchronized Bd.returns rfl (Or.inl ⟨rfl, by simp, _, rfl⟩) (hb hby at_184) eq54 ⟨rfl, N54⟩ (by decide) (by decide)
set_option maxRecDepth 65536 in
set_option maxHeartbeats 40000000 in
theorem comes_1 {Post : Tables → Env → Array Value → State → Outcome → State → Prop} (hpost : ∀ tb e args s v u, (limb_1_1.after args s (.returned v) u = true ∧ limb_1_2.after args s (.returned v) u = true ∧ True) → FrameEnd s (.returned v) u (Jvm.fieldLocs frame_1_writes args s ++ Jvm.arrayLocs frame_1_arrays args s ++ Jvm.staticLocs frame_1_statics s) 16 128 → Post tb e args s (.returned v) u) :
    ArmFor flags0 classFile x code maxLocals ret World_1 tables_1 room_1 Calls_1 rest_1 Pre_1 Post := by
  intro l hfl _ _ p e ha hc hk s m args below hf hA hF happ hP
  obtain ⟨hcalls, hrest, hpre⟩ := hP
  obtain ⟨-, -, -, hnamed, -, -, -, hat⟩ := (Spec.applies_iff hf).mp happ
  obtain ⟨hg, hn⟩ := and_e (Cond.before_iff.mp (show (Jvm.Cond.and given_1 narrow_1).before args s = true from hpre))
  obtain ⟨g1, g2⟩ := and_e hg
  obtain ⟨g3, g4⟩ := and_e g2
  obtain ⟨g5, g6⟩ := and_e g4
  obtain ⟨g7, g8⟩ := and_e g6
  obtain ⟨g9, g10⟩ := and_e g8
  obtain ⟨g11, g12⟩ := and_e g10
  obtain ⟨w0, w1, w2, w3, w4, w5, rfl⟩ : ∃ w0 w1 w2 w3 w4 w5 : Value, args = #[w0, w1, w2, w3, w4, w5] := by
    have hs : args.size = 6 := by simpa [Cond.value, given_1] using g1
    obtain ⟨L⟩ := args
    match L, hs with
    | [w0, w1, w2, w3, w4, w5], _ => exact ⟨w0, w1, w2, w3, w4, w5, rfl⟩
  have hw := fun d (hd : d ∈ tables_1) => atoms_spec (ws := Jvm.Cond.code x code maxLocals ret :: tables_1) hat d (List.mem_cons_of_mem _ hd)
  have hfit : Fit s := fun {y c} hc i hi => by
    obtain ⟨ha, rfl⟩ := Array.getElem?_eq_some_iff.mp hc
    have q := List.all_eq_true.mp ((Array.all_eq_true_iff_forall_mem.mp hF) _ (Array.getElem_mem ha)) i (List.mem_range.mpr hi)
    simpa [Array.getElem?_eq_getElem hi] using q
  obtain ⟨hsets, hown0⟩ := atoms_of _ (rest_1_c_eq ▸ (show rest_1_c.before _ s = true from hrest))
  have hr0 := Cond.before_iff.mp hown0
  obtain ⟨i0, ei0⟩ := isL_v g3
  obtain rfl : w0 = (.long i0) := Option.some.inj ei0
  obtain ⟨i1, ei1⟩ := isL_v g5
  obtain rfl : w1 = (.long i1) := Option.some.inj ei1
  obtain ⟨i2, ei2⟩ := isL_v g7
  obtain rfl : w2 = (.long i2) := Option.some.inj ei2
  obtain ⟨i3, ei3⟩ := isL_v g9
  obtain rfl : w3 = (.long i3) := Option.some.inj ei3
  obtain ⟨i4, ei4⟩ := is_v g11
  obtain rfl : w4 = (.int i4) := Option.some.inj ei4
  obtain ⟨i5, ei5⟩ := isL_v g12
  obtain rfl : w5 = (.long i5) := Option.some.inj ei5
  obtain ⟨yc, SC, HC⟩ := own_cacheStart (hsets _ (List.mem_of_getElem? (i := 1) rfl)) (hsets _ (List.mem_of_getElem? (i := 2) rfl)) (hsets _ (List.mem_of_getElem? (i := 3) rfl)) (hsets _ (List.mem_of_getElem? (i := 4) rfl)) (hsets _ (List.mem_of_getElem? (i := 5) rfl))
  obtain ⟨n, o, h1, h2, h3, _, L, rfl, ⟨rfl, N⟩, hq⟩ := rm0 l s _ hw tables_1 i0 i1 i2 i3 i4 i5 yc s.heap s.heap.size (Nat.le_refl _) SC HC p e ha hc hk s m _ below hf ((Spec.applies_iff_loose hf).mp happ).1 ⟨rfl, State.Warmed39.refl s, rfl⟩ trivial
  refine ⟨n, _, h1, h2, h3, hpost _ _ _ _ _ _ ⟨Cond.after_iff.mpr rfl, Cond.after_iff.mpr (eq_i res_at (Term.int_eval (1)) rfl), trivial⟩ ⟨hq.1, hq.2.1, (hq.2.2.sift fun y hy => Or.inr (N y hy)).mono (by decide) (by decide)⟩⟩
theorem main_1_1 : Claimed_1_1 := comes_1 fun _ _ _ _ _ _ h hF => ⟨h.1, hF⟩
theorem main_1_2 : Claimed_1_2 := comes_1 fun _ _ _ _ _ _ h hF => ⟨h.2.1, hF⟩
end Jvm.Pilot.@@N@@
namespace Jvm.Pilot.@@N@@
open Jvm Jvm.ClassFile Sem Op Lib Jvm.Free Jvm.Stand Jvm.Pilot.@@N@@.Jvm.D
/-! MADE BY PROGRAM (witnessworld.py) out of the Statement's table words and the real class files: 16 classes; the members and pool entries that the words name. The judged class is class 1, her method 2. -/
namespace start1
open Jvm.ClassFile
def u (s : String) : CpInfo := .utf8 (stringToUtf16 s)
/-- a pool by its gaps: so many unusable entries, then the entry; so many at the end -/
def gap : Nat → List CpInfo → List CpInfo
  | 0, r => r
  | n + 1, r => .unusable :: gap n r
def poolList (es : List (Nat × CpInfo)) (last : Nat) : List CpInfo := es.foldr (fun e r => gap e.1 (e.2 :: r)) (gap last [])
def pool (es : List (Nat × CpInfo)) (last : Nat) : Array CpInfo := ⟨poolList es last⟩
def fileOf (pool : Array CpInfo) (this : Nat) (attrs : Array Attribute := #[]) (ms : Array MethodInfo := #[]) (fl : Nat := 33) (sup : Nat := 0) (ifs : Array Nat := #[]) (fds : Array FieldInfo := #[]) : ClassFile where
  minorVersion := 0
  majorVersion := 65
  constantPool := pool
  accessFlags := fl
  thisClass := this
  superClass := sup
  interfaces := ifs
  fields := fds
  methods := ms
  attributes := attrs
def plain (name : String) (sup : Option ClassId) : Class where
  name := name
  kind := .ordinary
  loader := none
  accessFlags := 33
  super := sup
  interfaces := #[]
  cf := none
  fields := #[]
  methods := #[]
  instanceTypes := #[]
  staticTypes := #[]
  resolved := #[]
  callSites := []
  init := .initialized
  statics := none
  mirror := none

def pool0 : Array CpInfo := pool [(5, u "<init>"), (0, u "()V"), (1, .class_ 10), (1, u "java/lang/Object")] 113

def k0c0 : Code := { maxStack := 0, maxLocals := 1, code := object_method_1_code, exceptionTable := #[], attributes := #[] }
def k0m0 : Method := { name := "<init>", desc := "()V", sig := { parameters := [], returnType := none }, accessFlags := 1, code := some k0c0 }
/-- java/lang/Object -/
def k0 : Class := { plain "java/lang/Object" none with
  accessFlags := 33
  interfaces := #[]
  cf := some (fileOf pool0 8 #[] #[{ accessFlags := 1, nameIndex := 5, descriptorIndex := 6, attributes := #[] }] 33 0 #[] #[])
  fields := #[]
  methods := #[k0m0]
  instanceTypes := #[]
  staticTypes := #[]
  resolved := Array.replicate 124 none
  statics := none }

def pool1 : Array CpInfo := pool [(2, .class_ 4), (1, u "java/lang/Object"), (0, u "<init>"), (0, u "()V"), (0, .methodref 8 9), (0, .class_ 10), (0, .nameAndType 11 12), (0, u "com/example/eolog/eolog/producer/AbortedTransactionEqualsPinLaw"), (0, u "bump"), (0, u "(JIIJ)J"), (0, .class_ 14), (0, u "com/example/eolog/eolog/producer/AbortedTransaction"), (0, .methodref 13 16), (0, .nameAndType 5 17), (0, u "(JJJJ)V"), (0, .methodref 19 20), (0, .class_ 21), (0, .nameAndType 22 23), (0, u "java/lang/Long"), (0, u "valueOf"), (0, u "(J)Ljava/lang/Long;"), (0, .methodref 13 25), (0, .nameAndType 26 27), (0, u "equals"), (0, u "(Ljava/lang/Object;)Z"), (3, u "law"), (0, u "(JJJJIJ)Z")] 2

def k1m0 : Method := { name := "<init>", desc := "()V", sig := { parameters := [], returnType := none }, accessFlags := 1, code := none }
def k1c1 : Code := { maxStack := 4, maxLocals := 6, code := method_2_code, exceptionTable := #[], attributes := #[] }
def k1m1 : Method := { name := "bump", desc := "(JIIJ)J", sig := { parameters := [.long, .int, .int, .long], returnType := some .long }, accessFlags := 10, code := some k1c1 }
def k1c2 : Code := { maxStack := 10, maxLocals := 28, code := code, exceptionTable := #[], attributes := #[] }
def k1m2 : Method := { name := "law", desc := "(JJJJIJ)Z", sig := { parameters := [.long, .long, .long, .long, .int, .long], returnType := some .boolean }, accessFlags := 9, code := some k1c2 }
/-- com/example/eolog/eolog/producer/AbortedTransactionEqualsPinLaw -/
def k1 : Class := { plain "com/example/eolog/eolog/producer/AbortedTransactionEqualsPinLaw" (some 0) with
  accessFlags := 49
  interfaces := #[]
  cf := some (fileOf pool1 8 #[] #[{ accessFlags := 1, nameIndex := 5, descriptorIndex := 6, attributes := #[] }, { accessFlags := 10, nameIndex := 11, descriptorIndex := 12, attributes := #[] }, { accessFlags := 9, nameIndex := 31, descriptorIndex := 32, attributes := #[] }] 49 2 #[] #[])
  fields := #[]
  methods := #[k1m0, k1m1, k1m2]
  instanceTypes := #[]
  staticTypes := #[]
  resolved := Array.replicate 35 none
  statics := none }

def pool2 : Array CpInfo := pool [(1, .methodref 2 3), (0, .class_ 4), (0, .nameAndType 5 6), (0, u "java/lang/Object"), (0, u "<init>"), (0, u "()V"), (0, .fieldref 8 9), (0, .class_ 10), (0, .nameAndType 11 12), (0, u "com/example/eolog/eolog/producer/AbortedTransaction"), (0, u "producerId"), (0, u "J"), (0, .fieldref 8 14), (0, .nameAndType 15 12), (0, u "firstOffset"), (0, .fieldref 8 17), (0, .nameAndType 18 12), (0, u "lastOffset"), (0, .fieldref 8 20), (0, .nameAndType 21 12), (0, u "lastStableOffset"), (10, u "(JJJJ)V"), (3, u "equals"), (0, u "(Ljava/lang/Object;)Z")] 21

def k2c0 : Code := { maxStack := 3, maxLocals := 9, code := prog_83_method_1_code, exceptionTable := #[], attributes := #[] }
def k2m0 : Method := { name := "<init>", desc := "(JJJJ)V", sig := { parameters := [.long, .long, .long, .long], returnType := none }, accessFlags := 1, code := some k2c0 }
def k2c1 : Code := { maxStack := 4, maxLocals := 3, code := prog_83_method_6_code, exceptionTable := #[], attributes := #[] }
def k2m1 : Method := { name := "equals", desc := "(Ljava/lang/Object;)Z", sig := { parameters := [(.object "java/lang/Object")], returnType := some .boolean }, accessFlags := 1, code := some k2c1 }
/-- com/example/eolog/eolog/producer/AbortedTransaction -/
def k2 : Class := { plain "com/example/eolog/eolog/producer/AbortedTransaction" (some 0) with
  accessFlags := 49
  interfaces := #[]
  cf := some (fileOf pool2 8 #[] #[{ accessFlags := 1, nameIndex := 5, descriptorIndex := 32, attributes := #[] }, { accessFlags := 1, nameIndex := 36, descriptorIndex := 37, attributes := #[] }] 49 2 #[] #[{ accessFlags := 18, nameIndex := 11, descriptorIndex := 12, attributes := #[] }, { accessFlags := 18, nameIndex := 15, descriptorIndex := 12, attributes := #[] }, { accessFlags := 18, nameIndex := 18, descriptorIndex := 12, attributes := #[] }, { accessFlags := 18, nameIndex := 21, descriptorIndex := 12, attributes := #[] }])
  fields := #[{ name := "producerId", type := .long, accessFlags := 18, slot := 0, constantValue := 0 }, { name := "firstOffset", type := .long, accessFlags := 18, slot := 1, constantValue := 0 }, { name := "lastOffset", type := .long, accessFlags := 18, slot := 2, constantValue := 0 }, { name := "lastStableOffset", type := .long, accessFlags := 18, slot := 3, constantValue := 0 }]
  methods := #[k2m0, k2m1]
  instanceTypes := #[.long, .long, .long, .long]
  staticTypes := #[]
  resolved := Array.replicate 59 none
  statics := none }

def pool3 : Array CpInfo := pool [(1, .class_ 2), (0, u "java/io/Serializable"), (0, .class_ 4), (0, u "java/lang/Object")] 2

/-- java/io/Serializable -/
def k3 : Class := { plain "java/io/Serializable" (some 0) with
  accessFlags := 1537
  interfaces := #[]
  cf := some (fileOf pool3 1 #[] #[] 1537 3 #[] #[])
  fields := #[]
  methods := #[]
  instanceTypes := #[]
  staticTypes := #[]
  resolved := Array.replicate 7 none
  statics := none }

def pool4 : Array CpInfo := pool [(1, .methodref 2 3), (0, .class_ 4), (0, .nameAndType 5 6), (0, u "java/lang/Object"), (0, u "<init>"), (0, u "()V"), (1, .class_ 10), (1, u "java/lang/Number"), (2, .class_ 14), (0, u "java/io/Serializable"), (0, u "serialVersionUID"), (0, u "J")] 20

def k4c0 : Code := { maxStack := 1, maxLocals := 1, code := jdk_18_method_1_code, exceptionTable := #[], attributes := #[] }
def k4m0 : Method := { name := "<init>", desc := "()V", sig := { parameters := [], returnType := none }, accessFlags := 1, code := some k4c0 }
/-- java/lang/Number -/
def k4 : Class := { plain "java/lang/Number" (some 0) with
  accessFlags := 1057
  interfaces := #[3]
  cf := some (fileOf pool4 8 #[] #[{ accessFlags := 1, nameIndex := 5, descriptorIndex := 6, attributes := #[] }] 1057 2 #[13] #[{ accessFlags := 26, nameIndex := 15, descriptorIndex := 16, attributes := #[] }])
  fields := #[{ name := "serialVersionUID", type := .long, accessFlags := 26, slot := 0, constantValue := 0 }]
  methods := #[k4m0]
  instanceTypes := #[]
  staticTypes := #[.long]
  resolved := Array.replicate 37 none
  statics := none }

def pool5 : Array CpInfo := pool [(1, .class_ 2), (0, u "java/lang/Comparable"), (0, .class_ 4), (0, u "java/lang/Object")] 7

/-- java/lang/Comparable -/
def k5 : Class := { plain "java/lang/Comparable" (some 0) with
  accessFlags := 1537
  interfaces := #[]
  cf := some (fileOf pool5 1 #[] #[] 1537 3 #[] #[])
  fields := #[]
  methods := #[]
  instanceTypes := #[]
  staticTypes := #[]
  resolved := Array.replicate 12 none
  statics := none }

def pool6 : Array CpInfo := pool [(1, .class_ 2), (0, u "java/lang/constant/Constable"), (0, .class_ 4), (0, u "java/lang/Object")] 6

/-- java/lang/constant/Constable -/
def k6 : Class := { plain "java/lang/constant/Constable" (some 0) with
  accessFlags := 1537
  interfaces := #[]
  cf := some (fileOf pool6 1 #[] #[] 1537 3 #[] #[])
  fields := #[]
  methods := #[]
  instanceTypes := #[]
  staticTypes := #[]
  resolved := Array.replicate 11 none
  statics := none }

def pool7 : Array CpInfo := pool [(1, .class_ 2), (0, u "java/lang/constant/ConstantDesc"), (0, .class_ 4), (0, u "java/lang/Object")] 32

/-- java/lang/constant/ConstantDesc -/
def k7 : Class := { plain "java/lang/constant/ConstantDesc" (some 0) with
  accessFlags := 1537
  interfaces := #[]
  cf := some (fileOf pool7 1 #[] #[] 1537 3 #[] #[])
  fields := #[]
  methods := #[]
  instanceTypes := #[]
  staticTypes := #[]
  resolved := Array.replicate 37 none
  statics := none }

def pool8 : Array CpInfo := pool [(1, .class_ 2), (0, u "java/lang/Long"), (55, .nameAndType 59 60), (0, u "<init>"), (0, u "()V"), (24, u "valueOf"), (143, u "(J)Ljava/lang/Long;"), (0, .long 18446744073709551488), (1, .long 127), (1, .fieldref 235 236), (0, .class_ 237), (0, .nameAndType 238 239), (0, u "java/lang/Long$LongCache"), (0, u "cache"), (0, u "[Ljava/lang/Long;"), (0, .methodref 1 241), (0, .nameAndType 59 242), (0, u "(J)V"), (27, .methodref 271 58), (0, .class_ 272), (0, u "java/lang/Number"), (0, .fieldref 1 274), (0, .nameAndType 275 276), (0, u "value"), (0, u "J"), (84, u "TYPE"), (0, u "Ljava/lang/Class;"), (0, .class_ 364), (0, u "java/lang/Comparable"), (0, .class_ 366), (0, u "java/lang/constant/Constable"), (0, .class_ 368), (0, u "java/lang/constant/ConstantDesc"), (0, u "MIN_VALUE"), (1, u "MAX_VALUE"), (4, u "SIZE"), (0, u "I"), (1, u "BYTES"), (1, u "serialVersionUID")] 142

def k8c0 : Code := { maxStack := 4, maxLocals := 3, code := jdk_35_method_24_code, exceptionTable := #[], attributes := #[] }
def k8m0 : Method := { name := "valueOf", desc := "(J)Ljava/lang/Long;", sig := { parameters := [.long], returnType := some (.object "java/lang/Long") }, accessFlags := 9, code := some k8c0 }
def k8c1 : Code := { maxStack := 3, maxLocals := 3, code := jdk_35_method_26_code, exceptionTable := #[], attributes := #[] }
def k8m1 : Method := { name := "<init>", desc := "(J)V", sig := { parameters := [.long], returnType := none }, accessFlags := 1, code := some k8c1 }
/-- java/lang/Long -/
def k8 : Class := { plain "java/lang/Long" (some 4) with
  accessFlags := 49
  interfaces := #[5, 6, 7]
  cf := some (fileOf pool8 1 #[.nestMembers #[235]] #[{ accessFlags := 9, nameIndex := 85, descriptorIndex := 229, attributes := #[] }, { accessFlags := 1, nameIndex := 59, descriptorIndex := 242, attributes := #[] }] 49 271 #[363, 365, 367] #[{ accessFlags := 25, nameIndex := 369, descriptorIndex := 276, attributes := #[] }, { accessFlags := 25, nameIndex := 371, descriptorIndex := 276, attributes := #[] }, { accessFlags := 25, nameIndex := 361, descriptorIndex := 362, attributes := #[] }, { accessFlags := 18, nameIndex := 275, descriptorIndex := 276, attributes := #[] }, { accessFlags := 25, nameIndex := 376, descriptorIndex := 377, attributes := #[] }, { accessFlags := 25, nameIndex := 379, descriptorIndex := 377, attributes := #[] }, { accessFlags := 26, nameIndex := 381, descriptorIndex := 276, attributes := #[] }])
  fields := #[{ name := "MIN_VALUE", type := .long, accessFlags := 25, slot := 0, constantValue := 0 }, { name := "MAX_VALUE", type := .long, accessFlags := 25, slot := 1, constantValue := 0 }, { name := "TYPE", type := (.object "java/lang/Class"), accessFlags := 25, slot := 2, constantValue := 0 }, { name := "value", type := .long, accessFlags := 18, slot := 0, constantValue := 0 }, { name := "SIZE", type := .int, accessFlags := 25, slot := 3, constantValue := 0 }, { name := "BYTES", type := .int, accessFlags := 25, slot := 4, constantValue := 0 }, { name := "serialVersionUID", type := .long, accessFlags := 26, slot := 5, constantValue := 0 }]
  methods := #[k8m0, k8m1]
  instanceTypes := #[.long]
  staticTypes := #[.long, .long, (.object "java/lang/Class"), .int, .int, .long]
  resolved := Array.replicate 524 none
  statics := none }

def pool9 : Array CpInfo := pool [(2, .class_ 4), (1, u "java/lang/Object"), (0, u "<init>"), (0, u "()V"), (0, .class_ 8), (0, u "java/lang/Long"), (7, .class_ 18), (1, u "java/lang/Long$LongCache"), (0, u "$assertionsDisabled"), (0, u "Z"), (8, u "archivedCache"), (0, u "[Ljava/lang/Long;"), (7, u "cache")] 24

def k9m0 : Method := { name := "<init>", desc := "()V", sig := { parameters := [], returnType := none }, accessFlags := 2, code := none }
/-- java/lang/Long$LongCache -/
def k9 : Class := { plain "java/lang/Long$LongCache" (some 0) with
  accessFlags := 48
  interfaces := #[]
  cf := some (fileOf pool9 16 #[.nestHost 7] #[{ accessFlags := 2, nameIndex := 5, descriptorIndex := 6, attributes := #[] }] 48 2 #[] #[{ accessFlags := 24, nameIndex := 38, descriptorIndex := 30, attributes := #[] }, { accessFlags := 8, nameIndex := 29, descriptorIndex := 30, attributes := #[] }, { accessFlags := 4120, nameIndex := 19, descriptorIndex := 20, attributes := #[] }])
  fields := #[{ name := "cache", type := (.array (.object "java/lang/Long")), accessFlags := 24, slot := 0, constantValue := 0 }, { name := "archivedCache", type := (.array (.object "java/lang/Long")), accessFlags := 8, slot := 1, constantValue := 0 }, { name := "$assertionsDisabled", type := .boolean, accessFlags := 4120, slot := 2, constantValue := 0 }]
  methods := #[k9m0]
  instanceTypes := #[]
  staticTypes := #[(.array (.object "java/lang/Long")), (.array (.object "java/lang/Long")), .boolean]
  resolved := Array.replicate 63 none
  statics := some 0 }

def pool10 : Array CpInfo := pool [(1, u "java/lang/Cloneable"), (0, .class_ 1), (0, u "java/lang/Object"), (0, .class_ 3)] 3

/-- java/lang/Cloneable -/
def k10 : Class := { plain "java/lang/Cloneable" (some 0) with
  accessFlags := 1537
  interfaces := #[]
  cf := some (fileOf pool10 2 #[] #[] 1537 4 #[] #[])
  fields := #[]
  methods := #[]
  instanceTypes := #[]
  staticTypes := #[]
  resolved := Array.replicate 8 none
  statics := none }

/-- the primitive byte -/
def k11 : Class := { plain "byte" none with kind := .primitive 'B', accessFlags := 0x411 }
/-- [B -/
def k12 : Class := { plain "[B" (some 0) with kind := .array 11 .byte, interfaces := #[10, 3], accessFlags := 1041 }

/-- the primitive int -/
def k13 : Class := { plain "int" none with kind := .primitive 'I', accessFlags := 0x411 }
/-- [I -/
def k14 : Class := { plain "[I" (some 0) with kind := .array 13 .int, interfaces := #[10, 3], accessFlags := 1041 }

/-- [Ljava/lang/Long; -/
def k15 : Class := { plain "[Ljava/lang/Long;" (some 0) with kind := .array 8 (.object "java/lang/Long"), interfaces := #[10, 3], accessFlags := 1041 }

def heap : Heap := #[{ cls := 9, slots := #[.ref 1, .null, .int 0], vm := .statics 9 },
  { cls := 15, slots := #[.ref 2, .ref 3, .ref 4, .ref 5, .ref 6, .ref 7, .ref 8, .ref 9, .ref 10, .ref 11, .ref 12, .ref 13, .ref 14, .ref 15, .ref 16, .ref 17, .ref 18, .ref 19, .ref 20, .ref 21, .ref 22, .ref 23, .ref 24, .ref 25, .ref 26, .ref 27, .ref 28, .ref 29, .ref 30, .ref 31, .ref 32, .ref 33, .ref 34, .ref 35, .ref 36, .ref 37, .ref 38, .ref 39, .ref 40, .ref 41, .ref 42, .ref 43, .ref 44, .ref 45, .ref 46, .ref 47, .ref 48, .ref 49, .ref 50, .ref 51, .ref 52, .ref 53, .ref 54, .ref 55, .ref 56, .ref 57, .ref 58, .ref 59, .ref 60, .ref 61, .ref 62, .ref 63, .ref 64, .ref 65, .ref 66, .ref 67, .ref 68, .ref 69, .ref 70, .ref 71, .ref 72, .ref 73, .ref 74, .ref 75, .ref 76, .ref 77, .ref 78, .ref 79, .ref 80, .ref 81, .ref 82, .ref 83, .ref 84, .ref 85, .ref 86, .ref 87, .ref 88, .ref 89, .ref 90, .ref 91, .ref 92, .ref 93, .ref 94, .ref 95, .ref 96, .ref 97, .ref 98, .ref 99, .ref 100, .ref 101, .ref 102, .ref 103, .ref 104, .ref 105, .ref 106, .ref 107, .ref 108, .ref 109, .ref 110, .ref 111, .ref 112, .ref 113, .ref 114, .ref 115, .ref 116, .ref 117, .ref 118, .ref 119, .ref 120, .ref 121, .ref 122, .ref 123, .ref 124, .ref 125, .ref 126, .ref 127, .ref 128, .ref 129, .ref 130, .ref 131, .ref 132, .ref 133, .ref 134, .ref 135, .ref 136, .ref 137, .ref 138, .ref 139, .ref 140, .ref 141, .ref 142, .ref 143, .ref 144, .ref 145, .ref 146, .ref 147, .ref 148, .ref 149, .ref 150, .ref 151, .ref 152, .ref 153, .ref 154, .ref 155, .ref 156, .ref 157, .ref 158, .ref 159, .ref 160, .ref 161, .ref 162, .ref 163, .ref 164, .ref 165, .ref 166, .ref 167, .ref 168, .ref 169, .ref 170, .ref 171, .ref 172, .ref 173, .ref 174, .ref 175, .ref 176, .ref 177, .ref 178, .ref 179, .ref 180, .ref 181, .ref 182, .ref 183, .ref 184, .ref 185, .ref 186, .ref 187, .ref 188, .ref 189, .ref 190, .ref 191, .ref 192, .ref 193, .ref 194, .ref 195, .ref 196, .ref 197, .ref 198, .ref 199, .ref 200, .ref 201, .ref 202, .ref 203, .ref 204, .ref 205, .ref 206, .ref 207, .ref 208, .ref 209, .ref 210, .ref 211, .ref 212, .ref 213, .ref 214, .ref 215, .ref 216, .ref 217, .ref 218, .ref 219, .ref 220, .ref 221, .ref 222, .ref 223, .ref 224, .ref 225, .ref 226, .ref 227, .ref 228, .ref 229, .ref 230, .ref 231, .ref 232, .ref 233, .ref 234, .ref 235, .ref 236, .ref 237, .ref 238, .ref 239, .ref 240, .ref 241, .ref 242, .ref 243, .ref 244, .ref 245, .ref 246, .ref 247, .ref 248, .ref 249, .ref 250, .ref 251, .ref 252, .ref 253, .ref 254, .ref 255, .ref 256, .ref 257], vm := .none },
  { cls := 8, slots := #[.long (-128)], vm := .none },
  { cls := 8, slots := #[.long (-127)], vm := .none },
  { cls := 8, slots := #[.long (-126)], vm := .none },
  { cls := 8, slots := #[.long (-125)], vm := .none },
  { cls := 8, slots := #[.long (-124)], vm := .none },
  { cls := 8, slots := #[.long (-123)], vm := .none },
  { cls := 8, slots := #[.long (-122)], vm := .none },
  { cls := 8, slots := #[.long (-121)], vm := .none },
  { cls := 8, slots := #[.long (-120)], vm := .none },
  { cls := 8, slots := #[.long (-119)], vm := .none },
  { cls := 8, slots := #[.long (-118)], vm := .none },
  { cls := 8, slots := #[.long (-117)], vm := .none },
  { cls := 8, slots := #[.long (-116)], vm := .none },
  { cls := 8, slots := #[.long (-115)], vm := .none },
  { cls := 8, slots := #[.long (-114)], vm := .none },
  { cls := 8, slots := #[.long (-113)], vm := .none },
  { cls := 8, slots := #[.long (-112)], vm := .none },
  { cls := 8, slots := #[.long (-111)], vm := .none },
  { cls := 8, slots := #[.long (-110)], vm := .none },
  { cls := 8, slots := #[.long (-109)], vm := .none },
  { cls := 8, slots := #[.long (-108)], vm := .none },
  { cls := 8, slots := #[.long (-107)], vm := .none },
  { cls := 8, slots := #[.long (-106)], vm := .none },
  { cls := 8, slots := #[.long (-105)], vm := .none },
  { cls := 8, slots := #[.long (-104)], vm := .none },
  { cls := 8, slots := #[.long (-103)], vm := .none },
  { cls := 8, slots := #[.long (-102)], vm := .none },
  { cls := 8, slots := #[.long (-101)], vm := .none },
  { cls := 8, slots := #[.long (-100)], vm := .none },
  { cls := 8, slots := #[.long (-99)], vm := .none },
  { cls := 8, slots := #[.long (-98)], vm := .none },
  { cls := 8, slots := #[.long (-97)], vm := .none },
  { cls := 8, slots := #[.long (-96)], vm := .none },
  { cls := 8, slots := #[.long (-95)], vm := .none },
  { cls := 8, slots := #[.long (-94)], vm := .none },
  { cls := 8, slots := #[.long (-93)], vm := .none },
  { cls := 8, slots := #[.long (-92)], vm := .none },
  { cls := 8, slots := #[.long (-91)], vm := .none },
  { cls := 8, slots := #[.long (-90)], vm := .none },
  { cls := 8, slots := #[.long (-89)], vm := .none },
  { cls := 8, slots := #[.long (-88)], vm := .none },
  { cls := 8, slots := #[.long (-87)], vm := .none },
  { cls := 8, slots := #[.long (-86)], vm := .none },
  { cls := 8, slots := #[.long (-85)], vm := .none },
  { cls := 8, slots := #[.long (-84)], vm := .none },
  { cls := 8, slots := #[.long (-83)], vm := .none },
  { cls := 8, slots := #[.long (-82)], vm := .none },
  { cls := 8, slots := #[.long (-81)], vm := .none },
  { cls := 8, slots := #[.long (-80)], vm := .none },
  { cls := 8, slots := #[.long (-79)], vm := .none },
  { cls := 8, slots := #[.long (-78)], vm := .none },
  { cls := 8, slots := #[.long (-77)], vm := .none },
  { cls := 8, slots := #[.long (-76)], vm := .none },
  { cls := 8, slots := #[.long (-75)], vm := .none },
  { cls := 8, slots := #[.long (-74)], vm := .none },
  { cls := 8, slots := #[.long (-73)], vm := .none },
  { cls := 8, slots := #[.long (-72)], vm := .none },
  { cls := 8, slots := #[.long (-71)], vm := .none },
  { cls := 8, slots := #[.long (-70)], vm := .none },
  { cls := 8, slots := #[.long (-69)], vm := .none },
  { cls := 8, slots := #[.long (-68)], vm := .none },
  { cls := 8, slots := #[.long (-67)], vm := .none },
  { cls := 8, slots := #[.long (-66)], vm := .none },
  { cls := 8, slots := #[.long (-65)], vm := .none },
  { cls := 8, slots := #[.long (-64)], vm := .none },
  { cls := 8, slots := #[.long (-63)], vm := .none },
  { cls := 8, slots := #[.long (-62)], vm := .none },
  { cls := 8, slots := #[.long (-61)], vm := .none },
  { cls := 8, slots := #[.long (-60)], vm := .none },
  { cls := 8, slots := #[.long (-59)], vm := .none },
  { cls := 8, slots := #[.long (-58)], vm := .none },
  { cls := 8, slots := #[.long (-57)], vm := .none },
  { cls := 8, slots := #[.long (-56)], vm := .none },
  { cls := 8, slots := #[.long (-55)], vm := .none },
  { cls := 8, slots := #[.long (-54)], vm := .none },
  { cls := 8, slots := #[.long (-53)], vm := .none },
  { cls := 8, slots := #[.long (-52)], vm := .none },
  { cls := 8, slots := #[.long (-51)], vm := .none },
  { cls := 8, slots := #[.long (-50)], vm := .none },
  { cls := 8, slots := #[.long (-49)], vm := .none },
  { cls := 8, slots := #[.long (-48)], vm := .none },
  { cls := 8, slots := #[.long (-47)], vm := .none },
  { cls := 8, slots := #[.long (-46)], vm := .none },
  { cls := 8, slots := #[.long (-45)], vm := .none },
  { cls := 8, slots := #[.long (-44)], vm := .none },
  { cls := 8, slots := #[.long (-43)], vm := .none },
  { cls := 8, slots := #[.long (-42)], vm := .none },
  { cls := 8, slots := #[.long (-41)], vm := .none },
  { cls := 8, slots := #[.long (-40)], vm := .none },
  { cls := 8, slots := #[.long (-39)], vm := .none },
  { cls := 8, slots := #[.long (-38)], vm := .none },
  { cls := 8, slots := #[.long (-37)], vm := .none },
  { cls := 8, slots := #[.long (-36)], vm := .none },
  { cls := 8, slots := #[.long (-35)], vm := .none },
  { cls := 8, slots := #[.long (-34)], vm := .none },
  { cls := 8, slots := #[.long (-33)], vm := .none },
  { cls := 8, slots := #[.long (-32)], vm := .none },
  { cls := 8, slots := #[.long (-31)], vm := .none },
  { cls := 8, slots := #[.long (-30)], vm := .none },
  { cls := 8, slots := #[.long (-29)], vm := .none },
  { cls := 8, slots := #[.long (-28)], vm := .none },
  { cls := 8, slots := #[.long (-27)], vm := .none },
  { cls := 8, slots := #[.long (-26)], vm := .none },
  { cls := 8, slots := #[.long (-25)], vm := .none },
  { cls := 8, slots := #[.long (-24)], vm := .none },
  { cls := 8, slots := #[.long (-23)], vm := .none },
  { cls := 8, slots := #[.long (-22)], vm := .none },
  { cls := 8, slots := #[.long (-21)], vm := .none },
  { cls := 8, slots := #[.long (-20)], vm := .none },
  { cls := 8, slots := #[.long (-19)], vm := .none },
  { cls := 8, slots := #[.long (-18)], vm := .none },
  { cls := 8, slots := #[.long (-17)], vm := .none },
  { cls := 8, slots := #[.long (-16)], vm := .none },
  { cls := 8, slots := #[.long (-15)], vm := .none },
  { cls := 8, slots := #[.long (-14)], vm := .none },
  { cls := 8, slots := #[.long (-13)], vm := .none },
  { cls := 8, slots := #[.long (-12)], vm := .none },
  { cls := 8, slots := #[.long (-11)], vm := .none },
  { cls := 8, slots := #[.long (-10)], vm := .none },
  { cls := 8, slots := #[.long (-9)], vm := .none },
  { cls := 8, slots := #[.long (-8)], vm := .none },
  { cls := 8, slots := #[.long (-7)], vm := .none },
  { cls := 8, slots := #[.long (-6)], vm := .none },
  { cls := 8, slots := #[.long (-5)], vm := .none },
  { cls := 8, slots := #[.long (-4)], vm := .none },
  { cls := 8, slots := #[.long (-3)], vm := .none },
  { cls := 8, slots := #[.long (-2)], vm := .none },
  { cls := 8, slots := #[.long (-1)], vm := .none },
  { cls := 8, slots := #[.long (0)], vm := .none },
  { cls := 8, slots := #[.long (1)], vm := .none },
  { cls := 8, slots := #[.long (2)], vm := .none },
  { cls := 8, slots := #[.long (3)], vm := .none },
  { cls := 8, slots := #[.long (4)], vm := .none },
  { cls := 8, slots := #[.long (5)], vm := .none },
  { cls := 8, slots := #[.long (6)], vm := .none },
  { cls := 8, slots := #[.long (7)], vm := .none },
  { cls := 8, slots := #[.long (8)], vm := .none },
  { cls := 8, slots := #[.long (9)], vm := .none },
  { cls := 8, slots := #[.long (10)], vm := .none },
  { cls := 8, slots := #[.long (11)], vm := .none },
  { cls := 8, slots := #[.long (12)], vm := .none },
  { cls := 8, slots := #[.long (13)], vm := .none },
  { cls := 8, slots := #[.long (14)], vm := .none },
  { cls := 8, slots := #[.long (15)], vm := .none },
  { cls := 8, slots := #[.long (16)], vm := .none },
  { cls := 8, slots := #[.long (17)], vm := .none },
  { cls := 8, slots := #[.long (18)], vm := .none },
  { cls := 8, slots := #[.long (19)], vm := .none },
  { cls := 8, slots := #[.long (20)], vm := .none },
  { cls := 8, slots := #[.long (21)], vm := .none },
  { cls := 8, slots := #[.long (22)], vm := .none },
  { cls := 8, slots := #[.long (23)], vm := .none },
  { cls := 8, slots := #[.long (24)], vm := .none },
  { cls := 8, slots := #[.long (25)], vm := .none },
  { cls := 8, slots := #[.long (26)], vm := .none },
  { cls := 8, slots := #[.long (27)], vm := .none },
  { cls := 8, slots := #[.long (28)], vm := .none },
  { cls := 8, slots := #[.long (29)], vm := .none },
  { cls := 8, slots := #[.long (30)], vm := .none },
  { cls := 8, slots := #[.long (31)], vm := .none },
  { cls := 8, slots := #[.long (32)], vm := .none },
  { cls := 8, slots := #[.long (33)], vm := .none },
  { cls := 8, slots := #[.long (34)], vm := .none },
  { cls := 8, slots := #[.long (35)], vm := .none },
  { cls := 8, slots := #[.long (36)], vm := .none },
  { cls := 8, slots := #[.long (37)], vm := .none },
  { cls := 8, slots := #[.long (38)], vm := .none },
  { cls := 8, slots := #[.long (39)], vm := .none },
  { cls := 8, slots := #[.long (40)], vm := .none },
  { cls := 8, slots := #[.long (41)], vm := .none },
  { cls := 8, slots := #[.long (42)], vm := .none },
  { cls := 8, slots := #[.long (43)], vm := .none },
  { cls := 8, slots := #[.long (44)], vm := .none },
  { cls := 8, slots := #[.long (45)], vm := .none },
  { cls := 8, slots := #[.long (46)], vm := .none },
  { cls := 8, slots := #[.long (47)], vm := .none },
  { cls := 8, slots := #[.long (48)], vm := .none },
  { cls := 8, slots := #[.long (49)], vm := .none },
  { cls := 8, slots := #[.long (50)], vm := .none },
  { cls := 8, slots := #[.long (51)], vm := .none },
  { cls := 8, slots := #[.long (52)], vm := .none },
  { cls := 8, slots := #[.long (53)], vm := .none },
  { cls := 8, slots := #[.long (54)], vm := .none },
  { cls := 8, slots := #[.long (55)], vm := .none },
  { cls := 8, slots := #[.long (56)], vm := .none },
  { cls := 8, slots := #[.long (57)], vm := .none },
  { cls := 8, slots := #[.long (58)], vm := .none },
  { cls := 8, slots := #[.long (59)], vm := .none },
  { cls := 8, slots := #[.long (60)], vm := .none },
  { cls := 8, slots := #[.long (61)], vm := .none },
  { cls := 8, slots := #[.long (62)], vm := .none },
  { cls := 8, slots := #[.long (63)], vm := .none },
  { cls := 8, slots := #[.long (64)], vm := .none },
  { cls := 8, slots := #[.long (65)], vm := .none },
  { cls := 8, slots := #[.long (66)], vm := .none },
  { cls := 8, slots := #[.long (67)], vm := .none },
  { cls := 8, slots := #[.long (68)], vm := .none },
  { cls := 8, slots := #[.long (69)], vm := .none },
  { cls := 8, slots := #[.long (70)], vm := .none },
  { cls := 8, slots := #[.long (71)], vm := .none },
  { cls := 8, slots := #[.long (72)], vm := .none },
  { cls := 8, slots := #[.long (73)], vm := .none },
  { cls := 8, slots := #[.long (74)], vm := .none },
  { cls := 8, slots := #[.long (75)], vm := .none },
  { cls := 8, slots := #[.long (76)], vm := .none },
  { cls := 8, slots := #[.long (77)], vm := .none },
  { cls := 8, slots := #[.long (78)], vm := .none },
  { cls := 8, slots := #[.long (79)], vm := .none },
  { cls := 8, slots := #[.long (80)], vm := .none },
  { cls := 8, slots := #[.long (81)], vm := .none },
  { cls := 8, slots := #[.long (82)], vm := .none },
  { cls := 8, slots := #[.long (83)], vm := .none },
  { cls := 8, slots := #[.long (84)], vm := .none },
  { cls := 8, slots := #[.long (85)], vm := .none },
  { cls := 8, slots := #[.long (86)], vm := .none },
  { cls := 8, slots := #[.long (87)], vm := .none },
  { cls := 8, slots := #[.long (88)], vm := .none },
  { cls := 8, slots := #[.long (89)], vm := .none },
  { cls := 8, slots := #[.long (90)], vm := .none },
  { cls := 8, slots := #[.long (91)], vm := .none },
  { cls := 8, slots := #[.long (92)], vm := .none },
  { cls := 8, slots := #[.long (93)], vm := .none },
  { cls := 8, slots := #[.long (94)], vm := .none },
  { cls := 8, slots := #[.long (95)], vm := .none },
  { cls := 8, slots := #[.long (96)], vm := .none },
  { cls := 8, slots := #[.long (97)], vm := .none },
  { cls := 8, slots := #[.long (98)], vm := .none },
  { cls := 8, slots := #[.long (99)], vm := .none },
  { cls := 8, slots := #[.long (100)], vm := .none },
  { cls := 8, slots := #[.long (101)], vm := .none },
  { cls := 8, slots := #[.long (102)], vm := .none },
  { cls := 8, slots := #[.long (103)], vm := .none },
  { cls := 8, slots := #[.long (104)], vm := .none },
  { cls := 8, slots := #[.long (105)], vm := .none },
  { cls := 8, slots := #[.long (106)], vm := .none },
  { cls := 8, slots := #[.long (107)], vm := .none },
  { cls := 8, slots := #[.long (108)], vm := .none },
  { cls := 8, slots := #[.long (109)], vm := .none },
  { cls := 8, slots := #[.long (110)], vm := .none },
  { cls := 8, slots := #[.long (111)], vm := .none },
  { cls := 8, slots := #[.long (112)], vm := .none },
  { cls := 8, slots := #[.long (113)], vm := .none },
  { cls := 8, slots := #[.long (114)], vm := .none },
  { cls := 8, slots := #[.long (115)], vm := .none },
  { cls := 8, slots := #[.long (116)], vm := .none },
  { cls := 8, slots := #[.long (117)], vm := .none },
  { cls := 8, slots := #[.long (118)], vm := .none },
  { cls := 8, slots := #[.long (119)], vm := .none },
  { cls := 8, slots := #[.long (120)], vm := .none },
  { cls := 8, slots := #[.long (121)], vm := .none },
  { cls := 8, slots := #[.long (122)], vm := .none },
  { cls := 8, slots := #[.long (123)], vm := .none },
  { cls := 8, slots := #[.long (124)], vm := .none },
  { cls := 8, slots := #[.long (125)], vm := .none },
  { cls := 8, slots := #[.long (126)], vm := .none },
  { cls := 8, slots := #[.long (127)], vm := .none }]
def classes : Array Class := #[k0, k1, k2, k3, k4, k5, k6, k7, k8, k9, k10, k11, k12, k13, k14, k15]
def interned : List (Array UInt16 × Addr) := []
def slotsUsed : Nat := 515
def theMethod : MethodId := ⟨1, 2⟩
def args0 : Array Value := #[.long 5, .long 5, .long 5, .long 5, .int 5, .long 5]
def aboutOver (below : List Frame) : State where
  vm := { classes := classes, interned := interned.toArray }
  heap := heap
  slotsUsed := slotsUsed
  threads := #[{ frames := .invoking theMethod args0 :: below }]
def below0 : List Frame := [.native { method := ⟨0, 0⟩, args := #[] }]
def about1 : State := aboutOver below0
def p0 : Program := .bare "" "" ""
def e0 : Env := launch0.env 0 0 0
theorem w_frames : about1.frames = Frame.invoking theMethod args0 :: below0 := rfl
set_option maxRecDepth 65536 in
theorem w_args : argsFit about1.vm theMethod args0 = true := by decide +kernel
set_option maxRecDepth 65536 in
theorem w_heap : heapFits about1 = true := by decide +kernel
set_option maxRecDepth 65536 in
theorem w_runnable : about1.curStatus? = some .runnable := by decide +kernel
set_option maxRecDepth 65536 in
theorem w_alone : about1.alone = true := by decide +kernel
set_option maxRecDepth 65536 in
theorem w_named : about1.methodNamed? x = some theMethod := by decide +kernel
set_option maxRecDepth 65536 in
theorem w_hears : about1.hears theMethod below0 = true := by decide +kernel
set_option maxRecDepth 65536 in
theorem w_ripe : about1.ripe theMethod args0 below0 = true := by decide +kernel
theorem w_running : about1.status = .running := rfl
set_option maxRecDepth 65536 in
theorem w_room : about1.hasRoom e0.platform room_1 = true :=
  launch0.hasRoom_least _ room_1 (by decide +kernel) (by decide +kernel) (by decide +kernel) (by decide +kernel) (by decide +kernel) (by decide +kernel)
theorem allAtoms_all (ts : List Jvm.Cond) (a : Array Jvm.Value) (st : Jvm.State) : (allAtoms ts).before a st = ts.all (fun c => c.before a st) := by
  induction ts with
  | nil => rfl
  | cons c t ih =>
    show (Jvm.Cond.and c (allAtoms t)).before a st = _
    rw [Jvm.Cond.before_and, ih, List.all_cons]
def words1 : List Jvm.Cond := Jvm.Cond.code x code maxLocals ret :: tables_1
/-- a 'code' word, met by the world's own term for the bytes: nothing is compared byte by byte -/
theorem code_word {y : MethodName} {bytes : ByteArray} {mx : Nat} {rt : Option FieldType} {a : Array Value} {s : State} {m : MethodId} {meth : Method} {c : Code} (h1 : s.methodNamed? y = some m) (h2 : s.vm.method? m = some meth) (h3 : meth.code = some c) (h4 : c.code = bytes)
    (h5 : (c.maxLocals == mx && c.exceptionTable.isEmpty && decide (c.maxStack ≤ mostOperands) && decide (meth.sig.returnType = rt) && !meth.locks && decide (parseMethodDescriptor y.desc = some meth.sig)) = true) : (Jvm.Cond.code y bytes mx rt).before a s = true := by
  simp only [Bool.and_eq_true, beq_iff_eq, Bool.not_eq_true', decide_eq_true_eq] at h5
  obtain ⟨⟨⟨⟨⟨g1, g2⟩, g3⟩, g4⟩, g5⟩, g6⟩ := h5
  simp [Cond.before, Cond.holds, Cond.value, h1, h2, h3, h4, g1, g2, g3, g4, g5, g6]
def isCode : Jvm.Cond → Bool
  | .code _ _ _ _ => true
  | _ => false
theorem all_split {L : List Jvm.Cond} {P : Jvm.Cond → Bool} (h1 : L.all (fun c => isCode c || P c) = true) (h2 : ∀ c ∈ L.filter isCode, P c = true) : L.all P = true := by
  refine List.all_eq_true.mpr fun c hc => ?_
  have h := List.all_eq_true.mp h1 c hc
  rcases Bool.eq_false_or_eq_true (isCode c) with hi | hi
  · exact h2 c (List.mem_filter.mpr ⟨hc, hi⟩)
  · simpa [hi] using h
set_option maxRecDepth 65536 in
theorem w_c0 : (Jvm.Cond.code x code maxLocals ret).before args0 about1 = true := code_word (m := ⟨1, 2⟩) (meth := k1m2) (c := k1c2) (by decide +kernel) rfl rfl rfl (by decide +kernel)
set_option maxRecDepth 65536 in
theorem w_c1 : (Jvm.Cond.code ({ cls := "com/example/eolog/eolog/producer/AbortedTransactionEqualsPinLaw", name := "bump", desc := "(JIIJ)J" } : Jvm.MethodName) method_2_code (6 : Nat) (Option.some Jvm.ClassFile.FieldType.long)).before args0 about1 = true := code_word (m := ⟨1, 1⟩) (meth := k1m1) (c := k1c1) (by decide +kernel) rfl rfl rfl (by decide +kernel)
set_option maxRecDepth 65536 in
theorem w_c2 : (Jvm.Cond.code ({ cls := "com/example/eolog/eolog/producer/AbortedTransaction", name := "<init>", desc := "(JJJJ)V" } : Jvm.MethodName) prog_83_method_1_code (9 : Nat) (Option.none : Option Jvm.ClassFile.FieldType)).before args0 about1 = true := code_word (m := ⟨2, 0⟩) (meth := k2m0) (c := k2c0) (by decide +kernel) rfl rfl rfl (by decide +kernel)
set_option maxRecDepth 65536 in
theorem w_c3 : (Jvm.Cond.code ({ cls := "java/lang/Object", name := "<init>", desc := "()V" } : Jvm.MethodName) object_method_1_code (1 : Nat) (Option.none : Option Jvm.ClassFile.FieldType)).before args0 about1 = true := code_word (m := ⟨0, 0⟩) (meth := k0m0) (c := k0c0) (by decide +kernel) rfl rfl rfl (by decide +kernel)
set_option maxRecDepth 65536 in
theorem w_c4 : (Jvm.Cond.code ({ cls := "java/lang/Long", name := "valueOf", desc := "(J)Ljava/lang/Long;" } : Jvm.MethodName) jdk_35_method_24_code (3 : Nat) (Option.some (Jvm.ClassFile.FieldType.object "java/lang/Long"))).before args0 about1 = true := code_word (m := ⟨8, 0⟩) (meth := k8m0) (c := k8c0) (by decide +kernel) rfl rfl rfl (by decide +kernel)
set_option maxRecDepth 65536 in
theorem w_c5 : (Jvm.Cond.code ({ cls := "com/example/eolog/eolog/producer/AbortedTransaction", name := "equals", desc := "(Ljava/lang/Object;)Z" } : Jvm.MethodName) prog_83_method_6_code (3 : Nat) (Option.some Jvm.ClassFile.FieldType.boolean)).before args0 about1 = true := code_word (m := ⟨2, 1⟩) (meth := k2m1) (c := k2c1) (by decide +kernel) rfl rfl rfl (by decide +kernel)
set_option maxRecDepth 65536 in
theorem w_c6 : (Jvm.Cond.code ({ cls := "java/lang/Long", name := "<init>", desc := "(J)V" } : Jvm.MethodName) jdk_35_method_26_code (3 : Nat) (Option.none : Option Jvm.ClassFile.FieldType)).before args0 about1 = true := code_word (m := ⟨8, 1⟩) (meth := k8m1) (c := k8c1) (by decide +kernel) rfl rfl rfl (by decide +kernel)
set_option maxRecDepth 65536 in
theorem w_c7 : (Jvm.Cond.code ({ cls := "java/lang/Number", name := "<init>", desc := "()V" } : Jvm.MethodName) jdk_18_method_1_code (1 : Nat) (Option.none : Option Jvm.ClassFile.FieldType)).before args0 about1 = true := code_word (m := ⟨4, 0⟩) (meth := k4m0) (c := k4c0) (by decide +kernel) rfl rfl rfl (by decide +kernel)
def codes1 : List Jvm.Cond := [Jvm.Cond.code x code maxLocals ret, Jvm.Cond.code ({ cls := "com/example/eolog/eolog/producer/AbortedTransactionEqualsPinLaw", name := "bump", desc := "(JIIJ)J" } : Jvm.MethodName) method_2_code (6 : Nat) (Option.some Jvm.ClassFile.FieldType.long), Jvm.Cond.code ({ cls := "com/example/eolog/eolog/producer/AbortedTransaction", name := "<init>", desc := "(JJJJ)V" } : Jvm.MethodName) prog_83_method_1_code (9 : Nat) (Option.none : Option Jvm.ClassFile.FieldType), Jvm.Cond.code ({ cls := "java/lang/Object", name := "<init>", desc := "()V" } : Jvm.MethodName) object_method_1_code (1 : Nat) (Option.none : Option Jvm.ClassFile.FieldType), Jvm.Cond.code ({ cls := "java/lang/Long", name := "valueOf", desc := "(J)Ljava/lang/Long;" } : Jvm.MethodName) jdk_35_method_24_code (3 : Nat) (Option.some (Jvm.ClassFile.FieldType.object "java/lang/Long")), Jvm.Cond.code ({ cls := "com/example/eolog/eolog/producer/AbortedTransaction", name := "equals", desc := "(Ljava/lang/Object;)Z" } : Jvm.MethodName) prog_83_method_6_code (3 : Nat) (Option.some Jvm.ClassFile.FieldType.boolean), Jvm.Cond.code ({ cls := "java/lang/Long", name := "<init>", desc := "(J)V" } : Jvm.MethodName) jdk_35_method_26_code (3 : Nat) (Option.none : Option Jvm.ClassFile.FieldType), Jvm.Cond.code ({ cls := "java/lang/Number", name := "<init>", desc := "()V" } : Jvm.MethodName) jdk_18_method_1_code (1 : Nat) (Option.none : Option Jvm.ClassFile.FieldType)]
set_option maxRecDepth 65536 in
theorem codes_eq : words1.filter isCode = codes1 := rfl
theorem w_codes : ∀ c ∈ words1.filter isCode, c.before args0 about1 = true := by
  rw [codes_eq]
  intro c hc
  simp only [codes1, List.mem_cons, List.not_mem_nil, or_false] at hc
  rcases hc with rfl | rfl | rfl | rfl | rfl | rfl | rfl | rfl
  · exact w_c0
  · exact w_c1
  · exact w_c2
  · exact w_c3
  · exact w_c4
  · exact w_c5
  · exact w_c6
  · exact w_c7
set_option maxRecDepth 65536 in
theorem w_t1 : (words1.take 24).all (fun c => isCode c || c.before args0 about1) = true := by decide +kernel
set_option maxRecDepth 65536 in
theorem w_t2 : ((words1.drop 24).take 24).all (fun c => isCode c || c.before args0 about1) = true := by decide +kernel
set_option maxRecDepth 65536 in
theorem w_t3 : ((words1.drop 24).drop 24).all (fun c => isCode c || c.before args0 about1) = true := by decide +kernel
theorem w_tables : (allAtoms (Jvm.Cond.code x code maxLocals ret :: tables_1)).before args0 about1 = true := by
  rw [allAtoms_all]
  show words1.all (fun c => c.before args0 about1) = true
  refine all_split ?_ w_codes
  rw [← List.take_append_drop 24 words1, List.all_append, w_t1, ← List.take_append_drop 24 (words1.drop 24), List.all_append, w_t2, w_t3]
  rfl
set_option maxRecDepth 65536 in
theorem w_rest : rest_1_c.before args0 about1 = true := by decide +kernel
set_option maxRecDepth 65536 in
theorem w_case : (Jvm.Cond.and given_1 narrow_1).before args0 about1 = true := by decide +kernel
theorem w_applies : (headSpec (Jvm.Cond.code x code maxLocals ret :: tables_1) room_1).applies x e0.platform about1 = true :=
  (Spec.applies_iff w_frames).mpr ⟨w_running, w_runnable, w_alone, w_named, w_hears, w_ripe, w_room, w_tables⟩
theorem atStart : AtStart classFile x code maxLocals ret World_1 tables_1 room_1 Calls_1 rest_1 Pre_1 launch0 p0 e0 about1 theMethod args0 below0 :=
  ⟨lists_1, trivial, launch0.admits_env _ _ _, launch0.least_env, fairChoices_fair.cas, fairChoices_fair.clock, w_frames, w_args, w_heap, w_applies, trivial, w_rest, w_case⟩
end start1
theorem witness_1 : WitnessClaimed_1 := ⟨start1.p0, start1.e0, start1.about1, start1.theMethod, start1.args0, start1.below0, start1.atStart⟩
end Jvm.Pilot.@@N@@
