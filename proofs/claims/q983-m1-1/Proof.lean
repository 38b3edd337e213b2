import JvmDerived
import JvmDerived.Pilot.@@N@@Statement
import JvmDerived.Pilot.@@N@@Code
set_option linter.unusedVariables false
set_option linter.unusedSimpArgs false
@@BLOCK:Masks.lean.txt@@
@@BLOCK:NumsL.lean.txt@@
namespace Jvm.Pilot.@@N@@
open Jvm Jvm.ClassFile Sem Op Lib Jvm.Free Jvm.Stand Jvm.LawKit Jvm.RoadKit Bundle Jvm.Pilot.@@N@@.Jvm.D
section Own
variable {p : Program} {l : Launch} {e : Env} {R : Room} {s : State} {m : MethodId} {args : Array Value} {below : List Frame} {meth : Method} {c : Code} {T : State} {locs : List Loc} {cells slots : Nat} {Z : State} {h h' : Heap}
/-- the run goes on from S to a state of which F holds -/
def Goes (tb : Tables) (e : Env) (below : List Frame) (F : State → Prop) (S : State) : Prop := ∃ t, Steps tb e below S t ∧ F t
theorem Goes.via {tb : Tables} {F : State → Prop} {S S' : State} (q : ∀ t, Steps tb e below S' t → Steps tb e below S t) (g : Goes tb e below F S') : Goes tb e below F S := by
  obtain ⟨t, a, b⟩ := g
  exact ⟨t, q t a, b⟩
/-- what a body leaves -/
def Fin (s : State) (below : List Frame) (Q : Option Value → Heap → List Loc → Prop) (C S : Nat) (t : State) : Prop := ∃ o, t.status = .running ∧ Ended t below o ∧ ∃ v L, o = .returned v ∧ Q v t.heap L ∧ FrameEnd s o t L C S
theorem own_start {tb : Tables} {Q : Option Value → Heap → List Loc → Prop} {C S : Nat} {S0 : State} (g : Goes tb e below (Fin s below Q C S) S0) : ∃ s₂ o, Steps tb e below S0 s₂ ∧ s₂.status = .running ∧ Ended s₂ below o ∧ ∃ v L, o = .returned v ∧ Q v s₂.heap L ∧ FrameEnd s o s₂ L C S := by
  obtain ⟨t, a, o, b, d, r⟩ := g
  exact ⟨t, o, a, b, d, r⟩
theorem own_ret (X : Stand p l e R s m args below meth c T locs cells slots) (hx : p.tables.exec = Jvm.exec) {pc : Nat} {Ls : Array Slot} {w : Value} {t : FieldType} {i : Instr} {rest : List Value} (hlk : meth.locks = false) (hret : meth.sig.returnType = some t) (hn : narrow t w = w)
    (hi : (i = .ireturn ∧ (t = .int ∨ t = .boolean ∨ t = .byte ∨ t = .char ∨ t = .short) ∧ ∃ z, w = .int z) ∨ (i = .lreturn ∧ t = .long ∧ ∃ z, w = .long z) ∨ (i = .dreturn ∧ t = .double ∧ ∃ z, w = .double z) ∨ (i = .freturn ∧ t = .float ∧ ∃ z, w = .float z) ∨ (i = .areturn ∧ t.isReference = true ∧ w.isRef = true))
    (hd : decode c.code pc = .ok (i, 1)) {Q : Option Value → Heap → List Loc → Prop} {C S : Nat} (eT : T.heap = h) (hQ : Q (some w) h locs) (hc : cells ≤ C) (hs : slots ≤ S) : Goes p.tables e below (Fin s below Q C S) (T.setTop (mkF m pc Ls (w :: rest))) := by
  obtain ⟨fs, hr, hrun, hended, hW, hsame⟩ := X.leave (v := some w) (fun q => by rw [hret] at q; cases q) hlk
  exact ⟨_, retOut X hx hret hn hi hd hr, _, hrun, hended, _, _, rfl, (by show Q (some w) T.heap locs; rw [eT]; exact hQ), ⟨_, rfl⟩, hW, hsame.mono hc hs⟩
theorem own_retV (X : Stand p l e R s m args below meth c T locs cells slots) (hx : p.tables.exec = Jvm.exec) {pc : Nat} {Ls : Array Slot} (hlk : meth.locks = false) (hret : meth.sig.returnType = none)
    (hd : decode c.code pc = .ok (.return_, 1)) {Q : Option Value → Heap → List Loc → Prop} {C S : Nat} (eT : T.heap = h) (hQ : Q none h locs) (hc : cells ≤ C) (hs : slots ≤ S) : Goes p.tables e below (Fin s below Q C S) (T.setTop (mkF m pc Ls [])) := by
  obtain ⟨fs, hr, hrun, hended, hW, hsame⟩ := X.leave (v := none) (fun _ => rfl) hlk
  exact ⟨_, X.returnOut hx hret hd hr, _, hrun, hended, _, _, rfl, (by show Q none T.heap locs; rw [eT]; exact hQ), ⟨_, rfl⟩, hW, hsame.mono hc hs⟩
theorem own_b1 {P : Prop} [Decidable P] {v : Int32} (hv : v = if P then 1 else 0) (q : P) : ¬ v = 0 := by rw [hv, if_pos q]; decide
theorem own_b0 {P : Prop} [Decidable P] {v : Int32} (hv : v = if P then 1 else 0) (q : ¬ P) : v = 0 := by rw [hv, if_neg q]
theorem own_beq {P P' : Prop} [Decidable P] [Decidable P'] {v v' : Int32} (hv : v = if P then 1 else 0) (hv' : v' = if P' then 1 else 0) (q : P ↔ P') : v = v' := by rw [hv, hv']; simp [q]
theorem own_nb {P : Prop} [Decidable P] {v : Int32} (hv : v = if P then 1 else 0) : narrow .boolean (.int v) = .int v := by rw [hv]; split <;> rfl
theorem own_nb2 {P : Prop} [Decidable P] {v : Int32} (hv : v = if P then 1 else 0) : nar .boolean v = v := by rw [hv]; split <;> rfl
theorem own_lt {x y : Int64} (q : x < y) : lcmpW x y < 0 := (lw_lt x y).mpr q
theorem own_nlt {x y : Int64} (q : ¬ x < y) : ¬ lcmpW x y < 0 := fun r => q ((lw_lt x y).mp r)
theorem own_gt {x y : Int64} (q : y < x) : 0 < lcmpW x y := (lw_gt x y).mpr q
theorem own_ngt {x y : Int64} (q : ¬ y < x) : ¬ 0 < lcmpW x y := fun r => q ((lw_gt x y).mp r)
theorem own_eq {x y : Int64} (q : x = y) : lcmpW x y = 0 := (lw_eq x y).mpr q
theorem own_neq {x y : Int64} (q : ¬ x = y) : ¬ lcmpW x y = 0 := fun r => q ((lw_eq x y).mp r)
theorem own_staKeep {C n d : String} {v : Value} {ws : List Addr} (F : Sta Z h C n d v) (K : Keep h h' ws) (q : ∀ x ∈ ws, ∀ cc : Cell, h[x]? = some cc → cc.vm.isStatics = false) : Sta Z h' C n d v := by
  obtain ⟨cf, i, k, f, st, cell, h1, h2, h3, h4, h5, h6, h7⟩ := F
  exact ⟨cf, i, k, f, st, cell, h1, h2, h3, h4, K.2.1 st cell h5 (fun r => by rw [q st r cell h5] at h6; cases h6), h6, h7⟩
theorem own_nst {a : Addr} {C : String} (F : Exa Z h a C) : ∀ cc : Cell, h[a]? = some cc → cc.vm.isStatics = false := fun cc q => by
  obtain ⟨c1, k, h1, -, -, h4, -⟩ := F
  cases h1.symm.trans q
  exact h4
theorem own_nstV {a : Addr} {k : ClassId} {ty : FieldType} {n : Int32} {vs : List Value} {dv : Value} (F : Arv Z h a k ty n vs dv) : ∀ cc : Cell, h[a]? = some cc → cc.vm.isStatics = false := fun cc q => by
  obtain ⟨c1, A, -⟩ := F
  cases A.1.symm.trans q
  exact A.plain
theorem own_fval {a : Addr} {C n d : String} {v w : Value} (q : v = w) (F : Fld Z h a C n d v) : Fld Z h a C n d w := q ▸ F
theorem own_exS {a0 : Array Value} {C n d K : String} (q : (Cond.exactly (Term.static C n d) K).value a0 Z none Z [] = some true) (wi : (Cond.initialized C).before a0 Z = true) (wl : (Cond.laysStatic C n d).before a0 Z = true) : ∃ a, Sta Z Z.heap C n d (.ref a) ∧ Exa Z Z.heap a K ∧ (Term.static C n d).eval a0 Z none [] Z = some (.ref a) := by
  obtain ⟨a, c', cell, k, e1, -⟩ := Cond.exactly_spec (Cond.before_iff.mpr q)
  exact ⟨a, Sta.start e1 (Or.inr ⟨wi, wl⟩), Exa.start e1 q, e1⟩
theorem own_eqI {a0 : Array Value} {t : Term} {k : Int32} (q : (Cond.eq t (Term.int k)).value a0 Z none Z [] = some true) : t.eval a0 Z none [] Z = some (.int k) := by
  simp only [Cond.value] at q
  split at q <;> simp_all [Term.int_eval]
theorem own_fldI {a0 : Array Value} {t : Term} {O n d : String} {k : Int32} {a : Addr} (ev : t.eval a0 Z none [] Z = some (.ref a)) (q : (Cond.eq (Term.field t O n d) (Term.int k)).value a0 Z none Z [] = some true) : Fld Z Z.heap a O n d (.int k) := by
  have r : (Term.field t O n d).eval a0 Z none [] Z = some (.int k) := own_eqI q
  refine Fld.start ?_
  simpa [Term.eval, ev] using r
theorem own_intne {x y : Int32} (q : ¬ x = y) : Value.int x ≠ Value.int y := fun r => q (Value.int.inj r)
theorem own_fldN {a0 : Array Value} {t : Term} {O n d : String} {a : Addr} (ev : t.eval a0 Z none [] Z = some (.ref a)) (q : (Cond.eq (Term.field t O n d) Term.null).value a0 Z none Z [] = some true) : Fld Z Z.heap a O n d .null := by
  have r : (Term.field t O n d).eval a0 Z none [] Z = some .null := by
    have e0 : Term.null.eval a0 Z none [] Z = some .null := rfl
    simp only [Cond.value, e0] at q
    split at q <;> simp_all
  refine Fld.start ?_
  simpa [Term.eval, ev] using r
theorem own_nz {x : Int32} (q : x = 0 ∨ x = 1) : narrow .boolean (.int x) = .int x := by rcases q with rfl | rfl <;> rfl
theorem own_fz {x : Int32} (q : x = 0 ∨ x = 1) : fits .boolean (.int x) = true := by rcases q with rfl | rfl <;> rfl
theorem own_b01 {P : Prop} [Decidable P] {v : Int32} (hv : v = if P then 1 else 0) : v = 0 ∨ v = 1 := by rw [hv]; split <;> simp
theorem own_narR {C : String} {v : Value} (q : v.isRef = true) : narrow (.object C) v = v := by rcases ref_cases q with r | ⟨_, r⟩ <;> rw [r] <;> rfl
theorem own_fitR {C : String} {v : Value} (q : v.isRef = true) : fits (.object C) v = true := by rcases ref_cases q with r | ⟨_, r⟩ <;> rw [r] <;> rfl
theorem own_lenAt {a0 : Array Value} {t : Term} {k : Int32} {a : Addr} {cl : Cell} (ev : t.eval a0 Z none [] Z = some (.ref a)) (hA : Z.arrayAt? a = some cl) (q : (Term.length t).eval a0 Z none [] Z = some (.int k)) : cl.slots.size < 2 ^ 31 ∧ cl.slots.size.toInt32 = k := by
  by_cases hl : cl.slots.size < 2 ^ 31
  · rw [len_f ev hA hl] at q
    exact ⟨hl, Value.int.inj (Option.some.inj q)⟩
  · simp [Term.eval, ev, hA, hl] at q
theorem own_cast {L L' : List Loc} {k k' n n' : Nat} (X : Stand p l e R s m args below meth c T L k n) (q1 : L = L') (q2 : k = k') (q3 : n = n') : Stand p l e R s m args below meth c T L' k' n' := by
  subst q1 q2 q3
  exact X
end Own
def own_e (r c : Int32) : Int32 := (((r.toUInt32 >>> (((2 : Int32) * c) &&& 31).toUInt32).toInt32) &&& (3 : Int32)) - (1 : Int32)
theorem own_ub (x : Int32) {n : UInt32} {k : Nat} (hn : n.toNat = k) (h1 : 0 < k) (hk : k < 32) : 0 ≤ ((x.toUInt32 >>> n).toInt32).toInt := Jvm.Kit.i32_nonneg.mp (Jvm.Kit.i32_iushr_nonneg x hn h1 hk)
theorem own_kr {k q : Int32} (h : k = (1 : Int32) + (q &&& (3 : Int32))) : 1 ≤ k.toInt ∧ k.toInt ≤ 4 := by
  have b := Jvm.Kit.i32_mask q 3 (k := 2) (by decide) (by decide)
  subst h
  have c1 : (1 : Int32).toInt = 1 := rfl
  rw [Jvm.Kit.i32_add (by omega) (by omega)]
  omega
theorem own_k0 {k q : Int32} (h : k = (1 : Int32) + (q &&& (3 : Int32))) : k ≠ 0 := fun e => by
  have := own_kr h
  subst e
  have c0 : (0 : Int32).toInt = 0 := rfl
  omega
theorem own_k4 {k q : Int32} (h : k = (1 : Int32) + (q &&& (3 : Int32))) (h1 : ¬ k = 1) (h2 : ¬ k = 2) (h3 : ¬ k = 3) : k = 4 := by
  have := own_kr h
  have c1 : (1 : Int32).toInt = 1 := rfl
  have c2 : (2 : Int32).toInt = 2 := rfl
  have c3 : (3 : Int32).toInt = 3 := rfl
  have c4 : (4 : Int32).toInt = 4 := rfl
  rw [← Int32.toInt_inj] at h1 h2 h3 ⊢
  omega
theorem own_s {s q : Int32} (h : s = ((q.toUInt32 >>> ((2 : Int32) &&& 31).toUInt32).toInt32) % (3 : Int32)) : s = 0 ∨ s = 1 ∨ s = 2 := by
  have b := own_ub q (n := ((2 : Int32) &&& 31).toUInt32) (k := 2) (by decide) (by decide) (by decide)
  have c0 : (0 : Int32).toInt = 0 := rfl
  have c1 : (1 : Int32).toInt = 1 := rfl
  have c2 : (2 : Int32).toInt = 2 := rfl
  have c3 : (3 : Int32).toInt = 3 := rfl
  have e := Jvm.Kit.i32_rem_nonneg (y := 3) b
  rw [← h, c3] at e
  rw [← Int32.toInt_inj, ← Int32.toInt_inj, ← Int32.toInt_inj]
  omega
theorem own_c1 {c q k : Int32} (h : c = ((q.toUInt32 >>> ((4 : Int32) &&& 31).toUInt32).toInt32) % k) (hk : k = 1) : c = 0 := by
  subst hk
  have b := own_ub q (n := ((4 : Int32) &&& 31).toUInt32) (k := 4) (by decide) (by decide) (by decide)
  have c0 : (0 : Int32).toInt = 0 := rfl
  have c1 : (1 : Int32).toInt = 1 := rfl
  have c2 : (2 : Int32).toInt = 2 := rfl
  have c3 : (3 : Int32).toInt = 3 := rfl
  have c4 : (4 : Int32).toInt = 4 := rfl
  have e := Jvm.Kit.i32_rem_nonneg (y := 1) b
  rw [← h, c1] at e
  simp only [← Int32.toInt_inj]
  omega
theorem own_get1 (s c r0 r1 r2 row : Int32) (hs : s = 0 ∨ s = 1 ∨ s = 2) (hc : c = 0) (hrow : row = if s = 0 then r0 else if s = 1 then r1 else r2) :
    ([(.int (own_e r0 (0 : Int32))), (.int (own_e r1 (0 : Int32))), (.int (own_e r2 (0 : Int32)))] : List Value).getD ((s * (1 : Int32)) + c).toNatClampNeg (.int (0 : Int32)) = .int (own_e row c) ∧ ¬ ((s * (1 : Int32)) + c) < 0 ∧ ((s * (1 : Int32)) + c) < (3 : Int32) := by
  rcases hs with rfl | rfl | rfl
  · rw [if_pos rfl] at hrow
    subst hrow
    rcases hc with rfl <;> exact ⟨rfl, by decide, by decide⟩
  · rw [if_neg (by decide), if_pos rfl] at hrow
    subst hrow
    rcases hc with rfl <;> exact ⟨rfl, by decide, by decide⟩
  · rw [if_neg (by decide), if_neg (by decide)] at hrow
    subst hrow
    rcases hc with rfl <;> exact ⟨rfl, by decide, by decide⟩
theorem own_c2 {c q k : Int32} (h : c = ((q.toUInt32 >>> ((4 : Int32) &&& 31).toUInt32).toInt32) % k) (hk : k = 2) : c = 0 ∨ c = 1 := by
  subst hk
  have b := own_ub q (n := ((4 : Int32) &&& 31).toUInt32) (k := 4) (by decide) (by decide) (by decide)
  have c0 : (0 : Int32).toInt = 0 := rfl
  have c1 : (1 : Int32).toInt = 1 := rfl
  have c2 : (2 : Int32).toInt = 2 := rfl
  have c3 : (3 : Int32).toInt = 3 := rfl
  have c4 : (4 : Int32).toInt = 4 := rfl
  have e := Jvm.Kit.i32_rem_nonneg (y := 2) b
  rw [← h, c2] at e
  simp only [← Int32.toInt_inj]
  omega
theorem own_get2 (s c r0 r1 r2 row : Int32) (hs : s = 0 ∨ s = 1 ∨ s = 2) (hc : c = 0 ∨ c = 1) (hrow : row = if s = 0 then r0 else if s = 1 then r1 else r2) :
    ([(.int (own_e r0 (0 : Int32))), (.int (own_e r0 (1 : Int32))), (.int (own_e r1 (0 : Int32))), (.int (own_e r1 (1 : Int32))), (.int (own_e r2 (0 : Int32))), (.int (own_e r2 (1 : Int32)))] : List Value).getD ((s * (2 : Int32)) + c).toNatClampNeg (.int (0 : Int32)) = .int (own_e row c) ∧ ¬ ((s * (2 : Int32)) + c) < 0 ∧ ((s * (2 : Int32)) + c) < (6 : Int32) := by
  rcases hs with rfl | rfl | rfl
  · rw [if_pos rfl] at hrow
    subst hrow
    rcases hc with rfl | rfl <;> exact ⟨rfl, by decide, by decide⟩
  · rw [if_neg (by decide), if_pos rfl] at hrow
    subst hrow
    rcases hc with rfl | rfl <;> exact ⟨rfl, by decide, by decide⟩
  · rw [if_neg (by decide), if_neg (by decide)] at hrow
    subst hrow
    rcases hc with rfl | rfl <;> exact ⟨rfl, by decide, by decide⟩
theorem own_c3 {c q k : Int32} (h : c = ((q.toUInt32 >>> ((4 : Int32) &&& 31).toUInt32).toInt32) % k) (hk : k = 3) : c = 0 ∨ c = 1 ∨ c = 2 := by
  subst hk
  have b := own_ub q (n := ((4 : Int32) &&& 31).toUInt32) (k := 4) (by decide) (by decide) (by decide)
  have c0 : (0 : Int32).toInt = 0 := rfl
  have c1 : (1 : Int32).toInt = 1 := rfl
  have c2 : (2 : Int32).toInt = 2 := rfl
  have c3 : (3 : Int32).toInt = 3 := rfl
  have c4 : (4 : Int32).toInt = 4 := rfl
  have e := Jvm.Kit.i32_rem_nonneg (y := 3) b
  rw [← h, c3] at e
  simp only [← Int32.toInt_inj]
  omega
theorem own_get3 (s c r0 r1 r2 row : Int32) (hs : s = 0 ∨ s = 1 ∨ s = 2) (hc : c = 0 ∨ c = 1 ∨ c = 2) (hrow : row = if s = 0 then r0 else if s = 1 then r1 else r2) :
    ([(.int (own_e r0 (0 : Int32))), (.int (own_e r0 (1 : Int32))), (.int (own_e r0 (2 : Int32))), (.int (own_e r1 (0 : Int32))), (.int (own_e r1 (1 : Int32))), (.int (own_e r1 (2 : Int32))), (.int (own_e r2 (0 : Int32))), (.int (own_e r2 (1 : Int32))), (.int (own_e r2 (2 : Int32)))] : List Value).getD ((s * (3 : Int32)) + c).toNatClampNeg (.int (0 : Int32)) = .int (own_e row c) ∧ ¬ ((s * (3 : Int32)) + c) < 0 ∧ ((s * (3 : Int32)) + c) < (9 : Int32) := by
  rcases hs with rfl | rfl | rfl
  · rw [if_pos rfl] at hrow
    subst hrow
    rcases hc with rfl | rfl | rfl <;> exact ⟨rfl, by decide, by decide⟩
  · rw [if_neg (by decide), if_pos rfl] at hrow
    subst hrow
    rcases hc with rfl | rfl | rfl <;> exact ⟨rfl, by decide, by decide⟩
  · rw [if_neg (by decide), if_neg (by decide)] at hrow
    subst hrow
    rcases hc with rfl | rfl | rfl <;> exact ⟨rfl, by decide, by decide⟩
theorem own_c4 {c q k : Int32} (h : c = ((q.toUInt32 >>> ((4 : Int32) &&& 31).toUInt32).toInt32) % k) (hk : k = 4) : c = 0 ∨ c = 1 ∨ c = 2 ∨ c = 3 := by
  subst hk
  have b := own_ub q (n := ((4 : Int32) &&& 31).toUInt32) (k := 4) (by decide) (by decide) (by decide)
  have c0 : (0 : Int32).toInt = 0 := rfl
  have c1 : (1 : Int32).toInt = 1 := rfl
  have c2 : (2 : Int32).toInt = 2 := rfl
  have c3 : (3 : Int32).toInt = 3 := rfl
  have c4 : (4 : Int32).toInt = 4 := rfl
  have e := Jvm.Kit.i32_rem_nonneg (y := 4) b
  rw [← h, c4] at e
  simp only [← Int32.toInt_inj]
  omega
theorem own_get4 (s c r0 r1 r2 row : Int32) (hs : s = 0 ∨ s = 1 ∨ s = 2) (hc : c = 0 ∨ c = 1 ∨ c = 2 ∨ c = 3) (hrow : row = if s = 0 then r0 else if s = 1 then r1 else r2) :
    ([(.int (own_e r0 (0 : Int32))), (.int (own_e r0 (1 : Int32))), (.int (own_e r0 (2 : Int32))), (.int (own_e r0 (3 : Int32))), (.int (own_e r1 (0 : Int32))), (.int (own_e r1 (1 : Int32))), (.int (own_e r1 (2 : Int32))), (.int (own_e r1 (3 : Int32))), (.int (own_e r2 (0 : Int32))), (.int (own_e r2 (1 : Int32))), (.int (own_e r2 (2 : Int32))), (.int (own_e r2 (3 : Int32)))] : List Value).getD ((s * (4 : Int32)) + c).toNatClampNeg (.int (0 : Int32)) = .int (own_e row c) ∧ ¬ ((s * (4 : Int32)) + c) < 0 ∧ ((s * (4 : Int32)) + c) < (12 : Int32) := by
  rcases hs with rfl | rfl | rfl
  · rw [if_pos rfl] at hrow
    subst hrow
    rcases hc with rfl | rfl | rfl | rfl <;> exact ⟨rfl, by decide, by decide⟩
  · rw [if_neg (by decide), if_pos rfl] at hrow
    subst hrow
    rcases hc with rfl | rfl | rfl | rfl <;> exact ⟨rfl, by decide, by decide⟩
  · rw [if_neg (by decide), if_neg (by decide)] at hrow
    subst hrow
    rcases hc with rfl | rfl | rfl | rfl <;> exact ⟨rfl, by decide, by decide⟩

theorem pd_0 : parseMethodDescriptor "(II)I" = some ⟨[.int, .int], some .int⟩ := by decide +kernel
theorem pd_1 : parseMethodDescriptor "([I[I[I)V" = some ⟨[(.array .int), (.array .int), (.array .int)], none⟩ := by decide +kernel
theorem pn_10 : plainName "com/example/parsewright/parsewright/generator/ScannerAutomatonNextPinLaw" = true := by first | (simp [plainName, overriddenIn]; done) | decide +kernel
theorem pn_23 : plainName "com/example/parsewright/parsewright/generator/ScannerAutomaton" = true := by first | (simp [plainName, overriddenIn]; done) | decide +kernel
theorem d1_0 : decode method_2_code 0 = .ok (.iload_n 0, 1) := by decide +kernel
theorem d1_1 : decode method_2_code 1 = .ok (.iconst 2, 1) := by decide +kernel
theorem d1_2 : decode method_2_code 2 = .ok (.iload_n 1, 1) := by decide +kernel
theorem d1_3 : decode method_2_code 3 = .ok (.imul, 1) := by decide +kernel
theorem d1_4 : decode method_2_code 4 = .ok (.iushr, 1) := by decide +kernel
theorem d1_5 : decode method_2_code 5 = .ok (.iconst 3, 1) := by decide +kernel
theorem d1_6 : decode method_2_code 6 = .ok (.iand, 1) := by decide +kernel
theorem d1_7 : decode method_2_code 7 = .ok (.iconst 1, 1) := by decide +kernel
theorem d1_8 : decode method_2_code 8 = .ok (.isub, 1) := by decide +kernel
theorem d1_9 : decode method_2_code 9 = .ok (.ireturn, 1) := by decide +kernel
theorem ef_1 (m : MethodId) (p0 : Int32) (p1 : Int32) : entryFrame m #[(.int p0), (.int p1)] 2 = mkF m 0 #[.val (.int p0), .val (.int p1)] [] := by first | (simp [entryFrame, mkF, argsToLocals, Value.category]; done) | rfl
def Q1 (Z : State) (p0 : Int32) (p1 : Int32) (h0 : Heap) (n0 : Nat) (v : Option Value) (h : Heap) (L : List Loc) : Prop := v = some (.int (own_e p0 p1)) ∧ Fr n0 L ∧ h = h0
set_option maxRecDepth 65536 in
set_option maxHeartbeats 40000000 in
theorem rm1 (l : Launch) (Z : State) (a0 : Array Value) (hw : ∀ d ∈ tables_1, d.before a0 Z = true) (ws : List Jvm.Cond) (p0 : Int32) (p1 : Int32) (h0 : Heap) (n0 : Nat) (Z0 : n0 ≤ h0.size) :
    MetFree l (⟨"com/example/parsewright/parsewright/generator/ScannerAutomatonNextPinLaw", "e", "(II)I"⟩ : MethodName) (head1 (Jvm.Cond.code (⟨"com/example/parsewright/parsewright/generator/ScannerAutomatonNextPinLaw", "e", "(II)I"⟩ : MethodName) method_2_code 2 (some .int) :: ws) ({ frames := 0, cells := 0, slots := 0, locals := 0 } : Room)) (fun a U => a = #[(.int p0), (.int p1)] ∧ Z.Warmed39 U.vm ∧ U.heap = h0) (fun _ _ _ _ _ => True) (fun _ U o U' => ∃ v L, o = .returned v ∧ Q1 Z p0 p1 h0 n0 v U'.heap L ∧ FrameEnd U o U' L 0 0) := by
  refine MetFree.of_bodySF (plainFor_of_name pn_10) hisR ?_
  intro p e s m args below meth c s₁ Bd hml0 hP hK
  obtain ⟨rfl, hZ, hh⟩ := hP
  have hx := Bd.exec
  have hby := Bd.bytes
  have hml : c.maxLocals = 2 := hml0
  have hown : s.vm.findClass "com/example/parsewright/parsewright/generator/ScannerAutomatonNextPinLaw" = some m.cls := findClass_of_methodNamed Bd.named
  have hnm := (name_of_methodNamed Bd.named Bd.method).1
  have X0 : Stand p l e ({ frames := 0, cells := 0, slots := 0, locals := 0 } : Room) s m #[(.int p0), (.int p1)] below meth c s₁ [] 0 0 := Stand.of_body Bd
  have e0 : s₁.heap = h0 := by rw [← hh, Bd.state]; rfl
  have N0 := Fr.nil n0
  refine own_start (Q := fun v h L => Q1 Z p0 p1 h0 n0 v h L) ?_
  refine Goes.via (S' := (s₁.setTop (mkF m 0 #[.val (.int p0), .val (.int p1)] []))) (fun t k => castTop (ef_1 m p0 p1) k) ?_
  refine Goes.via (S' := (s₁.setTop (mkF m 1 #[.val (.int p0), .val (.int p1)] [(.int p0)]))) (fun t k => XS.iloadN X0.here hx rfl (hb hby d1_0) rfl k) ?_
  refine Goes.via (S' := (s₁.setTop (mkF m 2 #[.val (.int p0), .val (.int p1)] [(.int (2 : Int32)), (.int p0)]))) (fun t k => XS.iconst X0.here hx rfl (hb hby d1_1) k) ?_
  refine Goes.via (S' := (s₁.setTop (mkF m 3 #[.val (.int p0), .val (.int p1)] [(.int p1), (.int (2 : Int32)), (.int p0)]))) (fun t k => XS.iloadN X0.here hx rfl (hb hby d1_2) rfl k) ?_
  refine Goes.via (S' := (s₁.setTop (mkF m 4 #[.val (.int p0), .val (.int p1)] [(.int ((2 : Int32) * p1)), (.int p0)]))) (fun t k => XS.imul X0.here hx rfl (hb hby d1_3) rfl k) ?_
  refine Goes.via (S' := (s₁.setTop (mkF m 5 #[.val (.int p0), .val (.int p1)] [(.int ((p0.toUInt32 >>> (((2 : Int32) * p1) &&& 31).toUInt32).toInt32))]))) (fun t k => XS.iushr X0.here hx rfl (hb hby d1_4) rfl k) ?_
  refine Goes.via (S' := (s₁.setTop (mkF m 6 #[.val (.int p0), .val (.int p1)] [(.int (3 : Int32)), (.int ((p0.toUInt32 >>> (((2 : Int32) * p1) &&& 31).toUInt32).toInt32))]))) (fun t k => XS.iconst X0.here hx rfl (hb hby d1_5) k) ?_
  refine Goes.via (S' := (s₁.setTop (mkF m 7 #[.val (.int p0), .val (.int p1)] [(.int (((p0.toUInt32 >>> (((2 : Int32) * p1) &&& 31).toUInt32).toInt32) &&& (3 : Int32)))]))) (fun t k => XS.iand X0.here hx rfl (hb hby d1_6) rfl k) ?_
  refine Goes.via (S' := (s₁.setTop (mkF m 8 #[.val (.int p0), .val (.int p1)] [(.int (1 : Int32)), (.int (((p0.toUInt32 >>> (((2 : Int32) * p1) &&& 31).toUInt32).toInt32) &&& (3 : Int32)))]))) (fun t k => XS.iconst X0.here hx rfl (hb hby d1_7) k) ?_
  refine Goes.via (S' := (s₁.setTop (mkF m 9 #[.val (.int p0), .val (.int p1)] [(.int ((((p0.toUInt32 >>> (((2 : Int32) * p1) &&& 31).toUInt32).toInt32) &&& (3 : Int32)) - (1 : Int32)))]))) (fun t k => XS.isub X0.here hx rfl (hb hby d1_8) rfl k) ?_
  exact own_ret X0 hx Bd.notSynchronized Bd.returns rfl (Or.inl ⟨rfl, by simp, _, rfl⟩) (hb hby d1_9) e0 ⟨rfl, N0, rfl⟩ (by decide) (by decide)
theorem d2_0 : decode prog_47_method_1_code 0 = .ok (.aload_n 0, 1) := by decide +kernel
theorem d2_1 : decode prog_47_method_1_code 1 = .ok (.invokespecial 1, 3) := by decide +kernel
theorem d2_4 : decode prog_47_method_1_code 4 = .ok (.aload_n 0, 1) := by decide +kernel
theorem d2_5 : decode prog_47_method_1_code 5 = .ok (.aload_n 1, 1) := by decide +kernel
theorem d2_6 : decode prog_47_method_1_code 6 = .ok (.putfield 7, 3) := by decide +kernel
theorem d2_9 : decode prog_47_method_1_code 9 = .ok (.aload_n 0, 1) := by decide +kernel
theorem d2_10 : decode prog_47_method_1_code 10 = .ok (.aload_n 2, 1) := by decide +kernel
theorem d2_11 : decode prog_47_method_1_code 11 = .ok (.putfield 13, 3) := by decide +kernel
theorem d2_14 : decode prog_47_method_1_code 14 = .ok (.aload_n 0, 1) := by decide +kernel
theorem d2_15 : decode prog_47_method_1_code 15 = .ok (.aload_n 3, 1) := by decide +kernel
theorem d2_16 : decode prog_47_method_1_code 16 = .ok (.putfield 16, 3) := by decide +kernel
theorem d2_19 : decode prog_47_method_1_code 19 = .ok (.return_, 1) := by decide +kernel
theorem ef_2 (m : MethodId) (xa : Addr) (y0 : Addr) (y1 : Addr) (y2 : Addr) : entryFrame m #[(.ref xa), (.ref y0), (.ref y1), (.ref y2)] 4 = mkF m 0 #[.val (.ref xa), .val (.ref y0), .val (.ref y1), .val (.ref y2)] [] := by first | (simp [entryFrame, mkF, argsToLocals, Value.category]; done) | rfl
def Q2 (Z : State) (xa : Addr) (y0 : Addr) (y1 : Addr) (y2 : Addr) (u0 : Value) (u1 : Value) (u2 : Value) (h0 : Heap) (n0 : Nat) (v : Option Value) (h : Heap) (L : List Loc) : Prop := v = none ∧ Fr n0 L ∧ Keep h0 h [xa] ∧ Exa Z h xa "com/example/parsewright/parsewright/generator/ScannerAutomaton" ∧ Fld Z h xa "com/example/parsewright/parsewright/generator/ScannerAutomaton" "classStarts" "[I" (.ref y0) ∧ Fld Z h xa "com/example/parsewright/parsewright/generator/ScannerAutomaton" "transitions" "[I" (.ref y1) ∧ Fld Z h xa "com/example/parsewright/parsewright/generator/ScannerAutomaton" "accepts" "[I" (.ref y2)
set_option maxRecDepth 65536 in
set_option maxHeartbeats 40000000 in
theorem rm2 (l : Launch) (Z : State) (a0 : Array Value) (hw : ∀ d ∈ tables_1, d.before a0 Z = true) (ws : List Jvm.Cond) (xa : Addr) (y0 : Addr) (y1 : Addr) (y2 : Addr) (u0 : Value) (u1 : Value) (u2 : Value) (h0 : Heap) (n0 : Nat) (Z0 : n0 ≤ h0.size) (f0_xa : Exa Z h0 xa "com/example/parsewright/parsewright/generator/ScannerAutomaton") (f1_xa_classStarts : Fld Z h0 xa "com/example/parsewright/parsewright/generator/ScannerAutomaton" "classStarts" "[I" u0) (f2_xa_transitions : Fld Z h0 xa "com/example/parsewright/parsewright/generator/ScannerAutomaton" "transitions" "[I" u1) (f3_xa_accepts : Fld Z h0 xa "com/example/parsewright/parsewright/generator/ScannerAutomaton" "accepts" "[I" u2) (g_xa : n0 ≤ xa) :
    MetFree l (⟨"com/example/parsewright/parsewright/generator/ScannerAutomaton", "<init>", "([I[I[I)V"⟩ : MethodName) (head1 (Jvm.Cond.code (⟨"com/example/parsewright/parsewright/generator/ScannerAutomaton", "<init>", "([I[I[I)V"⟩ : MethodName) prog_47_method_1_code 4 none :: ws) ({ frames := 1, cells := 0, slots := 0, locals := 12 } : Room)) (fun a U => a = #[(.ref xa), (.ref y0), (.ref y1), (.ref y2)] ∧ Z.Warmed39 U.vm ∧ U.heap = h0) (fun _ _ _ _ _ => True) (fun _ U o U' => ∃ v L, o = .returned v ∧ Q2 Z xa y0 y1 y2 u0 u1 u2 h0 n0 v U'.heap L ∧ FrameEnd U o U' L 0 0) := by
  refine MetFree.of_bodySF (plainFor_of_name pn_23) hisR ?_
  intro p e s m args below meth c s₁ Bd hml0 hP hK
  obtain ⟨rfl, hZ, hh⟩ := hP
  have hx := Bd.exec
  have hby := Bd.bytes
  have hml : c.maxLocals = 4 := hml0
  have hown : s.vm.findClass "com/example/parsewright/parsewright/generator/ScannerAutomaton" = some m.cls := findClass_of_methodNamed Bd.named
  have hnm := (name_of_methodNamed Bd.named Bd.method).1
  have X0 : Stand p l e ({ frames := 1, cells := 0, slots := 0, locals := 12 } : Room) s m #[(.ref xa), (.ref y0), (.ref y1), (.ref y2)] below meth c s₁ [] 0 0 := Stand.of_body Bd
  have e0 : s₁.heap = h0 := by rw [← hh, Bd.state]; rfl
  have N0 := Fr.nil n0
  refine own_start (Q := fun v h L => Q2 Z xa y0 y1 y2 u0 u1 u2 h0 n0 v h L) ?_
  refine Goes.via (S' := (s₁.setTop (mkF m 0 #[.val (.ref xa), .val (.ref y0), .val (.ref y1), .val (.ref y2)] []))) (fun t k => castTop (ef_2 m xa y0 y1 y2) k) ?_
  refine Goes.via (S' := (s₁.setTop (mkF m 1 #[.val (.ref xa), .val (.ref y0), .val (.ref y1), .val (.ref y2)] [(.ref xa)]))) (fun t k => XS.aloadN X0.here hx rfl (hb hby d2_0) rfl rfl k) ?_
  obtain ⟨T1, X1, e1, st1⟩ := initO X0 hx hZ hown (hw _ (List.mem_of_getElem? (i := 11) rfl)) (hw _ (List.mem_of_getElem? (i := 12) rfl)) (hw _ (List.mem_of_getElem? (i := 13) rfl)) e0 (g := (mkF m 1 #[.val (.ref xa), .val (.ref y0), .val (.ref y1), .val (.ref y2)] [(.ref xa)])) rfl (by rw [hml]; rfl) rfl (hb hby d2_1) (by decide) (W := 0) (by show 2 * 0 + _ ≤ _; exact Nat.le_of_eq rfl) (by decide)
  refine Goes.via (S' := (T1.setTop (mkF m 4 #[.val (.ref xa), .val (.ref y0), .val (.ref y1), .val (.ref y2)] []))) (fun t k => st1 _ k) ?_
  refine Goes.via (S' := (T1.setTop (mkF m 5 #[.val (.ref xa), .val (.ref y0), .val (.ref y1), .val (.ref y2)] [(.ref xa)]))) (fun t k => XS.aloadN X1.here hx rfl (hb hby d2_4) rfl rfl k) ?_
  refine Goes.via (S' := (T1.setTop (mkF m 6 #[.val (.ref xa), .val (.ref y0), .val (.ref y1), .val (.ref y2)] [(.ref y0), (.ref xa)]))) (fun t k => XS.aloadN X1.here hx rfl (hb hby d2_5) rfl rfl k) ?_
  obtain ⟨T2, h2, X2, e2, W2, st2⟩ := putF X1 hx hZ hown (host := "") (Or.inl (hw _ (List.mem_of_getElem? (i := 14) rfl))) Via.refl e1 f1_xa_classStarts f0_xa (Or.inr ⟨(hw _ (List.mem_of_getElem? (i := 15) rfl)), rfl, hnm⟩) (hw _ (List.mem_of_getElem? (i := 6) rfl)) (ty := (.array .int)) (by decide) rfl rfl (g := (mkF m 6 #[.val (.ref xa), .val (.ref y0), .val (.ref y1), .val (.ref y2)] [(.ref y0), (.ref xa)])) rfl rfl (hb hby d2_6)
  have f3 : Exa Z h2 xa "com/example/parsewright/parsewright/generator/ScannerAutomaton" := f0_xa.wr W2
  have f4 : Fld Z h2 xa "com/example/parsewright/parsewright/generator/ScannerAutomaton" "transitions" "[I" u1 := f2_xa_transitions.other W2 (Or.inr (slot_ne (Or.inr (hw _ (List.mem_of_getElem? (i := 17) rfl))) (Or.inr (hw _ (List.mem_of_getElem? (i := 15) rfl))) (by decide) (t := (.array .int)) (t' := (.array .int)) (by decide) (by decide)))
  have f5 : Fld Z h2 xa "com/example/parsewright/parsewright/generator/ScannerAutomaton" "accepts" "[I" u2 := f3_xa_accepts.other W2 (Or.inr (slot_ne (Or.inr (hw _ (List.mem_of_getElem? (i := 19) rfl))) (Or.inr (hw _ (List.mem_of_getElem? (i := 15) rfl))) (by decide) (t := (.array .int)) (t' := (.array .int)) (by decide) (by decide)))
  have f6 : Fld Z h2 xa "com/example/parsewright/parsewright/generator/ScannerAutomaton" "classStarts" "[I" (.ref y0) := f1_xa_classStarts.same W2
  have K2 : Keep h0 h2 [xa] := Keep.wr (Keep.refl h0 [xa]) W2 (Or.inl (List.mem_of_getElem? (i := 0) rfl))
  have Z2 : n0 ≤ h2.size := Nat.le_trans Z0 K2.1
  have N2 := Fr.snoc X2 N0 g_xa
  refine Goes.via (S' := (T2.setTop (mkF m 9 #[.val (.ref xa), .val (.ref y0), .val (.ref y1), .val (.ref y2)] []))) (fun t k => st2 _ k) ?_
  refine Goes.via (S' := (T2.setTop (mkF m 10 #[.val (.ref xa), .val (.ref y0), .val (.ref y1), .val (.ref y2)] [(.ref xa)]))) (fun t k => XS.aloadN X2.here hx rfl (hb hby d2_9) rfl rfl k) ?_
  refine Goes.via (S' := (T2.setTop (mkF m 11 #[.val (.ref xa), .val (.ref y0), .val (.ref y1), .val (.ref y2)] [(.ref y1), (.ref xa)]))) (fun t k => XS.aloadN X2.here hx rfl (hb hby d2_10) rfl rfl k) ?_
  obtain ⟨T7, h7, X7, e7, W7, st7⟩ := putF X2 hx hZ hown (host := "") (Or.inl (hw _ (List.mem_of_getElem? (i := 16) rfl))) Via.refl e2 f4 f3 (Or.inr ⟨(hw _ (List.mem_of_getElem? (i := 17) rfl)), rfl, hnm⟩) (hw _ (List.mem_of_getElem? (i := 6) rfl)) (ty := (.array .int)) (by decide) rfl rfl (g := (mkF m 11 #[.val (.ref xa), .val (.ref y0), .val (.ref y1), .val (.ref y2)] [(.ref y1), (.ref xa)])) rfl rfl (hb hby d2_11)
  have f8 : Exa Z h7 xa "com/example/parsewright/parsewright/generator/ScannerAutomaton" := f3.wr W7
  have f9 : Fld Z h7 xa "com/example/parsewright/parsewright/generator/ScannerAutomaton" "accepts" "[I" u2 := f5.other W7 (Or.inr (slot_ne (Or.inr (hw _ (List.mem_of_getElem? (i := 19) rfl))) (Or.inr (hw _ (List.mem_of_getElem? (i := 17) rfl))) (by decide) (t := (.array .int)) (t' := (.array .int)) (by decide) (by decide)))
  have f10 : Fld Z h7 xa "com/example/parsewright/parsewright/generator/ScannerAutomaton" "classStarts" "[I" (.ref y0) := f6.other W7 (Or.inr (slot_ne (Or.inr (hw _ (List.mem_of_getElem? (i := 15) rfl))) (Or.inr (hw _ (List.mem_of_getElem? (i := 17) rfl))) (by decide) (t := (.array .int)) (t' := (.array .int)) (by decide) (by decide)))
  have f11 : Fld Z h7 xa "com/example/parsewright/parsewright/generator/ScannerAutomaton" "transitions" "[I" (.ref y1) := f4.same W7
  have K7 : Keep h0 h7 [xa] := Keep.wr K2 W7 (Or.inl (List.mem_of_getElem? (i := 0) rfl))
  have Z7 : n0 ≤ h7.size := Nat.le_trans Z0 K7.1
  have N7 := Fr.snoc X7 N2 g_xa
  refine Goes.via (S' := (T7.setTop (mkF m 14 #[.val (.ref xa), .val (.ref y0), .val (.ref y1), .val (.ref y2)] []))) (fun t k => st7 _ k) ?_
  refine Goes.via (S' := (T7.setTop (mkF m 15 #[.val (.ref xa), .val (.ref y0), .val (.ref y1), .val (.ref y2)] [(.ref xa)]))) (fun t k => XS.aloadN X7.here hx rfl (hb hby d2_14) rfl rfl k) ?_
  refine Goes.via (S' := (T7.setTop (mkF m 16 #[.val (.ref xa), .val (.ref y0), .val (.ref y1), .val (.ref y2)] [(.ref y2), (.ref xa)]))) (fun t k => XS.aloadN X7.here hx rfl (hb hby d2_15) rfl rfl k) ?_
  obtain ⟨T12, h12, X12, e12, W12, st12⟩ := putF X7 hx hZ hown (host := "") (Or.inl (hw _ (List.mem_of_getElem? (i := 18) rfl))) Via.refl e7 f9 f8 (Or.inr ⟨(hw _ (List.mem_of_getElem? (i := 19) rfl)), rfl, hnm⟩) (hw _ (List.mem_of_getElem? (i := 6) rfl)) (ty := (.array .int)) (by decide) rfl rfl (g := (mkF m 16 #[.val (.ref xa), .val (.ref y0), .val (.ref y1), .val (.ref y2)] [(.ref y2), (.ref xa)])) rfl rfl (hb hby d2_16)
  have f13 : Exa Z h12 xa "com/example/parsewright/parsewright/generator/ScannerAutomaton" := f8.wr W12
  have f14 : Fld Z h12 xa "com/example/parsewright/parsewright/generator/ScannerAutomaton" "classStarts" "[I" (.ref y0) := f10.other W12 (Or.inr (slot_ne (Or.inr (hw _ (List.mem_of_getElem? (i := 15) rfl))) (Or.inr (hw _ (List.mem_of_getElem? (i := 19) rfl))) (by decide) (t := (.array .int)) (t' := (.array .int)) (by decide) (by decide)))
  have f15 : Fld Z h12 xa "com/example/parsewright/parsewright/generator/ScannerAutomaton" "transitions" "[I" (.ref y1) := f11.other W12 (Or.inr (slot_ne (Or.inr (hw _ (List.mem_of_getElem? (i := 17) rfl))) (Or.inr (hw _ (List.mem_of_getElem? (i := 19) rfl))) (by decide) (t := (.array .int)) (t' := (.array .int)) (by decide) (by decide)))
  have f16 : Fld Z h12 xa "com/example/parsewright/parsewright/generator/ScannerAutomaton" "accepts" "[I" (.ref y2) := f9.same W12
  have K12 : Keep h0 h12 [xa] := Keep.wr K7 W12 (Or.inl (List.mem_of_getElem? (i := 0) rfl))
  have Z12 : n0 ≤ h12.size := Nat.le_trans Z0 K12.1
  have N12 := Fr.snoc X12 N7 g_xa
  refine Goes.via (S' := (T12.setTop (mkF m 19 #[.val (.ref xa), .val (.ref y0), .val (.ref y1), .val (.ref y2)] []))) (fun t k => st12 _ k) ?_
  exact own_retV X12 hx Bd.notSynchronized Bd.returns (hb hby d2_19) e12 ⟨rfl, N12, K12, f13, f14, f15, f16⟩ (by decide) (by decide)
theorem d4_0 : decode prog_47_method_5_code 0 = .ok (.aload_n 0, 1) := by decide +kernel
theorem d4_1 : decode prog_47_method_5_code 1 = .ok (.getfield 13, 3) := by decide +kernel
theorem d4_4 : decode prog_47_method_5_code 4 = .ok (.iload_n 1, 1) := by decide +kernel
theorem d4_5 : decode prog_47_method_5_code 5 = .ok (.aload_n 0, 1) := by decide +kernel
theorem d4_6 : decode prog_47_method_5_code 6 = .ok (.getfield 7, 3) := by decide +kernel
theorem d4_9 : decode prog_47_method_5_code 9 = .ok (.arraylength, 1) := by decide +kernel
theorem d4_10 : decode prog_47_method_5_code 10 = .ok (.imul, 1) := by decide +kernel
theorem d4_11 : decode prog_47_method_5_code 11 = .ok (.iload_n 2, 1) := by decide +kernel
theorem d4_12 : decode prog_47_method_5_code 12 = .ok (.iadd, 1) := by decide +kernel
theorem d4_13 : decode prog_47_method_5_code 13 = .ok (.iaload, 1) := by decide +kernel
theorem d4_14 : decode prog_47_method_5_code 14 = .ok (.ireturn, 1) := by decide +kernel
theorem ef_4 (m : MethodId) (xa : Addr) (p1 : Int32) (p2 : Int32) : entryFrame m #[(.ref xa), (.int p1), (.int p2)] 3 = mkF m 0 #[.val (.ref xa), .val (.int p1), .val (.int p2)] [] := by first | (simp [entryFrame, mkF, argsToLocals, Value.category]; done) | rfl
def Q4 (Z : State) (xa : Addr) (p1 : Int32) (p2 : Int32) (y0 : Addr) (y1 : Addr) (k0 : ClassId) (k1 : ClassId) (n1 : Int32) (n2 : Int32) (vs1 : List Value) (vs2 : List Value) (r : Int32) (h0 : Heap) (n0 : Nat) (v : Option Value) (h : Heap) (L : List Loc) : Prop := v = some (.int r) ∧ Fr n0 L ∧ h = h0
set_option maxRecDepth 65536 in
set_option maxHeartbeats 40000000 in
theorem rm4 (l : Launch) (Z : State) (a0 : Array Value) (hw : ∀ d ∈ tables_1, d.before a0 Z = true) (ws : List Jvm.Cond) (xa : Addr) (p1 : Int32) (p2 : Int32) (y0 : Addr) (y1 : Addr) (k0 : ClassId) (k1 : ClassId) (n1 : Int32) (n2 : Int32) (vs1 : List Value) (vs2 : List Value) (r : Int32) (h0 : Heap) (n0 : Nat) (Z0 : n0 ≤ h0.size) (f0_xa_classStarts : Fld Z h0 xa "com/example/parsewright/parsewright/generator/ScannerAutomaton" "classStarts" "[I" (.ref y0)) (f1_xa_transitions : Fld Z h0 xa "com/example/parsewright/parsewright/generator/ScannerAutomaton" "transitions" "[I" (.ref y1)) (f2_y0 : Arv Z h0 y0 k0 .int n1 vs1 (.int (0 : Int32))) (f3_y1 : Arv Z h0 y1 k1 .int n2 vs2 (.int (0 : Int32))) (hbd : ¬ ((p1 * n1) + p2) < 0 ∧ ((p1 * n1) + p2) < n2) (hat : vs2.getD ((p1 * n1) + p2).toNatClampNeg (.int (0 : Int32)) = (.int r)) :
    MetFree l (⟨"com/example/parsewright/parsewright/generator/ScannerAutomaton", "next", "(II)I"⟩ : MethodName) (head1 (Jvm.Cond.code (⟨"com/example/parsewright/parsewright/generator/ScannerAutomaton", "next", "(II)I"⟩ : MethodName) prog_47_method_5_code 3 (some .int) :: ws) ({ frames := 0, cells := 0, slots := 0, locals := 0 } : Room)) (fun a U => a = #[(.ref xa), (.int p1), (.int p2)] ∧ Z.Warmed39 U.vm ∧ U.heap = h0) (fun _ _ _ _ _ => True) (fun _ U o U' => ∃ v L, o = .returned v ∧ Q4 Z xa p1 p2 y0 y1 k0 k1 n1 n2 vs1 vs2 r h0 n0 v U'.heap L ∧ FrameEnd U o U' L 0 0) := by
  refine MetFree.of_bodySF (plainFor_of_name pn_23) hisR ?_
  intro p e s m args below meth c s₁ Bd hml0 hP hK
  obtain ⟨rfl, hZ, hh⟩ := hP
  have hx := Bd.exec
  have hby := Bd.bytes
  have hml : c.maxLocals = 3 := hml0
  have hown : s.vm.findClass "com/example/parsewright/parsewright/generator/ScannerAutomaton" = some m.cls := findClass_of_methodNamed Bd.named
  have hnm := (name_of_methodNamed Bd.named Bd.method).1
  have X0 : Stand p l e ({ frames := 0, cells := 0, slots := 0, locals := 0 } : Room) s m #[(.ref xa), (.int p1), (.int p2)] below meth c s₁ [] 0 0 := Stand.of_body Bd
  have e0 : s₁.heap = h0 := by rw [← hh, Bd.state]; rfl
  have N0 := Fr.nil n0
  refine own_start (Q := fun v h L => Q4 Z xa p1 p2 y0 y1 k0 k1 n1 n2 vs1 vs2 r h0 n0 v h L) ?_
  refine Goes.via (S' := (s₁.setTop (mkF m 0 #[.val (.ref xa), .val (.int p1), .val (.int p2)] []))) (fun t k => castTop (ef_4 m xa p1 p2) k) ?_
  refine Goes.via (S' := (s₁.setTop (mkF m 1 #[.val (.ref xa), .val (.int p1), .val (.int p2)] [(.ref xa)]))) (fun t k => XS.aloadN X0.here hx rfl (hb hby d4_0) rfl rfl k) ?_
  obtain ⟨T1, X1, e1, st1⟩ := getF X0 hx hZ hown (host := "") (Or.inl (hw _ (List.mem_of_getElem? (i := 16) rfl))) Via.refl e0 f1_xa_transitions (g := (mkF m 1 #[.val (.ref xa), .val (.int p1), .val (.int p2)] [(.ref xa)])) rfl rfl (hb hby d4_1)
  refine Goes.via (S' := (T1.setTop (mkF m 4 #[.val (.ref xa), .val (.int p1), .val (.int p2)] [(.ref y1)]))) (fun t k => st1 _ k) ?_
  refine Goes.via (S' := (T1.setTop (mkF m 5 #[.val (.ref xa), .val (.int p1), .val (.int p2)] [(.int p1), (.ref y1)]))) (fun t k => XS.iloadN X1.here hx rfl (hb hby d4_4) rfl k) ?_
  refine Goes.via (S' := (T1.setTop (mkF m 6 #[.val (.ref xa), .val (.int p1), .val (.int p2)] [(.ref xa), (.int p1), (.ref y1)]))) (fun t k => XS.aloadN X1.here hx rfl (hb hby d4_5) rfl rfl k) ?_
  obtain ⟨T2, X2, e2, st2⟩ := getF X1 hx hZ hown (host := "") (Or.inl (hw _ (List.mem_of_getElem? (i := 14) rfl))) Via.refl e1 f0_xa_classStarts (g := (mkF m 6 #[.val (.ref xa), .val (.int p1), .val (.int p2)] [(.ref xa), (.int p1), (.ref y1)])) rfl rfl (hb hby d4_6)
  refine Goes.via (S' := (T2.setTop (mkF m 9 #[.val (.ref xa), .val (.int p1), .val (.int p2)] [(.ref y0), (.int p1), (.ref y1)]))) (fun t k => st2 _ k) ?_
  obtain ⟨cl3, Ar3, q3, S3, M3, Hs3, G3⟩ := id f2_y0
  refine Goes.via (S' := (T2.setTop (mkF m 10 #[.val (.ref xa), .val (.int p1), .val (.int p2)] [(.int n1), (.int p1), (.ref y1)]))) (fun t k => X2.arraylength hx (by rw [e2]; exact Ar3.1) (State.isArrayOf_alike hZ.alike Ar3.2.1) (g := (mkF m 9 #[.val (.ref xa), .val (.int p1), .val (.int p2)] [(.ref y0), (.int p1), (.ref y1)])) rfl rfl (hb hby d4_9) _ (by rw [len_of S3 M3]; exact k)) ?_
  refine Goes.via (S' := (T2.setTop (mkF m 11 #[.val (.ref xa), .val (.int p1), .val (.int p2)] [(.int (p1 * n1)), (.ref y1)]))) (fun t k => XS.imul X2.here hx rfl (hb hby d4_10) rfl k) ?_
  refine Goes.via (S' := (T2.setTop (mkF m 12 #[.val (.ref xa), .val (.int p1), .val (.int p2)] [(.int p2), (.int (p1 * n1)), (.ref y1)]))) (fun t k => XS.iloadN X2.here hx rfl (hb hby d4_11) rfl k) ?_
  refine Goes.via (S' := (T2.setTop (mkF m 13 #[.val (.ref xa), .val (.int p1), .val (.int p2)] [(.int ((p1 * n1) + p2)), (.ref y1)]))) (fun t k => XS.iadd X2.here hx rfl (hb hby d4_12) rfl k) ?_
  obtain ⟨cl4, Ar4, q4, S4, M4, Hs4, G4⟩ := id f3_y1
  have hin4 : ¬ (((p1 * n1) + p2) < 0 ∨ cl4.slots.size ≤ (((p1 * n1) + p2)).toNatClampNeg) := inb_of S4 hbd
  have hat4 : cl4.slots[(((p1 * n1) + p2)).toNatClampNeg]? = some (.int r) := Has.at Hs4 hin4 hat
  refine Goes.via (S' := (T2.setTop (mkF m 14 #[.val (.ref xa), .val (.int p1), .val (.int p2)] [(.int r)]))) (fun t k => X2.iaload hx (j := ((p1 * n1) + p2)) (v := (.int r)) (by rw [e2]; exact Ar4.1) (State.isArrayOf_alike hZ.alike Ar4.2.1) Ar4.2.2 hin4 hat4 (g := (mkF m 13 #[.val (.ref xa), .val (.int p1), .val (.int p2)] [(.int ((p1 * n1) + p2)), (.ref y1)])) rfl rfl (hb hby d4_13) _ k) ?_
  exact own_ret X2 hx Bd.notSynchronized Bd.returns rfl (Or.inl ⟨rfl, by simp, _, rfl⟩) (hb hby d4_14) e2 ⟨rfl, N0, rfl⟩ (by decide) (by decide)
theorem ef_0 (m : MethodId) (p0 : Int32) (p1 : Int32) (p2 : Int32) (p3 : Int32) : entryFrame m #[(.int p0), (.int p1), (.int p2), (.int p3)] maxLocals = mkF m 0 #[.val (.int p0), .val (.int p1), .val (.int p2), .val (.int p3), .unset, .unset, .unset, .unset, .unset, .unset, .unset, .unset] [] := by first | (simp [entryFrame, mkF, argsToLocals, Value.category, maxLocals]; done) | rfl
def Q0 (Z : State) (p0 : Int32) (p1 : Int32) (p2 : Int32) (p3 : Int32) (h0 : Heap) (n0 : Nat) (v : Option Value) (h : Heap) (L : List Loc) : Prop := v = some (.int 1) ∧ Fr n0 L
set_option maxRecDepth 65536 in
set_option maxHeartbeats 40000000 in
theorem rm0 (l : Launch) (Z : State) (a0 : Array Value) (hw : ∀ d ∈ tables_1, d.before a0 Z = true) (ws : List Jvm.Cond) (p0 : Int32) (p1 : Int32) (p2 : Int32) (p3 : Int32) (h0 : Heap) (n0 : Nat) (Z0 : n0 ≤ h0.size) :
    MetFree l x (head1 (Jvm.Cond.code x code maxLocals ret :: ws) room_1) (fun a U => a = #[(.int p0), (.int p1), (.int p2), (.int p3)] ∧ Z.Warmed39 U.vm ∧ U.heap = h0) (fun _ _ _ _ _ => True) (fun _ U o U' => ∃ v L, o = .returned v ∧ Q0 Z p0 p1 p2 p3 h0 n0 v U'.heap L ∧ FrameEnd U o U' L 16 128) := by
  refine MetFree.of_bodySF (plainFor_of_name pn_10) hisR ?_
  intro p e s m args below meth c s₁ Bd hml0 hP hK
  obtain ⟨rfl, hZ, hh⟩ := hP
  have hx := Bd.exec
  have hby := Bd.bytes
  have hml : c.maxLocals = 12 := hml0
  have hown : s.vm.findClass "com/example/parsewright/parsewright/generator/ScannerAutomatonNextPinLaw" = some m.cls := findClass_of_methodNamed Bd.named
  have hnm := (name_of_methodNamed Bd.named Bd.method).1
  have X0 : Stand p l e room_1 s m #[(.int p0), (.int p1), (.int p2), (.int p3)] below meth c s₁ [] 0 0 := Stand.of_body Bd
  have e0 : s₁.heap = h0 := by rw [← hh, Bd.state]; rfl
  have N0 := Fr.nil n0
  refine own_start (Q := fun v h L => Q0 Z p0 p1 p2 p3 h0 n0 v h L) ?_
  refine Goes.via (S' := (s₁.setTop (mkF m 0 #[.val (.int p0), .val (.int p1), .val (.int p2), .val (.int p3), .unset, .unset, .unset, .unset, .unset, .unset, .unset, .unset] []))) (fun t k => castTop (ef_0 m p0 p1 p2 p3) k) ?_
  refine Goes.via (S' := (s₁.setTop (mkF m 1 #[.val (.int p0), .val (.int p1), .val (.int p2), .val (.int p3), .unset, .unset, .unset, .unset, .unset, .unset, .unset, .unset] [(.int (1 : Int32))]))) (fun t k => XS.iconst X0.here hx rfl (hb hby at_0) k) ?_
  refine Goes.via (S' := (s₁.setTop (mkF m 2 #[.val (.int p0), .val (.int p1), .val (.int p2), .val (.int p3), .unset, .unset, .unset, .unset, .unset, .unset, .unset, .unset] [(.int p3), (.int (1 : Int32))]))) (fun t k => XS.iloadN X0.here hx rfl (hb hby at_1) rfl k) ?_
  refine Goes.via (S' := (s₁.setTop (mkF m 3 #[.val (.int p0), .val (.int p1), .val (.int p2), .val (.int p3), .unset, .unset, .unset, .unset, .unset, .unset, .unset, .unset] [(.int (3 : Int32)), (.int p3), (.int (1 : Int32))]))) (fun t k => XS.iconst X0.here hx rfl (hb hby at_2) k) ?_
  refine Goes.via (S' := (s₁.setTop (mkF m 4 #[.val (.int p0), .val (.int p1), .val (.int p2), .val (.int p3), .unset, .unset, .unset, .unset, .unset, .unset, .unset, .unset] [(.int (p3 &&& (3 : Int32))), (.int (1 : Int32))]))) (fun t k => XS.iand X0.here hx rfl (hb hby at_3) rfl k) ?_
  refine Goes.via (S' := (s₁.setTop (mkF m 5 #[.val (.int p0), .val (.int p1), .val (.int p2), .val (.int p3), .unset, .unset, .unset, .unset, .unset, .unset, .unset, .unset] [(.int ((1 : Int32) + (p3 &&& (3 : Int32))))]))) (fun t k => XS.iadd X0.here hx rfl (hb hby at_4) rfl k) ?_
  refine Goes.via (S' := (s₁.setTop (mkF m 7 #[.val (.int p0), .val (.int p1), .val (.int p2), .val (.int p3), .val (.int ((1 : Int32) + (p3 &&& (3 : Int32)))), .unset, .unset, .unset, .unset, .unset, .unset, .unset] []))) (fun t k => XS.istore X0.here hx rfl (hb hby at_5) rfl (l' := #[.val (.int p0), .val (.int p1), .val (.int p2), .val (.int p3), .val (.int ((1 : Int32) + (p3 &&& (3 : Int32)))), .unset, .unset, .unset, .unset, .unset, .unset, .unset]) rfl k) ?_
  obtain ⟨kk, h_kk⟩ : ∃ z : Int32, z = ((1 : Int32) + (p3 &&& (3 : Int32))) := ⟨_, rfl⟩
  rw [← h_kk]
  refine Goes.via (S' := (s₁.setTop (mkF m 8 #[.val (.int p0), .val (.int p1), .val (.int p2), .val (.int p3), .val (.int kk), .unset, .unset, .unset, .unset, .unset, .unset, .unset] [(.int p3)]))) (fun t k => XS.iloadN X0.here hx rfl (hb hby at_7) rfl k) ?_
  refine Goes.via (S' := (s₁.setTop (mkF m 9 #[.val (.int p0), .val (.int p1), .val (.int p2), .val (.int p3), .val (.int kk), .unset, .unset, .unset, .unset, .unset, .unset, .unset] [(.int (2 : Int32)), (.int p3)]))) (fun t k => XS.iconst X0.here hx rfl (hb hby at_8) k) ?_
  refine Goes.via (S' := (s₁.setTop (mkF m 10 #[.val (.int p0), .val (.int p1), .val (.int p2), .val (.int p3), .val (.int kk), .unset, .unset, .unset, .unset, .unset, .unset, .unset] [(.int ((p3.toUInt32 >>> ((2 : Int32) &&& 31).toUInt32).toInt32))]))) (fun t k => XS.iushr X0.here hx rfl (hb hby at_9) rfl k) ?_
  refine Goes.via (S' := (s₁.setTop (mkF m 11 #[.val (.int p0), .val (.int p1), .val (.int p2), .val (.int p3), .val (.int kk), .unset, .unset, .unset, .unset, .unset, .unset, .unset] [(.int (3 : Int32)), (.int ((p3.toUInt32 >>> ((2 : Int32) &&& 31).toUInt32).toInt32))]))) (fun t k => XS.iconst X0.here hx rfl (hb hby at_10) k) ?_
  refine Goes.via (S' := (s₁.setTop (mkF m 12 #[.val (.int p0), .val (.int p1), .val (.int p2), .val (.int p3), .val (.int kk), .unset, .unset, .unset, .unset, .unset, .unset, .unset] [(.int (((p3.toUInt32 >>> ((2 : Int32) &&& 31).toUInt32).toInt32) % (3 : Int32)))]))) (fun t k => iremM X0 hx rfl (hb hby at_11) rfl (by decide) k) ?_
  refine Goes.via (S' := (s₁.setTop (mkF m 14 #[.val (.int p0), .val (.int p1), .val (.int p2), .val (.int p3), .val (.int kk), .val (.int (((p3.toUInt32 >>> ((2 : Int32) &&& 31).toUInt32).toInt32) % (3 : Int32))), .unset, .unset, .unset, .unset, .unset, .unset] []))) (fun t k => XS.istore X0.here hx rfl (hb hby at_12) rfl (l' := #[.val (.int p0), .val (.int p1), .val (.int p2), .val (.int p3), .val (.int kk), .val (.int (((p3.toUInt32 >>> ((2 : Int32) &&& 31).toUInt32).toInt32) % (3 : Int32))), .unset, .unset, .unset, .unset, .unset, .unset]) rfl k) ?_
  obtain ⟨ss, h_ss⟩ : ∃ z : Int32, z = (((p3.toUInt32 >>> ((2 : Int32) &&& 31).toUInt32).toInt32) % (3 : Int32)) := ⟨_, rfl⟩
  rw [← h_ss]
  refine Goes.via (S' := (s₁.setTop (mkF m 15 #[.val (.int p0), .val (.int p1), .val (.int p2), .val (.int p3), .val (.int kk), .val (.int ss), .unset, .unset, .unset, .unset, .unset, .unset] [(.int p3)]))) (fun t k => XS.iloadN X0.here hx rfl (hb hby at_14) rfl k) ?_
  refine Goes.via (S' := (s₁.setTop (mkF m 16 #[.val (.int p0), .val (.int p1), .val (.int p2), .val (.int p3), .val (.int kk), .val (.int ss), .unset, .unset, .unset, .unset, .unset, .unset] [(.int (4 : Int32)), (.int p3)]))) (fun t k => XS.iconst X0.here hx rfl (hb hby at_15) k) ?_
  refine Goes.via (S' := (s₁.setTop (mkF m 17 #[.val (.int p0), .val (.int p1), .val (.int p2), .val (.int p3), .val (.int kk), .val (.int ss), .unset, .unset, .unset, .unset, .unset, .unset] [(.int ((p3.toUInt32 >>> ((4 : Int32) &&& 31).toUInt32).toInt32))]))) (fun t k => XS.iushr X0.here hx rfl (hb hby at_16) rfl k) ?_
  refine Goes.via (S' := (s₁.setTop (mkF m 19 #[.val (.int p0), .val (.int p1), .val (.int p2), .val (.int p3), .val (.int kk), .val (.int ss), .unset, .unset, .unset, .unset, .unset, .unset] [(.int kk), (.int ((p3.toUInt32 >>> ((4 : Int32) &&& 31).toUInt32).toInt32))]))) (fun t k => XS.iload X0.here hx rfl (hb hby at_17) rfl k) ?_
  refine Goes.via (S' := (s₁.setTop (mkF m 20 #[.val (.int p0), .val (.int p1), .val (.int p2), .val (.int p3), .val (.int kk), .val (.int ss), .unset, .unset, .unset, .unset, .unset, .unset] [(.int (((p3.toUInt32 >>> ((4 : Int32) &&& 31).toUInt32).toInt32) % kk))]))) (fun t k => iremM X0 hx rfl (hb hby at_19) rfl (own_k0 h_kk) k) ?_
  refine Goes.via (S' := (s₁.setTop (mkF m 22 #[.val (.int p0), .val (.int p1), .val (.int p2), .val (.int p3), .val (.int kk), .val (.int ss), .val (.int (((p3.toUInt32 >>> ((4 : Int32) &&& 31).toUInt32).toInt32) % kk)), .unset, .unset, .unset, .unset, .unset] []))) (fun t k => XS.istore X0.here hx rfl (hb hby at_20) rfl (l' := #[.val (.int p0), .val (.int p1), .val (.int p2), .val (.int p3), .val (.int kk), .val (.int ss), .val (.int (((p3.toUInt32 >>> ((4 : Int32) &&& 31).toUInt32).toInt32) % kk)), .unset, .unset, .unset, .unset, .unset]) rfl k) ?_
  obtain ⟨cc, h_cc⟩ : ∃ z : Int32, z = (((p3.toUInt32 >>> ((4 : Int32) &&& 31).toUInt32).toInt32) % kk) := ⟨_, rfl⟩
  rw [← h_cc]
  refine Goes.via (S' := (s₁.setTop (mkF m 24 #[.val (.int p0), .val (.int p1), .val (.int p2), .val (.int p3), .val (.int kk), .val (.int ss), .val (.int cc), .unset, .unset, .unset, .unset, .unset] [(.int kk)]))) (fun t k => XS.iload X0.here hx rfl (hb hby at_22) rfl k) ?_
  refine Goes.via (S' := (s₁.setTop (mkF m 25 #[.val (.int p0), .val (.int p1), .val (.int p2), .val (.int p3), .val (.int kk), .val (.int ss), .val (.int cc), .unset, .unset, .unset, .unset, .unset] [(.int (1 : Int32)), (.int kk)]))) (fun t k => XS.iconst X0.here hx rfl (hb hby at_24) k) ?_
  by_cases hc1 : (kk = (1 : Int32))
  · refine Goes.via (S' := (s₁.setTop (mkF m 28 #[.val (.int p0), .val (.int p1), .val (.int p2), .val (.int p3), .val (.int kk), .val (.int ss), .val (.int cc), .unset, .unset, .unset, .unset, .unset] []))) (fun t k => XS.icmpNo X0.here hx rfl (hb hby at_25) rfl (teq hc1).2 k) ?_
    refine Goes.via (S' := (s₁.setTop (mkF m 29 #[.val (.int p0), .val (.int p1), .val (.int p2), .val (.int p3), .val (.int kk), .val (.int ss), .val (.int cc), .unset, .unset, .unset, .unset, .unset] [(.int (1 : Int32))]))) (fun t k => XS.iconst X0.here hx rfl (hb hby at_28) k) ?_
    obtain ⟨T2, h2, k2, X2, e2, E2, A2, st2⟩ := newP X0 hx hZ (hw _ (List.mem_of_getElem? (i := 0) rfl)) e0 (g := (mkF m 29 #[.val (.int p0), .val (.int p1), .val (.int p2), .val (.int p3), .val (.int kk), .val (.int ss), .val (.int cc), .unset, .unset, .unset, .unset, .unset] [(.int (1 : Int32))])) rfl (hb hby at_29) rfl (by decide) (cap := 1) (by decide) (by decide) (by decide) (by decide)
    obtain ⟨b2, g2⟩ : ∃ z, z = h0.size := ⟨_, rfl⟩
    rw [← g2] at A2 st2
    have K2 : Keep h0 h2 [] := Keep.ext (Keep.refl h0 []) E2
    have Z2 : n0 ≤ h2.size := Nat.le_trans Z0 K2.1
    have g_b2 : n0 ≤ b2 := Nat.le_trans Z0 (Nat.le_of_eq g2.symm)
    have sz_b2 : h0.size ≤ b2 := Nat.le_trans ((Keep.refl h0 [])).1 (Nat.le_of_eq g2.symm)
    have f3 : Arv Z h2 b2 k2 .int (1 : Int32) [(.int (0 : Int32))] (.int (0 : Int32)) := (Arv.new A2 (by decide)).pad (pad_rep [] (.int (0 : Int32)) 1)
    refine Goes.via (S' := (T2.setTop (mkF m 31 #[.val (.int p0), .val (.int p1), .val (.int p2), .val (.int p3), .val (.int kk), .val (.int ss), .val (.int cc), .unset, .unset, .unset, .unset, .unset] [(.ref b2)]))) (fun t k => st2 _ k) ?_
    refine Goes.via (S' := (T2.setTop (mkF m 32 #[.val (.int p0), .val (.int p1), .val (.int p2), .val (.int p3), .val (.int kk), .val (.int ss), .val (.int cc), .unset, .unset, .unset, .unset, .unset] [(.ref b2), (.ref b2)]))) (fun t k => XS.dup X2.here hx rfl (hb hby at_31) rfl rfl k) ?_
    refine Goes.via (S' := (T2.setTop (mkF m 33 #[.val (.int p0), .val (.int p1), .val (.int p2), .val (.int p3), .val (.int kk), .val (.int ss), .val (.int cc), .unset, .unset, .unset, .unset, .unset] [(.int (0 : Int32)), (.ref b2), (.ref b2)]))) (fun t k => XS.iconst X2.here hx rfl (hb hby at_32) k) ?_
    refine Goes.via (S' := (T2.setTop (mkF m 34 #[.val (.int p0), .val (.int p1), .val (.int p2), .val (.int p3), .val (.int kk), .val (.int ss), .val (.int cc), .unset, .unset, .unset, .unset, .unset] [(.int (0 : Int32)), (.int (0 : Int32)), (.ref b2), (.ref b2)]))) (fun t k => XS.iconst X2.here hx rfl (hb hby at_33) k) ?_
    obtain ⟨cl4, Ar4, q4, S4, M4, Hs4, G4⟩ := id f3
    have hin4 : ¬ ((0 : Int32) < 0 ∨ cl4.slots.size ≤ ((0 : Int32)).toNatClampNeg) := inb_of S4 ⟨by decide, by decide⟩
    obtain ⟨T4, h4, X4, e4, W4, st4⟩ := stI X2 hx hZ e2 Ar4 (j := (0 : Int32)) hin4 (g := (mkF m 34 #[.val (.int p0), .val (.int p1), .val (.int p2), .val (.int p3), .val (.int kk), .val (.int ss), .val (.int cc), .unset, .unset, .unset, .unset, .unset] [(.int (0 : Int32)), (.int (0 : Int32)), (.ref b2), (.ref b2)])) rfl rfl (hb hby at_34)
    have f5 : Arv Z h4 b2 k2 .int (1 : Int32) [(.int (0 : Int32))] (.int (0 : Int32)) := Arv.set Ar4 q4 S4 M4 Hs4 G4 rfl W4 0 rfl (Nat.le_of_ble_eq_true rfl)
    have K4 : Keep h0 h4 [] := Keep.wr K2 W4 (Or.inr sz_b2)
    have Z4 : n0 ≤ h4.size := Nat.le_trans Z0 K4.1
    have N4 := Fr.snoc X4 N0 g_b2
    refine Goes.via (S' := (T4.setTop (mkF m 35 #[.val (.int p0), .val (.int p1), .val (.int p2), .val (.int p3), .val (.int kk), .val (.int ss), .val (.int cc), .unset, .unset, .unset, .unset, .unset] [(.ref b2)]))) (fun t k => st4 _ k) ?_
    refine Goes.via (S' := (T4.setTop (mkF m 37 #[.val (.int p0), .val (.int p1), .val (.int p2), .val (.int p3), .val (.int kk), .val (.int ss), .val (.int cc), .val (.ref b2), .unset, .unset, .unset, .unset] []))) (fun t k => XS.astore X4.here hx rfl (hb hby at_35) rfl rfl (l' := #[.val (.int p0), .val (.int p1), .val (.int p2), .val (.int p3), .val (.int kk), .val (.int ss), .val (.int cc), .val (.ref b2), .unset, .unset, .unset, .unset]) rfl k) ?_
    refine Goes.via (S' := (T4.setTop (mkF m 38 #[.val (.int p0), .val (.int p1), .val (.int p2), .val (.int p3), .val (.int kk), .val (.int ss), .val (.int cc), .val (.ref b2), .unset, .unset, .unset, .unset] [(.int (3 : Int32))]))) (fun t k => XS.iconst X4.here hx rfl (hb hby at_37) k) ?_
    obtain ⟨T6, h6, k6, X6, e6, E6, A6, st6⟩ := newP X4 hx hZ (hw _ (List.mem_of_getElem? (i := 0) rfl)) e4 (g := (mkF m 38 #[.val (.int p0), .val (.int p1), .val (.int p2), .val (.int p3), .val (.int kk), .val (.int ss), .val (.int cc), .val (.ref b2), .unset, .unset, .unset, .unset] [(.int (3 : Int32))])) rfl (hb hby at_38) rfl (by decide) (cap := 3) (by decide) (by decide) (by decide) (by decide)
    obtain ⟨b6, g6⟩ : ∃ z, z = h4.size := ⟨_, rfl⟩
    rw [← g6] at A6 st6
    have f7 : Arv Z h6 b2 k2 .int (1 : Int32) [(.int (0 : Int32))] (.int (0 : Int32)) := f5.ext E6
    have K6 : Keep h0 h6 [] := Keep.ext K4 E6
    have Z6 : n0 ≤ h6.size := Nat.le_trans Z0 K6.1
    have g_b6 : n0 ≤ b6 := Nat.le_trans Z4 (Nat.le_of_eq g6.symm)
    have sz_b6 : h0.size ≤ b6 := Nat.le_trans (K4).1 (Nat.le_of_eq g6.symm)
    have ne_b2_b6 : b2 ≠ b6 := Nat.ne_of_lt (Nat.lt_of_lt_of_le f5.lt (Nat.le_of_eq g6.symm))
    have f8 : Arv Z h6 b6 k6 .int (3 : Int32) [(.int (0 : Int32)), (.int (0 : Int32)), (.int (0 : Int32))] (.int (0 : Int32)) := (Arv.new A6 (by decide)).pad (pad_rep [] (.int (0 : Int32)) 3)
    refine Goes.via (S' := (T6.setTop (mkF m 40 #[.val (.int p0), .val (.int p1), .val (.int p2), .val (.int p3), .val (.int kk), .val (.int ss), .val (.int cc), .val (.ref b2), .unset, .unset, .unset, .unset] [(.ref b6)]))) (fun t k => st6 _ k) ?_
    refine Goes.via (S' := (T6.setTop (mkF m 41 #[.val (.int p0), .val (.int p1), .val (.int p2), .val (.int p3), .val (.int kk), .val (.int ss), .val (.int cc), .val (.ref b2), .unset, .unset, .unset, .unset] [(.ref b6), (.ref b6)]))) (fun t k => XS.dup X6.here hx rfl (hb hby at_40) rfl rfl k) ?_
    refine Goes.via (S' := (T6.setTop (mkF m 42 #[.val (.int p0), .val (.int p1), .val (.int p2), .val (.int p3), .val (.int kk), .val (.int ss), .val (.int cc), .val (.ref b2), .unset, .unset, .unset, .unset] [(.int (0 : Int32)), (.ref b6), (.ref b6)]))) (fun t k => XS.iconst X6.here hx rfl (hb hby at_41) k) ?_
    refine Goes.via (S' := (T6.setTop (mkF m 43 #[.val (.int p0), .val (.int p1), .val (.int p2), .val (.int p3), .val (.int kk), .val (.int ss), .val (.int cc), .val (.ref b2), .unset, .unset, .unset, .unset] [(.int p0), (.int (0 : Int32)), (.ref b6), (.ref b6)]))) (fun t k => XS.iloadN X6.here hx rfl (hb hby at_42) rfl k) ?_
    refine Goes.via (S' := (T6.setTop (mkF m 44 #[.val (.int p0), .val (.int p1), .val (.int p2), .val (.int p3), .val (.int kk), .val (.int ss), .val (.int cc), .val (.ref b2), .unset, .unset, .unset, .unset] [(.int (0 : Int32)), (.int p0), (.int (0 : Int32)), (.ref b6), (.ref b6)]))) (fun t k => XS.iconst X6.here hx rfl (hb hby at_43) k) ?_
    obtain ⟨_, _, ⟨T9, L9, k9, n9⟩, -, X9, ⟨Lc9, hQ9, l9, y9, z9⟩, st9⟩ := Jvm.LawKit.callS X6 hx (y := (⟨"com/example/parsewright/parsewright/generator/ScannerAutomatonNextPinLaw", "e", "(II)I"⟩ : MethodName)) hown (mvT hZ (hw _ (List.mem_of_getElem? (i := 1) rfl))) (mvT hZ (hw _ (List.mem_of_getElem? (i := 2) rfl))) (mvT hZ (hw _ (List.mem_of_getElem? (i := 3) rfl))) (mvT hZ (hw _ (List.mem_of_getElem? (i := 4) rfl))) (by decide) (backOf (W := 3) (rm1 l Z a0 hw [] p0 (0 : Int32) h6 n0 Z6 ) hZ (hw _ (List.mem_of_getElem? (i := 4) rfl)) (hw _ (List.mem_of_getElem? (i := 3) rfl)) (by decide) (by decide)) (g := (mkF m 44 #[.val (.int p0), .val (.int p1), .val (.int p2), .val (.int p3), .val (.int kk), .val (.int ss), .val (.int cc), .val (.ref b2), .unset, .unset, .unset, .unset] [(.int (0 : Int32)), (.int p0), (.int (0 : Int32)), (.ref b6), (.ref b6)])) rfl (by rw [hml]; rfl) (argsL := [(.int p0), (.int (0 : Int32))]) (rest := [(.int (0 : Int32)), (.ref b6), (.ref b6)]) (lenOf pd_0 rfl) rfl (by show 2 * 0 + _ ≤ _; exact Nat.le_of_eq rfl) (hb hby at_44) (fun _ _ => ⟨rfl, e6, (by decide : 2 + 0 ≤ _), (by decide : 4 + 0 ≤ _)⟩)
    dsimp only [Pt.U, Pt.locs, Pt.cells, Pt.slots] at X9 l9 y9 z9 st9 hQ9
    replace X9 := own_cast X9 l9 y9 z9
    obtain ⟨rfl, N9q, eq9⟩ := hQ9
    have N9 := Fr.app N4 N9q
    refine Goes.via (S' := (T9.setTop (mkF m 47 #[.val (.int p0), .val (.int p1), .val (.int p2), .val (.int p3), .val (.int kk), .val (.int ss), .val (.int cc), .val (.ref b2), .unset, .unset, .unset, .unset] [(.int (own_e p0 (0 : Int32))), (.int (0 : Int32)), (.ref b6), (.ref b6)]))) (fun t k => st9 _ k) ?_
    obtain ⟨cl10, Ar10, q10, S10, M10, Hs10, G10⟩ := id f8
    have hin10 : ¬ ((0 : Int32) < 0 ∨ cl10.slots.size ≤ ((0 : Int32)).toNatClampNeg) := inb_of S10 ⟨by decide, by decide⟩
    obtain ⟨T10, h10, X10, e10, W10, st10⟩ := stI X9 hx hZ eq9 Ar10 (j := (0 : Int32)) hin10 (g := (mkF m 47 #[.val (.int p0), .val (.int p1), .val (.int p2), .val (.int p3), .val (.int kk), .val (.int ss), .val (.int cc), .val (.ref b2), .unset, .unset, .unset, .unset] [(.int (own_e p0 (0 : Int32))), (.int (0 : Int32)), (.ref b6), (.ref b6)])) rfl rfl (hb hby at_47)
    have f11 : Arv Z h10 b2 k2 .int (1 : Int32) [(.int (0 : Int32))] (.int (0 : Int32)) := f7.other W10 ne_b2_b6
    have f12 : Arv Z h10 b6 k6 .int (3 : Int32) [(.int (own_e p0 (0 : Int32))), (.int (0 : Int32)), (.int (0 : Int32))] (.int (0 : Int32)) := Arv.set Ar10 q10 S10 M10 Hs10 G10 rfl W10 0 rfl (Nat.le_of_ble_eq_true rfl)
    have K10 : Keep h0 h10 [] := Keep.wr K6 W10 (Or.inr sz_b6)
    have Z10 : n0 ≤ h10.size := Nat.le_trans Z0 K10.1
    have N10 := Fr.snoc X10 N9 g_b6
    refine Goes.via (S' := (T10.setTop (mkF m 48 #[.val (.int p0), .val (.int p1), .val (.int p2), .val (.int p3), .val (.int kk), .val (.int ss), .val (.int cc), .val (.ref b2), .unset, .unset, .unset, .unset] [(.ref b6)]))) (fun t k => st10 _ k) ?_
    refine Goes.via (S' := (T10.setTop (mkF m 49 #[.val (.int p0), .val (.int p1), .val (.int p2), .val (.int p3), .val (.int kk), .val (.int ss), .val (.int cc), .val (.ref b2), .unset, .unset, .unset, .unset] [(.ref b6), (.ref b6)]))) (fun t k => XS.dup X10.here hx rfl (hb hby at_48) rfl rfl k) ?_
    refine Goes.via (S' := (T10.setTop (mkF m 50 #[.val (.int p0), .val (.int p1), .val (.int p2), .val (.int p3), .val (.int kk), .val (.int ss), .val (.int cc), .val (.ref b2), .unset, .unset, .unset, .unset] [(.int (1 : Int32)), (.ref b6), (.ref b6)]))) (fun t k => XS.iconst X10.here hx rfl (hb hby at_49) k) ?_
    refine Goes.via (S' := (T10.setTop (mkF m 51 #[.val (.int p0), .val (.int p1), .val (.int p2), .val (.int p3), .val (.int kk), .val (.int ss), .val (.int cc), .val (.ref b2), .unset, .unset, .unset, .unset] [(.int p1), (.int (1 : Int32)), (.ref b6), (.ref b6)]))) (fun t k => XS.iloadN X10.here hx rfl (hb hby at_50) rfl k) ?_
    refine Goes.via (S' := (T10.setTop (mkF m 52 #[.val (.int p0), .val (.int p1), .val (.int p2), .val (.int p3), .val (.int kk), .val (.int ss), .val (.int cc), .val (.ref b2), .unset, .unset, .unset, .unset] [(.int (0 : Int32)), (.int p1), (.int (1 : Int32)), (.ref b6), (.ref b6)]))) (fun t k => XS.iconst X10.here hx rfl (hb hby at_51) k) ?_
    obtain ⟨_, _, ⟨T13, L13, k13, n13⟩, -, X13, ⟨Lc13, hQ13, l13, y13, z13⟩, st13⟩ := Jvm.LawKit.callS X10 hx (y := (⟨"com/example/parsewright/parsewright/generator/ScannerAutomatonNextPinLaw", "e", "(II)I"⟩ : MethodName)) hown (mvT hZ (hw _ (List.mem_of_getElem? (i := 1) rfl))) (mvT hZ (hw _ (List.mem_of_getElem? (i := 2) rfl))) (mvT hZ (hw _ (List.mem_of_getElem? (i := 3) rfl))) (mvT hZ (hw _ (List.mem_of_getElem? (i := 4) rfl))) (by decide) (backOf (W := 3) (rm1 l Z a0 hw [] p1 (0 : Int32) h10 n0 Z10 ) hZ (hw _ (List.mem_of_getElem? (i := 4) rfl)) (hw _ (List.mem_of_getElem? (i := 3) rfl)) (by decide) (by decide)) (g := (mkF m 52 #[.val (.int p0), .val (.int p1), .val (.int p2), .val (.int p3), .val (.int kk), .val (.int ss), .val (.int cc), .val (.ref b2), .unset, .unset, .unset, .unset] [(.int (0 : Int32)), (.int p1), (.int (1 : Int32)), (.ref b6), (.ref b6)])) rfl (by rw [hml]; rfl) (argsL := [(.int p1), (.int (0 : Int32))]) (rest := [(.int (1 : Int32)), (.ref b6), (.ref b6)]) (lenOf pd_0 rfl) rfl (by show 2 * 0 + _ ≤ _; exact Nat.le_of_eq rfl) (hb hby at_52) (fun _ _ => ⟨rfl, e10, (by decide : 2 + 0 ≤ _), (by decide : 4 + 0 ≤ _)⟩)
    dsimp only [Pt.U, Pt.locs, Pt.cells, Pt.slots] at X13 l13 y13 z13 st13 hQ13
    replace X13 := own_cast X13 l13 y13 z13
    obtain ⟨rfl, N13q, eq13⟩ := hQ13
    have N13 := Fr.app N10 N13q
    refine Goes.via (S' := (T13.setTop (mkF m 55 #[.val (.int p0), .val (.int p1), .val (.int p2), .val (.int p3), .val (.int kk), .val (.int ss), .val (.int cc), .val (.ref b2), .unset, .unset, .unset, .unset] [(.int (own_e p1 (0 : Int32))), (.int (1 : Int32)), (.ref b6), (.ref b6)]))) (fun t k => st13 _ k) ?_
    obtain ⟨cl14, Ar14, q14, S14, M14, Hs14, G14⟩ := id f12
    have hin14 : ¬ ((1 : Int32) < 0 ∨ cl14.slots.size ≤ ((1 : Int32)).toNatClampNeg) := inb_of S14 ⟨by decide, by decide⟩
    obtain ⟨T14, h14, X14, e14, W14, st14⟩ := stI X13 hx hZ eq13 Ar14 (j := (1 : Int32)) hin14 (g := (mkF m 55 #[.val (.int p0), .val (.int p1), .val (.int p2), .val (.int p3), .val (.int kk), .val (.int ss), .val (.int cc), .val (.ref b2), .unset, .unset, .unset, .unset] [(.int (own_e p1 (0 : Int32))), (.int (1 : Int32)), (.ref b6), (.ref b6)])) rfl rfl (hb hby at_55)
    have f15 : Arv Z h14 b2 k2 .int (1 : Int32) [(.int (0 : Int32))] (.int (0 : Int32)) := f11.other W14 ne_b2_b6
    have f16 : Arv Z h14 b6 k6 .int (3 : Int32) [(.int (own_e p0 (0 : Int32))), (.int (own_e p1 (0 : Int32))), (.int (0 : Int32))] (.int (0 : Int32)) := Arv.set Ar14 q14 S14 M14 Hs14 G14 rfl W14 1 rfl (Nat.le_of_ble_eq_true rfl)
    have K14 : Keep h0 h14 [] := Keep.wr K10 W14 (Or.inr sz_b6)
    have Z14 : n0 ≤ h14.size := Nat.le_trans Z0 K14.1
    have N14 := Fr.snoc X14 N13 g_b6
    refine Goes.via (S' := (T14.setTop (mkF m 56 #[.val (.int p0), .val (.int p1), .val (.int p2), .val (.int p3), .val (.int kk), .val (.int ss), .val (.int cc), .val (.ref b2), .unset, .unset, .unset, .unset] [(.ref b6)]))) (fun t k => st14 _ k) ?_
    refine Goes.via (S' := (T14.setTop (mkF m 57 #[.val (.int p0), .val (.int p1), .val (.int p2), .val (.int p3), .val (.int kk), .val (.int ss), .val (.int cc), .val (.ref b2), .unset, .unset, .unset, .unset] [(.ref b6), (.ref b6)]))) (fun t k => XS.dup X14.here hx rfl (hb hby at_56) rfl rfl k) ?_
    refine Goes.via (S' := (T14.setTop (mkF m 58 #[.val (.int p0), .val (.int p1), .val (.int p2), .val (.int p3), .val (.int kk), .val (.int ss), .val (.int cc), .val (.ref b2), .unset, .unset, .unset, .unset] [(.int (2 : Int32)), (.ref b6), (.ref b6)]))) (fun t k => XS.iconst X14.here hx rfl (hb hby at_57) k) ?_
    refine Goes.via (S' := (T14.setTop (mkF m 59 #[.val (.int p0), .val (.int p1), .val (.int p2), .val (.int p3), .val (.int kk), .val (.int ss), .val (.int cc), .val (.ref b2), .unset, .unset, .unset, .unset] [(.int p2), (.int (2 : Int32)), (.ref b6), (.ref b6)]))) (fun t k => XS.iloadN X14.here hx rfl (hb hby at_58) rfl k) ?_
    refine Goes.via (S' := (T14.setTop (mkF m 60 #[.val (.int p0), .val (.int p1), .val (.int p2), .val (.int p3), .val (.int kk), .val (.int ss), .val (.int cc), .val (.ref b2), .unset, .unset, .unset, .unset] [(.int (0 : Int32)), (.int p2), (.int (2 : Int32)), (.ref b6), (.ref b6)]))) (fun t k => XS.iconst X14.here hx rfl (hb hby at_59) k) ?_
    obtain ⟨_, _, ⟨T17, L17, k17, n17⟩, -, X17, ⟨Lc17, hQ17, l17, y17, z17⟩, st17⟩ := Jvm.LawKit.callS X14 hx (y := (⟨"com/example/parsewright/parsewright/generator/ScannerAutomatonNextPinLaw", "e", "(II)I"⟩ : MethodName)) hown (mvT hZ (hw _ (List.mem_of_getElem? (i := 1) rfl))) (mvT hZ (hw _ (List.mem_of_getElem? (i := 2) rfl))) (mvT hZ (hw _ (List.mem_of_getElem? (i := 3) rfl))) (mvT hZ (hw _ (List.mem_of_getElem? (i := 4) rfl))) (by decide) (backOf (W := 3) (rm1 l Z a0 hw [] p2 (0 : Int32) h14 n0 Z14 ) hZ (hw _ (List.mem_of_getElem? (i := 4) rfl)) (hw _ (List.mem_of_getElem? (i := 3) rfl)) (by decide) (by decide)) (g := (mkF m 60 #[.val (.int p0), .val (.int p1), .val (.int p2), .val (.int p3), .val (.int kk), .val (.int ss), .val (.int cc), .val (.ref b2), .unset, .unset, .unset, .unset] [(.int (0 : Int32)), (.int p2), (.int (2 : Int32)), (.ref b6), (.ref b6)])) rfl (by rw [hml]; rfl) (argsL := [(.int p2), (.int (0 : Int32))]) (rest := [(.int (2 : Int32)), (.ref b6), (.ref b6)]) (lenOf pd_0 rfl) rfl (by show 2 * 0 + _ ≤ _; exact Nat.le_of_eq rfl) (hb hby at_60) (fun _ _ => ⟨rfl, e14, (by decide : 2 + 0 ≤ _), (by decide : 4 + 0 ≤ _)⟩)
    dsimp only [Pt.U, Pt.locs, Pt.cells, Pt.slots] at X17 l17 y17 z17 st17 hQ17
    replace X17 := own_cast X17 l17 y17 z17
    obtain ⟨rfl, N17q, eq17⟩ := hQ17
    have N17 := Fr.app N14 N17q
    refine Goes.via (S' := (T17.setTop (mkF m 63 #[.val (.int p0), .val (.int p1), .val (.int p2), .val (.int p3), .val (.int kk), .val (.int ss), .val (.int cc), .val (.ref b2), .unset, .unset, .unset, .unset] [(.int (own_e p2 (0 : Int32))), (.int (2 : Int32)), (.ref b6), (.ref b6)]))) (fun t k => st17 _ k) ?_
    obtain ⟨cl18, Ar18, q18, S18, M18, Hs18, G18⟩ := id f16
    have hin18 : ¬ ((2 : Int32) < 0 ∨ cl18.slots.size ≤ ((2 : Int32)).toNatClampNeg) := inb_of S18 ⟨by decide, by decide⟩
    obtain ⟨T18, h18, X18, e18, W18, st18⟩ := stI X17 hx hZ eq17 Ar18 (j := (2 : Int32)) hin18 (g := (mkF m 63 #[.val (.int p0), .val (.int p1), .val (.int p2), .val (.int p3), .val (.int kk), .val (.int ss), .val (.int cc), .val (.ref b2), .unset, .unset, .unset, .unset] [(.int (own_e p2 (0 : Int32))), (.int (2 : Int32)), (.ref b6), (.ref b6)])) rfl rfl (hb hby at_63)
    have f19 : Arv Z h18 b2 k2 .int (1 : Int32) [(.int (0 : Int32))] (.int (0 : Int32)) := f15.other W18 ne_b2_b6
    have f20 : Arv Z h18 b6 k6 .int (3 : Int32) [(.int (own_e p0 (0 : Int32))), (.int (own_e p1 (0 : Int32))), (.int (own_e p2 (0 : Int32)))] (.int (0 : Int32)) := Arv.set Ar18 q18 S18 M18 Hs18 G18 rfl W18 2 rfl (Nat.le_of_ble_eq_true rfl)
    have K18 : Keep h0 h18 [] := Keep.wr K14 W18 (Or.inr sz_b6)
    have Z18 : n0 ≤ h18.size := Nat.le_trans Z0 K18.1
    have N18 := Fr.snoc X18 N17 g_b6
    refine Goes.via (S' := (T18.setTop (mkF m 64 #[.val (.int p0), .val (.int p1), .val (.int p2), .val (.int p3), .val (.int kk), .val (.int ss), .val (.int cc), .val (.ref b2), .unset, .unset, .unset, .unset] [(.ref b6)]))) (fun t k => st18 _ k) ?_
    refine Goes.via (S' := (T18.setTop (mkF m 66 #[.val (.int p0), .val (.int p1), .val (.int p2), .val (.int p3), .val (.int kk), .val (.int ss), .val (.int cc), .val (.ref b2), .val (.ref b6), .unset, .unset, .unset] []))) (fun t k => XS.astore X18.here hx rfl (hb hby at_64) rfl rfl (l' := #[.val (.int p0), .val (.int p1), .val (.int p2), .val (.int p3), .val (.int kk), .val (.int ss), .val (.int cc), .val (.ref b2), .val (.ref b6), .unset, .unset, .unset]) rfl k) ?_
    refine Goes.via (S' := (T18.setTop (mkF m 387 #[.val (.int p0), .val (.int p1), .val (.int p2), .val (.int p3), .val (.int kk), .val (.int ss), .val (.int cc), .val (.ref b2), .val (.ref b6), .unset, .unset, .unset] []))) (fun t k => XS.goto X18.here hx rfl (pc0 := 66) (pc' := 387) rfl (hb hby at_66) (by decide) (by decide) k) ?_
    refine Goes.via (S' := (T18.setTop (mkF m 388 #[.val (.int p0), .val (.int p1), .val (.int p2), .val (.int p3), .val (.int kk), .val (.int ss), .val (.int cc), .val (.ref b2), .val (.ref b6), .unset, .unset, .unset] [(.int (3 : Int32))]))) (fun t k => XS.iconst X18.here hx rfl (hb hby at_387) k) ?_
    obtain ⟨T21, h21, k21, X21, e21, E21, A21, st21⟩ := newP X18 hx hZ (hw _ (List.mem_of_getElem? (i := 0) rfl)) e18 (g := (mkF m 388 #[.val (.int p0), .val (.int p1), .val (.int p2), .val (.int p3), .val (.int kk), .val (.int ss), .val (.int cc), .val (.ref b2), .val (.ref b6), .unset, .unset, .unset] [(.int (3 : Int32))])) rfl (hb hby at_388) rfl (by decide) (cap := 3) (by decide) (by decide) (by decide) (by decide)
    obtain ⟨b21, g21⟩ : ∃ z, z = h18.size := ⟨_, rfl⟩
    rw [← g21] at A21 st21
    have f22 : Arv Z h21 b2 k2 .int (1 : Int32) [(.int (0 : Int32))] (.int (0 : Int32)) := f19.ext E21
    have f23 : Arv Z h21 b6 k6 .int (3 : Int32) [(.int (own_e p0 (0 : Int32))), (.int (own_e p1 (0 : Int32))), (.int (own_e p2 (0 : Int32)))] (.int (0 : Int32)) := f20.ext E21
    have K21 : Keep h0 h21 [] := Keep.ext K18 E21
    have Z21 : n0 ≤ h21.size := Nat.le_trans Z0 K21.1
    have g_b21 : n0 ≤ b21 := Nat.le_trans Z18 (Nat.le_of_eq g21.symm)
    have sz_b21 : h0.size ≤ b21 := Nat.le_trans (K18).1 (Nat.le_of_eq g21.symm)
    have ne_b2_b21 : b2 ≠ b21 := Nat.ne_of_lt (Nat.lt_of_lt_of_le f19.lt (Nat.le_of_eq g21.symm))
    have ne_b6_b21 : b6 ≠ b21 := Nat.ne_of_lt (Nat.lt_of_lt_of_le f20.lt (Nat.le_of_eq g21.symm))
    have f24 : Arv Z h21 b21 k21 .int (3 : Int32) [(.int (0 : Int32)), (.int (0 : Int32)), (.int (0 : Int32))] (.int (0 : Int32)) := (Arv.new A21 (by decide)).pad (pad_rep [] (.int (0 : Int32)) 3)
    refine Goes.via (S' := (T21.setTop (mkF m 390 #[.val (.int p0), .val (.int p1), .val (.int p2), .val (.int p3), .val (.int kk), .val (.int ss), .val (.int cc), .val (.ref b2), .val (.ref b6), .unset, .unset, .unset] [(.ref b21)]))) (fun t k => st21 _ k) ?_
    refine Goes.via (S' := (T21.setTop (mkF m 391 #[.val (.int p0), .val (.int p1), .val (.int p2), .val (.int p3), .val (.int kk), .val (.int ss), .val (.int cc), .val (.ref b2), .val (.ref b6), .unset, .unset, .unset] [(.ref b21), (.ref b21)]))) (fun t k => XS.dup X21.here hx rfl (hb hby at_390) rfl rfl k) ?_
    refine Goes.via (S' := (T21.setTop (mkF m 392 #[.val (.int p0), .val (.int p1), .val (.int p2), .val (.int p3), .val (.int kk), .val (.int ss), .val (.int cc), .val (.ref b2), .val (.ref b6), .unset, .unset, .unset] [(.int (0 : Int32)), (.ref b21), (.ref b21)]))) (fun t k => XS.iconst X21.here hx rfl (hb hby at_391) k) ?_
    refine Goes.via (S' := (T21.setTop (mkF m 393 #[.val (.int p0), .val (.int p1), .val (.int p2), .val (.int p3), .val (.int kk), .val (.int ss), .val (.int cc), .val (.ref b2), .val (.ref b6), .unset, .unset, .unset] [(.int (-1 : Int32)), (.int (0 : Int32)), (.ref b21), (.ref b21)]))) (fun t k => XS.iconst X21.here hx rfl (hb hby at_392) k) ?_
    obtain ⟨cl25, Ar25, q25, S25, M25, Hs25, G25⟩ := id f24
    have hin25 : ¬ ((0 : Int32) < 0 ∨ cl25.slots.size ≤ ((0 : Int32)).toNatClampNeg) := inb_of S25 ⟨by decide, by decide⟩
    obtain ⟨T25, h25, X25, e25, W25, st25⟩ := stI X21 hx hZ e21 Ar25 (j := (0 : Int32)) hin25 (g := (mkF m 393 #[.val (.int p0), .val (.int p1), .val (.int p2), .val (.int p3), .val (.int kk), .val (.int ss), .val (.int cc), .val (.ref b2), .val (.ref b6), .unset, .unset, .unset] [(.int (-1 : Int32)), (.int (0 : Int32)), (.ref b21), (.ref b21)])) rfl rfl (hb hby at_393)
    have f26 : Arv Z h25 b2 k2 .int (1 : Int32) [(.int (0 : Int32))] (.int (0 : Int32)) := f22.other W25 ne_b2_b21
    have f27 : Arv Z h25 b6 k6 .int (3 : Int32) [(.int (own_e p0 (0 : Int32))), (.int (own_e p1 (0 : Int32))), (.int (own_e p2 (0 : Int32)))] (.int (0 : Int32)) := f23.other W25 ne_b6_b21
    have f28 : Arv Z h25 b21 k21 .int (3 : Int32) [(.int (-1 : Int32)), (.int (0 : Int32)), (.int (0 : Int32))] (.int (0 : Int32)) := Arv.set Ar25 q25 S25 M25 Hs25 G25 rfl W25 0 rfl (Nat.le_of_ble_eq_true rfl)
    have K25 : Keep h0 h25 [] := Keep.wr K21 W25 (Or.inr sz_b21)
    have Z25 : n0 ≤ h25.size := Nat.le_trans Z0 K25.1
    have N25 := Fr.snoc X25 N18 g_b21
    refine Goes.via (S' := (T25.setTop (mkF m 394 #[.val (.int p0), .val (.int p1), .val (.int p2), .val (.int p3), .val (.int kk), .val (.int ss), .val (.int cc), .val (.ref b2), .val (.ref b6), .unset, .unset, .unset] [(.ref b21)]))) (fun t k => st25 _ k) ?_
    refine Goes.via (S' := (T25.setTop (mkF m 395 #[.val (.int p0), .val (.int p1), .val (.int p2), .val (.int p3), .val (.int kk), .val (.int ss), .val (.int cc), .val (.ref b2), .val (.ref b6), .unset, .unset, .unset] [(.ref b21), (.ref b21)]))) (fun t k => XS.dup X25.here hx rfl (hb hby at_394) rfl rfl k) ?_
    refine Goes.via (S' := (T25.setTop (mkF m 396 #[.val (.int p0), .val (.int p1), .val (.int p2), .val (.int p3), .val (.int kk), .val (.int ss), .val (.int cc), .val (.ref b2), .val (.ref b6), .unset, .unset, .unset] [(.int (1 : Int32)), (.ref b21), (.ref b21)]))) (fun t k => XS.iconst X25.here hx rfl (hb hby at_395) k) ?_
    refine Goes.via (S' := (T25.setTop (mkF m 397 #[.val (.int p0), .val (.int p1), .val (.int p2), .val (.int p3), .val (.int kk), .val (.int ss), .val (.int cc), .val (.ref b2), .val (.ref b6), .unset, .unset, .unset] [(.int (0 : Int32)), (.int (1 : Int32)), (.ref b21), (.ref b21)]))) (fun t k => XS.iconst X25.here hx rfl (hb hby at_396) k) ?_
    obtain ⟨cl29, Ar29, q29, S29, M29, Hs29, G29⟩ := id f28
    have hin29 : ¬ ((1 : Int32) < 0 ∨ cl29.slots.size ≤ ((1 : Int32)).toNatClampNeg) := inb_of S29 ⟨by decide, by decide⟩
    obtain ⟨T29, h29, X29, e29, W29, st29⟩ := stI X25 hx hZ e25 Ar29 (j := (1 : Int32)) hin29 (g := (mkF m 397 #[.val (.int p0), .val (.int p1), .val (.int p2), .val (.int p3), .val (.int kk), .val (.int ss), .val (.int cc), .val (.ref b2), .val (.ref b6), .unset, .unset, .unset] [(.int (0 : Int32)), (.int (1 : Int32)), (.ref b21), (.ref b21)])) rfl rfl (hb hby at_397)
    have f30 : Arv Z h29 b2 k2 .int (1 : Int32) [(.int (0 : Int32))] (.int (0 : Int32)) := f26.other W29 ne_b2_b21
    have f31 : Arv Z h29 b6 k6 .int (3 : Int32) [(.int (own_e p0 (0 : Int32))), (.int (own_e p1 (0 : Int32))), (.int (own_e p2 (0 : Int32)))] (.int (0 : Int32)) := f27.other W29 ne_b6_b21
    have f32 : Arv Z h29 b21 k21 .int (3 : Int32) [(.int (-1 : Int32)), (.int (0 : Int32)), (.int (0 : Int32))] (.int (0 : Int32)) := Arv.set Ar29 q29 S29 M29 Hs29 G29 rfl W29 1 rfl (Nat.le_of_ble_eq_true rfl)
    have K29 : Keep h0 h29 [] := Keep.wr K25 W29 (Or.inr sz_b21)
    have Z29 : n0 ≤ h29.size := Nat.le_trans Z0 K29.1
    have N29 := Fr.snoc X29 N25 g_b21
    refine Goes.via (S' := (T29.setTop (mkF m 398 #[.val (.int p0), .val (.int p1), .val (.int p2), .val (.int p3), .val (.int kk), .val (.int ss), .val (.int cc), .val (.ref b2), .val (.ref b6), .unset, .unset, .unset] [(.ref b21)]))) (fun t k => st29 _ k) ?_
    refine Goes.via (S' := (T29.setTop (mkF m 399 #[.val (.int p0), .val (.int p1), .val (.int p2), .val (.int p3), .val (.int kk), .val (.int ss), .val (.int cc), .val (.ref b2), .val (.ref b6), .unset, .unset, .unset] [(.ref b21), (.ref b21)]))) (fun t k => XS.dup X29.here hx rfl (hb hby at_398) rfl rfl k) ?_
    refine Goes.via (S' := (T29.setTop (mkF m 400 #[.val (.int p0), .val (.int p1), .val (.int p2), .val (.int p3), .val (.int kk), .val (.int ss), .val (.int cc), .val (.ref b2), .val (.ref b6), .unset, .unset, .unset] [(.int (2 : Int32)), (.ref b21), (.ref b21)]))) (fun t k => XS.iconst X29.here hx rfl (hb hby at_399) k) ?_
    refine Goes.via (S' := (T29.setTop (mkF m 401 #[.val (.int p0), .val (.int p1), .val (.int p2), .val (.int p3), .val (.int kk), .val (.int ss), .val (.int cc), .val (.ref b2), .val (.ref b6), .unset, .unset, .unset] [(.int (1 : Int32)), (.int (2 : Int32)), (.ref b21), (.ref b21)]))) (fun t k => XS.iconst X29.here hx rfl (hb hby at_400) k) ?_
    obtain ⟨cl33, Ar33, q33, S33, M33, Hs33, G33⟩ := id f32
    have hin33 : ¬ ((2 : Int32) < 0 ∨ cl33.slots.size ≤ ((2 : Int32)).toNatClampNeg) := inb_of S33 ⟨by decide, by decide⟩
    obtain ⟨T33, h33, X33, e33, W33, st33⟩ := stI X29 hx hZ e29 Ar33 (j := (2 : Int32)) hin33 (g := (mkF m 401 #[.val (.int p0), .val (.int p1), .val (.int p2), .val (.int p3), .val (.int kk), .val (.int ss), .val (.int cc), .val (.ref b2), .val (.ref b6), .unset, .unset, .unset] [(.int (1 : Int32)), (.int (2 : Int32)), (.ref b21), (.ref b21)])) rfl rfl (hb hby at_401)
    have f34 : Arv Z h33 b2 k2 .int (1 : Int32) [(.int (0 : Int32))] (.int (0 : Int32)) := f30.other W33 ne_b2_b21
    have f35 : Arv Z h33 b6 k6 .int (3 : Int32) [(.int (own_e p0 (0 : Int32))), (.int (own_e p1 (0 : Int32))), (.int (own_e p2 (0 : Int32)))] (.int (0 : Int32)) := f31.other W33 ne_b6_b21
    have f36 : Arv Z h33 b21 k21 .int (3 : Int32) [(.int (-1 : Int32)), (.int (0 : Int32)), (.int (1 : Int32))] (.int (0 : Int32)) := Arv.set Ar33 q33 S33 M33 Hs33 G33 rfl W33 2 rfl (Nat.le_of_ble_eq_true rfl)
    have K33 : Keep h0 h33 [] := Keep.wr K29 W33 (Or.inr sz_b21)
    have Z33 : n0 ≤ h33.size := Nat.le_trans Z0 K33.1
    have N33 := Fr.snoc X33 N29 g_b21
    refine Goes.via (S' := (T33.setTop (mkF m 402 #[.val (.int p0), .val (.int p1), .val (.int p2), .val (.int p3), .val (.int kk), .val (.int ss), .val (.int cc), .val (.ref b2), .val (.ref b6), .unset, .unset, .unset] [(.ref b21)]))) (fun t k => st33 _ k) ?_
    refine Goes.via (S' := (T33.setTop (mkF m 404 #[.val (.int p0), .val (.int p1), .val (.int p2), .val (.int p3), .val (.int kk), .val (.int ss), .val (.int cc), .val (.ref b2), .val (.ref b6), .val (.ref b21), .unset, .unset] []))) (fun t k => XS.astore X33.here hx rfl (hb hby at_402) rfl rfl (l' := #[.val (.int p0), .val (.int p1), .val (.int p2), .val (.int p3), .val (.int kk), .val (.int ss), .val (.int cc), .val (.ref b2), .val (.ref b6), .val (.ref b21), .unset, .unset]) rfl k) ?_
    obtain ⟨T37, h37, X37, e37, E37, A37, D37, -, st37⟩ := newO X33 hx hZ hown (hw _ (List.mem_of_getElem? (i := 5) rfl)) (hw _ (List.mem_of_getElem? (i := 6) rfl)) (hw _ (List.mem_of_getElem? (i := 7) rfl)) e33 (g := (mkF m 404 #[.val (.int p0), .val (.int p1), .val (.int p2), .val (.int p3), .val (.int kk), .val (.int ss), .val (.int cc), .val (.ref b2), .val (.ref b6), .val (.ref b21), .unset, .unset] [])) rfl (hb hby at_404) (by decide) (by decide)
    obtain ⟨b37, g37⟩ : ∃ z, z = h33.size := ⟨_, rfl⟩
    rw [← g37] at A37 D37 st37
    have f38 : Arv Z h37 b2 k2 .int (1 : Int32) [(.int (0 : Int32))] (.int (0 : Int32)) := f34.ext E37
    have f39 : Arv Z h37 b6 k6 .int (3 : Int32) [(.int (own_e p0 (0 : Int32))), (.int (own_e p1 (0 : Int32))), (.int (own_e p2 (0 : Int32)))] (.int (0 : Int32)) := f35.ext E37
    have f40 : Arv Z h37 b21 k21 .int (3 : Int32) [(.int (-1 : Int32)), (.int (0 : Int32)), (.int (1 : Int32))] (.int (0 : Int32)) := f36.ext E37
    have K37 : Keep h0 h37 [] := Keep.ext K33 E37
    have Z37 : n0 ≤ h37.size := Nat.le_trans Z0 K37.1
    have g_b37 : n0 ≤ b37 := Nat.le_trans Z33 (Nat.le_of_eq g37.symm)
    have sz_b37 : h0.size ≤ b37 := Nat.le_trans (K33).1 (Nat.le_of_eq g37.symm)
    have ne_b2_b37 : b2 ≠ b37 := Nat.ne_of_lt (Nat.lt_of_lt_of_le f34.lt (Nat.le_of_eq g37.symm))
    have ne_b6_b37 : b6 ≠ b37 := Nat.ne_of_lt (Nat.lt_of_lt_of_le f35.lt (Nat.le_of_eq g37.symm))
    have ne_b21_b37 : b21 ≠ b37 := Nat.ne_of_lt (Nat.lt_of_lt_of_le f36.lt (Nat.le_of_eq g37.symm))
    have f41 : Exa Z h37 b37 "com/example/parsewright/parsewright/generator/ScannerAutomaton" := A37
    have f42 : Fld Z h37 b37 "com/example/parsewright/parsewright/generator/ScannerAutomaton" "classStarts" "[I" .null := D37 (Or.inr (hw _ (List.mem_of_getElem? (i := 15) rfl))) (ty := (.array .int)) (by decide)
    have f43 : Fld Z h37 b37 "com/example/parsewright/parsewright/generator/ScannerAutomaton" "transitions" "[I" .null := D37 (Or.inr (hw _ (List.mem_of_getElem? (i := 17) rfl))) (ty := (.array .int)) (by decide)
    have f44 : Fld Z h37 b37 "com/example/parsewright/parsewright/generator/ScannerAutomaton" "accepts" "[I" .null := D37 (Or.inr (hw _ (List.mem_of_getElem? (i := 19) rfl))) (ty := (.array .int)) (by decide)
    refine Goes.via (S' := (T37.setTop (mkF m 407 #[.val (.int p0), .val (.int p1), .val (.int p2), .val (.int p3), .val (.int kk), .val (.int ss), .val (.int cc), .val (.ref b2), .val (.ref b6), .val (.ref b21), .unset, .unset] [(.ref b37)]))) (fun t k => st37 _ k) ?_
    refine Goes.via (S' := (T37.setTop (mkF m 408 #[.val (.int p0), .val (.int p1), .val (.int p2), .val (.int p3), .val (.int kk), .val (.int ss), .val (.int cc), .val (.ref b2), .val (.ref b6), .val (.ref b21), .unset, .unset] [(.ref b37), (.ref b37)]))) (fun t k => XS.dup X37.here hx rfl (hb hby at_407) rfl rfl k) ?_
    refine Goes.via (S' := (T37.setTop (mkF m 410 #[.val (.int p0), .val (.int p1), .val (.int p2), .val (.int p3), .val (.int kk), .val (.int ss), .val (.int cc), .val (.ref b2), .val (.ref b6), .val (.ref b21), .unset, .unset] [(.ref b2), (.ref b37), (.ref b37)]))) (fun t k => XS.aload X37.here hx rfl (hb hby at_408) rfl rfl k) ?_
    refine Goes.via (S' := (T37.setTop (mkF m 412 #[.val (.int p0), .val (.int p1), .val (.int p2), .val (.int p3), .val (.int kk), .val (.int ss), .val (.int cc), .val (.ref b2), .val (.ref b6), .val (.ref b21), .unset, .unset] [(.ref b6), (.ref b2), (.ref b37), (.ref b37)]))) (fun t k => XS.aload X37.here hx rfl (hb hby at_410) rfl rfl k) ?_
    refine Goes.via (S' := (T37.setTop (mkF m 414 #[.val (.int p0), .val (.int p1), .val (.int p2), .val (.int p3), .val (.int kk), .val (.int ss), .val (.int cc), .val (.ref b2), .val (.ref b6), .val (.ref b21), .unset, .unset] [(.ref b21), (.ref b6), (.ref b2), (.ref b37), (.ref b37)]))) (fun t k => XS.aload X37.here hx rfl (hb hby at_412) rfl rfl k) ?_
    obtain ⟨_, _, ⟨T45, L45, k45, n45⟩, -, X45, ⟨Lc45, hQ45, l45, y45, z45⟩, st45⟩ := X37.specialBack hx (y := (⟨"com/example/parsewright/parsewright/generator/ScannerAutomaton", "<init>", "([I[I[I)V"⟩ : MethodName)) rfl hown (mvT hZ (hw _ (List.mem_of_getElem? (i := 8) rfl))) (mvT hZ (hw _ (List.mem_of_getElem? (i := 9) rfl))) (mvT hZ (hw _ (List.mem_of_getElem? (i := 10) rfl))) (by decide) (backOf (W := 1) (rm2 l Z a0 hw [] b37 b2 b6 b21 .null .null .null h37 n0 Z37 f41 f42 f43 f44 g_b37) hZ (hw _ (List.mem_of_getElem? (i := 10) rfl)) (hw _ (List.mem_of_getElem? (i := 7) rfl)) (by decide) (by decide)) (g := (mkF m 414 #[.val (.int p0), .val (.int p1), .val (.int p2), .val (.int p3), .val (.int kk), .val (.int ss), .val (.int cc), .val (.ref b2), .val (.ref b6), .val (.ref b21), .unset, .unset] [(.ref b21), (.ref b6), (.ref b2), (.ref b37), (.ref b37)])) rfl (by rw [hml]; rfl) (Steps.refl _) (a := b37) (argsL := [(.ref b2), (.ref b6), (.ref b21)]) (rest := [(.ref b37)]) (lenOf pd_1 rfl) rfl (by show 2 * 0 + _ ≤ _; exact Nat.le_of_eq rfl) (hb hby at_414) (fun _ _ => ⟨rfl, e37, (by decide : 4 + 0 ≤ _), (by decide : 10 + 0 ≤ _)⟩)
    dsimp only [Pt.U, Pt.locs, Pt.cells, Pt.slots] at X45 l45 y45 z45 st45 hQ45
    replace X45 := own_cast X45 l45 y45 z45
    obtain ⟨rfl, N45q, K45q, po45_0, po45_1, po45_2, po45_3⟩ := hQ45
    have N45 := Fr.app N33 N45q
    have f46 : Arv Z T45.heap b2 k2 .int (1 : Int32) [(.int (0 : Int32))] (.int (0 : Int32)) := f38.keep K45q (ninS ne_b2_b37 nin0)
    have f47 : Arv Z T45.heap b6 k6 .int (3 : Int32) [(.int (own_e p0 (0 : Int32))), (.int (own_e p1 (0 : Int32))), (.int (own_e p2 (0 : Int32)))] (.int (0 : Int32)) := f39.keep K45q (ninS ne_b6_b37 nin0)
    have f48 : Arv Z T45.heap b21 k21 .int (3 : Int32) [(.int (-1 : Int32)), (.int (0 : Int32)), (.int (1 : Int32))] (.int (0 : Int32)) := f40.keep K45q (ninS ne_b21_b37 nin0)
    have f49 : Exa Z T45.heap b37 "com/example/parsewright/parsewright/generator/ScannerAutomaton" := f41.keep K45q
    have K45 : Keep h0 T45.heap [] := Keep.trans K37 K45q (allS (Or.inr sz_b37) all0)
    have Z45 : n0 ≤ T45.heap.size := Nat.le_trans Z0 K45.1
    refine Goes.via (S' := (T45.setTop (mkF m 417 #[.val (.int p0), .val (.int p1), .val (.int p2), .val (.int p3), .val (.int kk), .val (.int ss), .val (.int cc), .val (.ref b2), .val (.ref b6), .val (.ref b21), .unset, .unset] [(.ref b37)]))) (fun t k => st45.trans k) ?_
    refine Goes.via (S' := (T45.setTop (mkF m 419 #[.val (.int p0), .val (.int p1), .val (.int p2), .val (.int p3), .val (.int kk), .val (.int ss), .val (.int cc), .val (.ref b2), .val (.ref b6), .val (.ref b21), .val (.ref b37), .unset] []))) (fun t k => XS.astore X45.here hx rfl (hb hby at_417) rfl rfl (l' := #[.val (.int p0), .val (.int p1), .val (.int p2), .val (.int p3), .val (.int kk), .val (.int ss), .val (.int cc), .val (.ref b2), .val (.ref b6), .val (.ref b21), .val (.ref b37), .unset]) rfl k) ?_
    refine Goes.via (S' := (T45.setTop (mkF m 421 #[.val (.int p0), .val (.int p1), .val (.int p2), .val (.int p3), .val (.int kk), .val (.int ss), .val (.int cc), .val (.ref b2), .val (.ref b6), .val (.ref b21), .val (.ref b37), .unset] [(.int ss)]))) (fun t k => XS.iload X45.here hx rfl (hb hby at_419) rfl k) ?_
    obtain ⟨v52, hv52⟩ : ∃ z : Int32, z = ((if (ss = (0 : Int32)) then p0 else (if (ss = (1 : Int32)) then p1 else p2))) := ⟨_, rfl⟩
    refine Goes.via (S' := (T45.setTop (mkF m 439 #[.val (.int p0), .val (.int p1), .val (.int p2), .val (.int p3), .val (.int kk), .val (.int ss), .val (.int cc), .val (.ref b2), .val (.ref b6), .val (.ref b21), .val (.ref b37), .unset] [(.int v52)]))) (fun t k => ?_) ?_
    · by_cases hc50 : (ss = (0 : Int32))
      · refine XS.ifNo X45.here hx rfl (hb hby at_421) rfl ((if0 _ _).trans (teq hc50).2) ?_
        show Steps p.tables e below (T45.setTop (mkF m 424 #[.val (.int p0), .val (.int p1), .val (.int p2), .val (.int p3), .val (.int kk), .val (.int ss), .val (.int cc), .val (.ref b2), .val (.ref b6), .val (.ref b21), .val (.ref b37), .unset] [])) _
        refine XS.iloadN X45.here hx rfl (hb hby at_424) rfl ?_
        show Steps p.tables e below (T45.setTop (mkF m 425 #[.val (.int p0), .val (.int p1), .val (.int p2), .val (.int p3), .val (.int kk), .val (.int ss), .val (.int cc), .val (.ref b2), .val (.ref b6), .val (.ref b21), .val (.ref b37), .unset] [(.int p0)])) _
        refine XS.goto X45.here hx rfl (pc0 := 425) (pc' := 439) rfl (hb hby at_425) (by decide) (by decide) ?_
        show Steps p.tables e below (T45.setTop (mkF m 439 #[.val (.int p0), .val (.int p1), .val (.int p2), .val (.int p3), .val (.int kk), .val (.int ss), .val (.int cc), .val (.ref b2), .val (.ref b6), .val (.ref b21), .val (.ref b37), .unset] [(.int p0)])) _
        have q_v52 : v52 = p0 := by rw [hv52, if_pos hc50]
        rw [q_v52] at k
        exact k
      · refine XS.ifYes X45.here hx rfl (pc0 := 421) (pc' := 428) rfl (hb hby at_421) rfl ((if0 _ _).trans (feq hc50).2) (by decide) (by decide) ?_
        show Steps p.tables e below (T45.setTop (mkF m 428 #[.val (.int p0), .val (.int p1), .val (.int p2), .val (.int p3), .val (.int kk), .val (.int ss), .val (.int cc), .val (.ref b2), .val (.ref b6), .val (.ref b21), .val (.ref b37), .unset] [])) _
        refine XS.iload X45.here hx rfl (hb hby at_428) rfl ?_
        show Steps p.tables e below (T45.setTop (mkF m 430 #[.val (.int p0), .val (.int p1), .val (.int p2), .val (.int p3), .val (.int kk), .val (.int ss), .val (.int cc), .val (.ref b2), .val (.ref b6), .val (.ref b21), .val (.ref b37), .unset] [(.int ss)])) _
        refine XS.iconst X45.here hx rfl (hb hby at_430) ?_
        show Steps p.tables e below (T45.setTop (mkF m 431 #[.val (.int p0), .val (.int p1), .val (.int p2), .val (.int p3), .val (.int kk), .val (.int ss), .val (.int cc), .val (.ref b2), .val (.ref b6), .val (.ref b21), .val (.ref b37), .unset] [(.int (1 : Int32)), (.int ss)])) _
        by_cases hc51 : (ss = (1 : Int32))
        · refine XS.icmpNo X45.here hx rfl (hb hby at_431) rfl (teq hc51).2 ?_
          show Steps p.tables e below (T45.setTop (mkF m 434 #[.val (.int p0), .val (.int p1), .val (.int p2), .val (.int p3), .val (.int kk), .val (.int ss), .val (.int cc), .val (.ref b2), .val (.ref b6), .val (.ref b21), .val (.ref b37), .unset] [])) _
          refine XS.iloadN X45.here hx rfl (hb hby at_434) rfl ?_
          show Steps p.tables e below (T45.setTop (mkF m 435 #[.val (.int p0), .val (.int p1), .val (.int p2), .val (.int p3), .val (.int kk), .val (.int ss), .val (.int cc), .val (.ref b2), .val (.ref b6), .val (.ref b21), .val (.ref b37), .unset] [(.int p1)])) _
          refine XS.goto X45.here hx rfl (pc0 := 435) (pc' := 439) rfl (hb hby at_435) (by decide) (by decide) ?_
          show Steps p.tables e below (T45.setTop (mkF m 439 #[.val (.int p0), .val (.int p1), .val (.int p2), .val (.int p3), .val (.int kk), .val (.int ss), .val (.int cc), .val (.ref b2), .val (.ref b6), .val (.ref b21), .val (.ref b37), .unset] [(.int p1)])) _
          have q_v52 : v52 = p1 := by rw [hv52, if_neg hc50, if_pos hc51]
          rw [q_v52] at k
          exact k
        · refine XS.icmpYes X45.here hx rfl (pc0 := 431) (pc' := 438) rfl (hb hby at_431) rfl (feq hc51).2 (by decide) (by decide) ?_
          show Steps p.tables e below (T45.setTop (mkF m 438 #[.val (.int p0), .val (.int p1), .val (.int p2), .val (.int p3), .val (.int kk), .val (.int ss), .val (.int cc), .val (.ref b2), .val (.ref b6), .val (.ref b21), .val (.ref b37), .unset] [])) _
          refine XS.iloadN X45.here hx rfl (hb hby at_438) rfl ?_
          show Steps p.tables e below (T45.setTop (mkF m 439 #[.val (.int p0), .val (.int p1), .val (.int p2), .val (.int p3), .val (.int kk), .val (.int ss), .val (.int cc), .val (.ref b2), .val (.ref b6), .val (.ref b21), .val (.ref b37), .unset] [(.int p2)])) _
          have q_v52 : v52 = p2 := by rw [hv52, if_neg hc50, if_neg hc51]
          rw [q_v52] at k
          exact k
    refine Goes.via (S' := (T45.setTop (mkF m 441 #[.val (.int p0), .val (.int p1), .val (.int p2), .val (.int p3), .val (.int kk), .val (.int ss), .val (.int cc), .val (.ref b2), .val (.ref b6), .val (.ref b21), .val (.ref b37), .val (.int v52)] []))) (fun t k => XS.istore X45.here hx rfl (hb hby at_439) rfl (l' := #[.val (.int p0), .val (.int p1), .val (.int p2), .val (.int p3), .val (.int kk), .val (.int ss), .val (.int cc), .val (.ref b2), .val (.ref b6), .val (.ref b21), .val (.ref b37), .val (.int v52)]) rfl k) ?_
    refine Goes.via (S' := (T45.setTop (mkF m 443 #[.val (.int p0), .val (.int p1), .val (.int p2), .val (.int p3), .val (.int kk), .val (.int ss), .val (.int cc), .val (.ref b2), .val (.ref b6), .val (.ref b21), .val (.ref b37), .val (.int v52)] [(.ref b37)]))) (fun t k => XS.aload X45.here hx rfl (hb hby at_441) rfl rfl k) ?_
    refine Goes.via (S' := (T45.setTop (mkF m 445 #[.val (.int p0), .val (.int p1), .val (.int p2), .val (.int p3), .val (.int kk), .val (.int ss), .val (.int cc), .val (.ref b2), .val (.ref b6), .val (.ref b21), .val (.ref b37), .val (.int v52)] [(.int ss), (.ref b37)]))) (fun t k => XS.iload X45.here hx rfl (hb hby at_443) rfl k) ?_
    refine Goes.via (S' := (T45.setTop (mkF m 447 #[.val (.int p0), .val (.int p1), .val (.int p2), .val (.int p3), .val (.int kk), .val (.int ss), .val (.int cc), .val (.ref b2), .val (.ref b6), .val (.ref b21), .val (.ref b37), .val (.int v52)] [(.int cc), (.int ss), (.ref b37)]))) (fun t k => XS.iload X45.here hx rfl (hb hby at_445) rfl k) ?_
    have hg53 := own_get1 ss cc p0 p1 p2 v52 (own_s h_ss) (own_c1 h_cc hc1) hv52
    obtain ⟨cq54, kq54, q54a, q54b, q54c⟩ := isOf hZ rfl po45_0
    obtain ⟨_, _, ⟨T54, L54, k54, n54⟩, -, X54, ⟨Lc54, hQ54, l54, y54, z54⟩, st54⟩ := X45.virtualBack hx (y := (⟨"com/example/parsewright/parsewright/generator/ScannerAutomaton", "next", "(II)I"⟩ : MethodName)) (z := (⟨"com/example/parsewright/parsewright/generator/ScannerAutomaton", "next", "(II)I"⟩ : MethodName)) hown (mvT hZ (hw _ (List.mem_of_getElem? (i := 20) rfl))) (mvT hZ (hw _ (List.mem_of_getElem? (i := 21) rfl))) (notFace_of_selects (args := #[]) (mvT hZ (hw _ (List.mem_of_getElem? (i := 23) rfl)))) (mvT hZ (hw _ (List.mem_of_getElem? (i := 23) rfl))) (mvT hZ (hw _ (List.mem_of_getElem? (i := 22) rfl))) (by decide) (backOf (W := 0) (rm4 l Z a0 hw [] b37 ss cc b2 b6 k2 k6 (1 : Int32) (3 : Int32) ([(.int (0 : Int32))] : List Value) ([(.int (own_e p0 (0 : Int32))), (.int (own_e p1 (0 : Int32))), (.int (own_e p2 (0 : Int32)))] : List Value) (own_e v52 cc) T45.heap n0 Z45 po45_1 po45_2 f46 f47 (hg53).2 (hg53).1) hZ (hw _ (List.mem_of_getElem? (i := 24) rfl)) (hw _ (List.mem_of_getElem? (i := 7) rfl)) (by decide) (by decide)) q54a q54c (g := (mkF m 447 #[.val (.int p0), .val (.int p1), .val (.int p2), .val (.int p3), .val (.int kk), .val (.int ss), .val (.int cc), .val (.ref b2), .val (.ref b6), .val (.ref b21), .val (.ref b37), .val (.int v52)] [(.int cc), (.int ss), (.ref b37)])) rfl (by rw [hml]; rfl) (Steps.refl _) (argsL := [(.int ss), (.int cc)]) (rest := []) (lenOf pd_0 rfl) rfl (by show 2 * 0 + _ ≤ _; exact Nat.le_of_eq rfl) (hb hby at_447) (fun _ _ => ⟨rfl, rfl, (by decide : 4 + 0 ≤ _), (by decide : 10 + 0 ≤ _)⟩)
    dsimp only [Pt.U, Pt.locs, Pt.cells, Pt.slots] at X54 l54 y54 z54 st54 hQ54
    replace X54 := own_cast X54 l54 y54 z54
    obtain ⟨rfl, N54q, eq54⟩ := hQ54
    have N54 := Fr.app N45 N54q
    refine Goes.via (S' := (T54.setTop (mkF m 450 #[.val (.int p0), .val (.int p1), .val (.int p2), .val (.int p3), .val (.int kk), .val (.int ss), .val (.int cc), .val (.ref b2), .val (.ref b6), .val (.ref b21), .val (.ref b37), .val (.int v52)] [(.int (own_e v52 cc))]))) (fun t k => st54.trans k) ?_
    refine Goes.via (S' := (T54.setTop (mkF m 452 #[.val (.int p0), .val (.int p1), .val (.int p2), .val (.int p3), .val (.int kk), .val (.int ss), .val (.int cc), .val (.ref b2), .val (.ref b6), .val (.ref b21), .val (.ref b37), .val (.int v52)] [(.int v52), (.int (own_e v52 cc))]))) (fun t k => XS.iload X54.here hx rfl (hb hby at_450) rfl k) ?_
    refine Goes.via (S' := (T54.setTop (mkF m 454 #[.val (.int p0), .val (.int p1), .val (.int p2), .val (.int p3), .val (.int kk), .val (.int ss), .val (.int cc), .val (.ref b2), .val (.ref b6), .val (.ref b21), .val (.ref b37), .val (.int v52)] [(.int cc), (.int v52), (.int (own_e v52 cc))]))) (fun t k => XS.iload X54.here hx rfl (hb hby at_452) rfl k) ?_
    obtain ⟨_, _, ⟨T55, L55, k55, n55⟩, -, X55, ⟨Lc55, hQ55, l55, y55, z55⟩, st55⟩ := Jvm.LawKit.callS X54 hx (y := (⟨"com/example/parsewright/parsewright/generator/ScannerAutomatonNextPinLaw", "e", "(II)I"⟩ : MethodName)) hown (mvT hZ (hw _ (List.mem_of_getElem? (i := 1) rfl))) (mvT hZ (hw _ (List.mem_of_getElem? (i := 2) rfl))) (mvT hZ (hw _ (List.mem_of_getElem? (i := 3) rfl))) (mvT hZ (hw _ (List.mem_of_getElem? (i := 4) rfl))) (by decide) (backOf (W := 1) (rm1 l Z a0 hw [] v52 cc T45.heap n0 Z45 ) hZ (hw _ (List.mem_of_getElem? (i := 4) rfl)) (hw _ (List.mem_of_getElem? (i := 3) rfl)) (by decide) (by decide)) (g := (mkF m 454 #[.val (.int p0), .val (.int p1), .val (.int p2), .val (.int p3), .val (.int kk), .val (.int ss), .val (.int cc), .val (.ref b2), .val (.ref b6), .val (.ref b21), .val (.ref b37), .val (.int v52)] [(.int cc), (.int v52), (.int (own_e v52 cc))])) rfl (by rw [hml]; rfl) (argsL := [(.int v52), (.int cc)]) (rest := [(.int (own_e v52 cc))]) (lenOf pd_0 rfl) rfl (by show 2 * 0 + _ ≤ _; exact Nat.le_of_eq rfl) (hb hby at_454) (fun _ _ => ⟨rfl, eq54, (by decide : 4 + 0 ≤ _), (by decide : 10 + 0 ≤ _)⟩)
    dsimp only [Pt.U, Pt.locs, Pt.cells, Pt.slots] at X55 l55 y55 z55 st55 hQ55
    replace X55 := own_cast X55 l55 y55 z55
    obtain ⟨rfl, N55q, eq55⟩ := hQ55
    have N55 := Fr.app N54 N55q
    refine Goes.via (S' := (T55.setTop (mkF m 457 #[.val (.int p0), .val (.int p1), .val (.int p2), .val (.int p3), .val (.int kk), .val (.int ss), .val (.int cc), .val (.ref b2), .val (.ref b6), .val (.ref b21), .val (.ref b37), .val (.int v52)] [(.int (own_e v52 cc)), (.int (own_e v52 cc))]))) (fun t k => st55 _ k) ?_
    refine Goes.via (S' := (T55.setTop (mkF m 460 #[.val (.int p0), .val (.int p1), .val (.int p2), .val (.int p3), .val (.int kk), .val (.int ss), .val (.int cc), .val (.ref b2), .val (.ref b6), .val (.ref b21), .val (.ref b37), .val (.int v52)] []))) (fun t k => XS.icmpNo X55.here hx rfl (hb hby at_457) rfl (teq rfl).2 k) ?_
    refine Goes.via (S' := (T55.setTop (mkF m 461 #[.val (.int p0), .val (.int p1), .val (.int p2), .val (.int p3), .val (.int kk), .val (.int ss), .val (.int cc), .val (.ref b2), .val (.ref b6), .val (.ref b21), .val (.ref b37), .val (.int v52)] [(.int (1 : Int32))]))) (fun t k => XS.iconst X55.here hx rfl (hb hby at_460) k) ?_
    refine Goes.via (S' := (T55.setTop (mkF m 465 #[.val (.int p0), .val (.int p1), .val (.int p2), .val (.int p3), .val (.int kk), .val (.int ss), .val (.int cc), .val (.ref b2), .val (.ref b6), .val (.ref b21), .val (.ref b37), .val (.int v52)] [(.int (1 : Int32))]))) (fun t k => XS.goto X55.here hx rfl (pc0 := 461) (pc' := 465) rfl (hb hby at_461) (by decide) (by decide) k) ?_
    exact own_ret X55 hx Bd.notSynchronized Bd.returns rfl (Or.inl ⟨rfl, by simp, _, rfl⟩) (hb hby at_465) eq55 ⟨rfl, N55⟩ (by decide) (by decide)
  · refine Goes.via (S' := (s₁.setTop (mkF m 69 #[.val (.int p0), .val (.int p1), .val (.int p2), .val (.int p3), .val (.int kk), .val (.int ss), .val (.int cc), .unset, .unset, .unset, .unset, .unset] []))) (fun t k => XS.icmpYes X0.here hx rfl (pc0 := 25) (pc' := 69) rfl (hb hby at_25) rfl (feq hc1).2 (by decide) (by decide) k) ?_
    refine Goes.via (S' := (s₁.setTop (mkF m 71 #[.val (.int p0), .val (.int p1), .val (.int p2), .val (.int p3), .val (.int kk), .val (.int ss), .val (.int cc), .unset, .unset, .unset, .unset, .unset] [(.int kk)]))) (fun t k => XS.iload X0.here hx rfl (hb hby at_69) rfl k) ?_
    refine Goes.via (S' := (s₁.setTop (mkF m 72 #[.val (.int p0), .val (.int p1), .val (.int p2), .val (.int p3), .val (.int kk), .val (.int ss), .val (.int cc), .unset, .unset, .unset, .unset, .unset] [(.int (2 : Int32)), (.int kk)]))) (fun t k => XS.iconst X0.here hx rfl (hb hby at_71) k) ?_
    by_cases hc56 : (kk = (2 : Int32))
    · refine Goes.via (S' := (s₁.setTop (mkF m 75 #[.val (.int p0), .val (.int p1), .val (.int p2), .val (.int p3), .val (.int kk), .val (.int ss), .val (.int cc), .unset, .unset, .unset, .unset, .unset] []))) (fun t k => XS.icmpNo X0.here hx rfl (hb hby at_72) rfl (teq hc56).2 k) ?_
      refine Goes.via (S' := (s₁.setTop (mkF m 76 #[.val (.int p0), .val (.int p1), .val (.int p2), .val (.int p3), .val (.int kk), .val (.int ss), .val (.int cc), .unset, .unset, .unset, .unset, .unset] [(.int (2 : Int32))]))) (fun t k => XS.iconst X0.here hx rfl (hb hby at_75) k) ?_
      obtain ⟨T57, h57, k57, X57, e57, E57, A57, st57⟩ := newP X0 hx hZ (hw _ (List.mem_of_getElem? (i := 0) rfl)) e0 (g := (mkF m 76 #[.val (.int p0), .val (.int p1), .val (.int p2), .val (.int p3), .val (.int kk), .val (.int ss), .val (.int cc), .unset, .unset, .unset, .unset, .unset] [(.int (2 : Int32))])) rfl (hb hby at_76) rfl (by decide) (cap := 2) (by decide) (by decide) (by decide) (by decide)
      obtain ⟨b57, g57⟩ : ∃ z, z = h0.size := ⟨_, rfl⟩
      rw [← g57] at A57 st57
      have K57 : Keep h0 h57 [] := Keep.ext (Keep.refl h0 []) E57
      have Z57 : n0 ≤ h57.size := Nat.le_trans Z0 K57.1
      have g_b57 : n0 ≤ b57 := Nat.le_trans Z0 (Nat.le_of_eq g57.symm)
      have sz_b57 : h0.size ≤ b57 := Nat.le_trans ((Keep.refl h0 [])).1 (Nat.le_of_eq g57.symm)
      have f58 : Arv Z h57 b57 k57 .int (2 : Int32) [(.int (0 : Int32)), (.int (0 : Int32))] (.int (0 : Int32)) := (Arv.new A57 (by decide)).pad (pad_rep [] (.int (0 : Int32)) 2)
      refine Goes.via (S' := (T57.setTop (mkF m 78 #[.val (.int p0), .val (.int p1), .val (.int p2), .val (.int p3), .val (.int kk), .val (.int ss), .val (.int cc), .unset, .unset, .unset, .unset, .unset] [(.ref b57)]))) (fun t k => st57 _ k) ?_
      refine Goes.via (S' := (T57.setTop (mkF m 79 #[.val (.int p0), .val (.int p1), .val (.int p2), .val (.int p3), .val (.int kk), .val (.int ss), .val (.int cc), .unset, .unset, .unset, .unset, .unset] [(.ref b57), (.ref b57)]))) (fun t k => XS.dup X57.here hx rfl (hb hby at_78) rfl rfl k) ?_
      refine Goes.via (S' := (T57.setTop (mkF m 80 #[.val (.int p0), .val (.int p1), .val (.int p2), .val (.int p3), .val (.int kk), .val (.int ss), .val (.int cc), .unset, .unset, .unset, .unset, .unset] [(.int (0 : Int32)), (.ref b57), (.ref b57)]))) (fun t k => XS.iconst X57.here hx rfl (hb hby at_79) k) ?_
      refine Goes.via (S' := (T57.setTop (mkF m 81 #[.val (.int p0), .val (.int p1), .val (.int p2), .val (.int p3), .val (.int kk), .val (.int ss), .val (.int cc), .unset, .unset, .unset, .unset, .unset] [(.int (0 : Int32)), (.int (0 : Int32)), (.ref b57), (.ref b57)]))) (fun t k => XS.iconst X57.here hx rfl (hb hby at_80) k) ?_
      obtain ⟨cl59, Ar59, q59, S59, M59, Hs59, G59⟩ := id f58
      have hin59 : ¬ ((0 : Int32) < 0 ∨ cl59.slots.size ≤ ((0 : Int32)).toNatClampNeg) := inb_of S59 ⟨by decide, by decide⟩
      obtain ⟨T59, h59, X59, e59, W59, st59⟩ := stI X57 hx hZ e57 Ar59 (j := (0 : Int32)) hin59 (g := (mkF m 81 #[.val (.int p0), .val (.int p1), .val (.int p2), .val (.int p3), .val (.int kk), .val (.int ss), .val (.int cc), .unset, .unset, .unset, .unset, .unset] [(.int (0 : Int32)), (.int (0 : Int32)), (.ref b57), (.ref b57)])) rfl rfl (hb hby at_81)
      have f60 : Arv Z h59 b57 k57 .int (2 : Int32) [(.int (0 : Int32)), (.int (0 : Int32))] (.int (0 : Int32)) := Arv.set Ar59 q59 S59 M59 Hs59 G59 rfl W59 0 rfl (Nat.le_of_ble_eq_true rfl)
      have K59 : Keep h0 h59 [] := Keep.wr K57 W59 (Or.inr sz_b57)
      have Z59 : n0 ≤ h59.size := Nat.le_trans Z0 K59.1
      have N59 := Fr.snoc X59 N0 g_b57
      refine Goes.via (S' := (T59.setTop (mkF m 82 #[.val (.int p0), .val (.int p1), .val (.int p2), .val (.int p3), .val (.int kk), .val (.int ss), .val (.int cc), .unset, .unset, .unset, .unset, .unset] [(.ref b57)]))) (fun t k => st59 _ k) ?_
      refine Goes.via (S' := (T59.setTop (mkF m 83 #[.val (.int p0), .val (.int p1), .val (.int p2), .val (.int p3), .val (.int kk), .val (.int ss), .val (.int cc), .unset, .unset, .unset, .unset, .unset] [(.ref b57), (.ref b57)]))) (fun t k => XS.dup X59.here hx rfl (hb hby at_82) rfl rfl k) ?_
      refine Goes.via (S' := (T59.setTop (mkF m 84 #[.val (.int p0), .val (.int p1), .val (.int p2), .val (.int p3), .val (.int kk), .val (.int ss), .val (.int cc), .unset, .unset, .unset, .unset, .unset] [(.int (1 : Int32)), (.ref b57), (.ref b57)]))) (fun t k => XS.iconst X59.here hx rfl (hb hby at_83) k) ?_
      refine Goes.via (S' := (T59.setTop (mkF m 86 #[.val (.int p0), .val (.int p1), .val (.int p2), .val (.int p3), .val (.int kk), .val (.int ss), .val (.int cc), .unset, .unset, .unset, .unset, .unset] [(.int (10 : Int32)), (.int (1 : Int32)), (.ref b57), (.ref b57)]))) (fun t k => XS.bipush X59.here hx rfl (hb hby at_84) k) ?_
      obtain ⟨cl61, Ar61, q61, S61, M61, Hs61, G61⟩ := id f60
      have hin61 : ¬ ((1 : Int32) < 0 ∨ cl61.slots.size ≤ ((1 : Int32)).toNatClampNeg) := inb_of S61 ⟨by decide, by decide⟩
      obtain ⟨T61, h61, X61, e61, W61, st61⟩ := stI X59 hx hZ e59 Ar61 (j := (1 : Int32)) hin61 (g := (mkF m 86 #[.val (.int p0), .val (.int p1), .val (.int p2), .val (.int p3), .val (.int kk), .val (.int ss), .val (.int cc), .unset, .unset, .unset, .unset, .unset] [(.int (10 : Int32)), (.int (1 : Int32)), (.ref b57), (.ref b57)])) rfl rfl (hb hby at_86)
      have f62 : Arv Z h61 b57 k57 .int (2 : Int32) [(.int (0 : Int32)), (.int (10 : Int32))] (.int (0 : Int32)) := Arv.set Ar61 q61 S61 M61 Hs61 G61 rfl W61 1 rfl (Nat.le_of_ble_eq_true rfl)
      have K61 : Keep h0 h61 [] := Keep.wr K59 W61 (Or.inr sz_b57)
      have Z61 : n0 ≤ h61.size := Nat.le_trans Z0 K61.1
      have N61 := Fr.snoc X61 N59 g_b57
      refine Goes.via (S' := (T61.setTop (mkF m 87 #[.val (.int p0), .val (.int p1), .val (.int p2), .val (.int p3), .val (.int kk), .val (.int ss), .val (.int cc), .unset, .unset, .unset, .unset, .unset] [(.ref b57)]))) (fun t k => st61 _ k) ?_
      refine Goes.via (S' := (T61.setTop (mkF m 89 #[.val (.int p0), .val (.int p1), .val (.int p2), .val (.int p3), .val (.int kk), .val (.int ss), .val (.int cc), .val (.ref b57), .unset, .unset, .unset, .unset] []))) (fun t k => XS.astore X61.here hx rfl (hb hby at_87) rfl rfl (l' := #[.val (.int p0), .val (.int p1), .val (.int p2), .val (.int p3), .val (.int kk), .val (.int ss), .val (.int cc), .val (.ref b57), .unset, .unset, .unset, .unset]) rfl k) ?_
      refine Goes.via (S' := (T61.setTop (mkF m 91 #[.val (.int p0), .val (.int p1), .val (.int p2), .val (.int p3), .val (.int kk), .val (.int ss), .val (.int cc), .val (.ref b57), .unset, .unset, .unset, .unset] [(.int (6 : Int32))]))) (fun t k => XS.bipush X61.here hx rfl (hb hby at_89) k) ?_
      obtain ⟨T63, h63, k63, X63, e63, E63, A63, st63⟩ := newP X61 hx hZ (hw _ (List.mem_of_getElem? (i := 0) rfl)) e61 (g := (mkF m 91 #[.val (.int p0), .val (.int p1), .val (.int p2), .val (.int p3), .val (.int kk), .val (.int ss), .val (.int cc), .val (.ref b57), .unset, .unset, .unset, .unset] [(.int (6 : Int32))])) rfl (hb hby at_91) rfl (by decide) (cap := 6) (by decide) (by decide) (by decide) (by decide)
      obtain ⟨b63, g63⟩ : ∃ z, z = h61.size := ⟨_, rfl⟩
      rw [← g63] at A63 st63
      have f64 : Arv Z h63 b57 k57 .int (2 : Int32) [(.int (0 : Int32)), (.int (10 : Int32))] (.int (0 : Int32)) := f62.ext E63
      have K63 : Keep h0 h63 [] := Keep.ext K61 E63
      have Z63 : n0 ≤ h63.size := Nat.le_trans Z0 K63.1
      have g_b63 : n0 ≤ b63 := Nat.le_trans Z61 (Nat.le_of_eq g63.symm)
      have sz_b63 : h0.size ≤ b63 := Nat.le_trans (K61).1 (Nat.le_of_eq g63.symm)
      have ne_b57_b63 : b57 ≠ b63 := Nat.ne_of_lt (Nat.lt_of_lt_of_le f62.lt (Nat.le_of_eq g63.symm))
      have f65 : Arv Z h63 b63 k63 .int (6 : Int32) [(.int (0 : Int32)), (.int (0 : Int32)), (.int (0 : Int32)), (.int (0 : Int32)), (.int (0 : Int32)), (.int (0 : Int32))] (.int (0 : Int32)) := (Arv.new A63 (by decide)).pad (pad_rep [] (.int (0 : Int32)) 6)
      refine Goes.via (S' := (T63.setTop (mkF m 93 #[.val (.int p0), .val (.int p1), .val (.int p2), .val (.int p3), .val (.int kk), .val (.int ss), .val (.int cc), .val (.ref b57), .unset, .unset, .unset, .unset] [(.ref b63)]))) (fun t k => st63 _ k) ?_
      refine Goes.via (S' := (T63.setTop (mkF m 94 #[.val (.int p0), .val (.int p1), .val (.int p2), .val (.int p3), .val (.int kk), .val (.int ss), .val (.int cc), .val (.ref b57), .unset, .unset, .unset, .unset] [(.ref b63), (.ref b63)]))) (fun t k => XS.dup X63.here hx rfl (hb hby at_93) rfl rfl k) ?_
      refine Goes.via (S' := (T63.setTop (mkF m 95 #[.val (.int p0), .val (.int p1), .val (.int p2), .val (.int p3), .val (.int kk), .val (.int ss), .val (.int cc), .val (.ref b57), .unset, .unset, .unset, .unset] [(.int (0 : Int32)), (.ref b63), (.ref b63)]))) (fun t k => XS.iconst X63.here hx rfl (hb hby at_94) k) ?_
      refine Goes.via (S' := (T63.setTop (mkF m 96 #[.val (.int p0), .val (.int p1), .val (.int p2), .val (.int p3), .val (.int kk), .val (.int ss), .val (.int cc), .val (.ref b57), .unset, .unset, .unset, .unset] [(.int p0), (.int (0 : Int32)), (.ref b63), (.ref b63)]))) (fun t k => XS.iloadN X63.here hx rfl (hb hby at_95) rfl k) ?_
      refine Goes.via (S' := (T63.setTop (mkF m 97 #[.val (.int p0), .val (.int p1), .val (.int p2), .val (.int p3), .val (.int kk), .val (.int ss), .val (.int cc), .val (.ref b57), .unset, .unset, .unset, .unset] [(.int (0 : Int32)), (.int p0), (.int (0 : Int32)), (.ref b63), (.ref b63)]))) (fun t k => XS.iconst X63.here hx rfl (hb hby at_96) k) ?_
      obtain ⟨_, _, ⟨T66, L66, k66, n66⟩, -, X66, ⟨Lc66, hQ66, l66, y66, z66⟩, st66⟩ := Jvm.LawKit.callS X63 hx (y := (⟨"com/example/parsewright/parsewright/generator/ScannerAutomatonNextPinLaw", "e", "(II)I"⟩ : MethodName)) hown (mvT hZ (hw _ (List.mem_of_getElem? (i := 1) rfl))) (mvT hZ (hw _ (List.mem_of_getElem? (i := 2) rfl))) (mvT hZ (hw _ (List.mem_of_getElem? (i := 3) rfl))) (mvT hZ (hw _ (List.mem_of_getElem? (i := 4) rfl))) (by decide) (backOf (W := 3) (rm1 l Z a0 hw [] p0 (0 : Int32) h63 n0 Z63 ) hZ (hw _ (List.mem_of_getElem? (i := 4) rfl)) (hw _ (List.mem_of_getElem? (i := 3) rfl)) (by decide) (by decide)) (g := (mkF m 97 #[.val (.int p0), .val (.int p1), .val (.int p2), .val (.int p3), .val (.int kk), .val (.int ss), .val (.int cc), .val (.ref b57), .unset, .unset, .unset, .unset] [(.int (0 : Int32)), (.int p0), (.int (0 : Int32)), (.ref b63), (.ref b63)])) rfl (by rw [hml]; rfl) (argsL := [(.int p0), (.int (0 : Int32))]) (rest := [(.int (0 : Int32)), (.ref b63), (.ref b63)]) (lenOf pd_0 rfl) rfl (by show 2 * 0 + _ ≤ _; exact Nat.le_of_eq rfl) (hb hby at_97) (fun _ _ => ⟨rfl, e63, (by decide : 2 + 0 ≤ _), (by decide : 8 + 0 ≤ _)⟩)
      dsimp only [Pt.U, Pt.locs, Pt.cells, Pt.slots] at X66 l66 y66 z66 st66 hQ66
      replace X66 := own_cast X66 l66 y66 z66
      obtain ⟨rfl, N66q, eq66⟩ := hQ66
      have N66 := Fr.app N61 N66q
      refine Goes.via (S' := (T66.setTop (mkF m 100 #[.val (.int p0), .val (.int p1), .val (.int p2), .val (.int p3), .val (.int kk), .val (.int ss), .val (.int cc), .val (.ref b57), .unset, .unset, .unset, .unset] [(.int (own_e p0 (0 : Int32))), (.int (0 : Int32)), (.ref b63), (.ref b63)]))) (fun t k => st66 _ k) ?_
      obtain ⟨cl67, Ar67, q67, S67, M67, Hs67, G67⟩ := id f65
      have hin67 : ¬ ((0 : Int32) < 0 ∨ cl67.slots.size ≤ ((0 : Int32)).toNatClampNeg) := inb_of S67 ⟨by decide, by decide⟩
      obtain ⟨T67, h67, X67, e67, W67, st67⟩ := stI X66 hx hZ eq66 Ar67 (j := (0 : Int32)) hin67 (g := (mkF m 100 #[.val (.int p0), .val (.int p1), .val (.int p2), .val (.int p3), .val (.int kk), .val (.int ss), .val (.int cc), .val (.ref b57), .unset, .unset, .unset, .unset] [(.int (own_e p0 (0 : Int32))), (.int (0 : Int32)), (.ref b63), (.ref b63)])) rfl rfl (hb hby at_100)
      have f68 : Arv Z h67 b57 k57 .int (2 : Int32) [(.int (0 : Int32)), (.int (10 : Int32))] (.int (0 : Int32)) := f64.other W67 ne_b57_b63
      have f69 : Arv Z h67 b63 k63 .int (6 : Int32) [(.int (own_e p0 (0 : Int32))), (.int (0 : Int32)), (.int (0 : Int32)), (.int (0 : Int32)), (.int (0 : Int32)), (.int (0 : Int32))] (.int (0 : Int32)) := Arv.set Ar67 q67 S67 M67 Hs67 G67 rfl W67 0 rfl (Nat.le_of_ble_eq_true rfl)
      have K67 : Keep h0 h67 [] := Keep.wr K63 W67 (Or.inr sz_b63)
      have Z67 : n0 ≤ h67.size := Nat.le_trans Z0 K67.1
      have N67 := Fr.snoc X67 N66 g_b63
      refine Goes.via (S' := (T67.setTop (mkF m 101 #[.val (.int p0), .val (.int p1), .val (.int p2), .val (.int p3), .val (.int kk), .val (.int ss), .val (.int cc), .val (.ref b57), .unset, .unset, .unset, .unset] [(.ref b63)]))) (fun t k => st67 _ k) ?_
      refine Goes.via (S' := (T67.setTop (mkF m 102 #[.val (.int p0), .val (.int p1), .val (.int p2), .val (.int p3), .val (.int kk), .val (.int ss), .val (.int cc), .val (.ref b57), .unset, .unset, .unset, .unset] [(.ref b63), (.ref b63)]))) (fun t k => XS.dup X67.here hx rfl (hb hby at_101) rfl rfl k) ?_
      refine Goes.via (S' := (T67.setTop (mkF m 103 #[.val (.int p0), .val (.int p1), .val (.int p2), .val (.int p3), .val (.int kk), .val (.int ss), .val (.int cc), .val (.ref b57), .unset, .unset, .unset, .unset] [(.int (1 : Int32)), (.ref b63), (.ref b63)]))) (fun t k => XS.iconst X67.here hx rfl (hb hby at_102) k) ?_
      refine Goes.via (S' := (T67.setTop (mkF m 104 #[.val (.int p0), .val (.int p1), .val (.int p2), .val (.int p3), .val (.int kk), .val (.int ss), .val (.int cc), .val (.ref b57), .unset, .unset, .unset, .unset] [(.int p0), (.int (1 : Int32)), (.ref b63), (.ref b63)]))) (fun t k => XS.iloadN X67.here hx rfl (hb hby at_103) rfl k) ?_
      refine Goes.via (S' := (T67.setTop (mkF m 105 #[.val (.int p0), .val (.int p1), .val (.int p2), .val (.int p3), .val (.int kk), .val (.int ss), .val (.int cc), .val (.ref b57), .unset, .unset, .unset, .unset] [(.int (1 : Int32)), (.int p0), (.int (1 : Int32)), (.ref b63), (.ref b63)]))) (fun t k => XS.iconst X67.here hx rfl (hb hby at_104) k) ?_
      obtain ⟨_, _, ⟨T70, L70, k70, n70⟩, -, X70, ⟨Lc70, hQ70, l70, y70, z70⟩, st70⟩ := Jvm.LawKit.callS X67 hx (y := (⟨"com/example/parsewright/parsewright/generator/ScannerAutomatonNextPinLaw", "e", "(II)I"⟩ : MethodName)) hown (mvT hZ (hw _ (List.mem_of_getElem? (i := 1) rfl))) (mvT hZ (hw _ (List.mem_of_getElem? (i := 2) rfl))) (mvT hZ (hw _ (List.mem_of_getElem? (i := 3) rfl))) (mvT hZ (hw _ (List.mem_of_getElem? (i := 4) rfl))) (by decide) (backOf (W := 3) (rm1 l Z a0 hw [] p0 (1 : Int32) h67 n0 Z67 ) hZ (hw _ (List.mem_of_getElem? (i := 4) rfl)) (hw _ (List.mem_of_getElem? (i := 3) rfl)) (by decide) (by decide)) (g := (mkF m 105 #[.val (.int p0), .val (.int p1), .val (.int p2), .val (.int p3), .val (.int kk), .val (.int ss), .val (.int cc), .val (.ref b57), .unset, .unset, .unset, .unset] [(.int (1 : Int32)), (.int p0), (.int (1 : Int32)), (.ref b63), (.ref b63)])) rfl (by rw [hml]; rfl) (argsL := [(.int p0), (.int (1 : Int32))]) (rest := [(.int (1 : Int32)), (.ref b63), (.ref b63)]) (lenOf pd_0 rfl) rfl (by show 2 * 0 + _ ≤ _; exact Nat.le_of_eq rfl) (hb hby at_105) (fun _ _ => ⟨rfl, e67, (by decide : 2 + 0 ≤ _), (by decide : 8 + 0 ≤ _)⟩)
      dsimp only [Pt.U, Pt.locs, Pt.cells, Pt.slots] at X70 l70 y70 z70 st70 hQ70
      replace X70 := own_cast X70 l70 y70 z70
      obtain ⟨rfl, N70q, eq70⟩ := hQ70
      have N70 := Fr.app N67 N70q
      refine Goes.via (S' := (T70.setTop (mkF m 108 #[.val (.int p0), .val (.int p1), .val (.int p2), .val (.int p3), .val (.int kk), .val (.int ss), .val (.int cc), .val (.ref b57), .unset, .unset, .unset, .unset] [(.int (own_e p0 (1 : Int32))), (.int (1 : Int32)), (.ref b63), (.ref b63)]))) (fun t k => st70 _ k) ?_
      obtain ⟨cl71, Ar71, q71, S71, M71, Hs71, G71⟩ := id f69
      have hin71 : ¬ ((1 : Int32) < 0 ∨ cl71.slots.size ≤ ((1 : Int32)).toNatClampNeg) := inb_of S71 ⟨by decide, by decide⟩
      obtain ⟨T71, h71, X71, e71, W71, st71⟩ := stI X70 hx hZ eq70 Ar71 (j := (1 : Int32)) hin71 (g := (mkF m 108 #[.val (.int p0), .val (.int p1), .val (.int p2), .val (.int p3), .val (.int kk), .val (.int ss), .val (.int cc), .val (.ref b57), .unset, .unset, .unset, .unset] [(.int (own_e p0 (1 : Int32))), (.int (1 : Int32)), (.ref b63), (.ref b63)])) rfl rfl (hb hby at_108)
      have f72 : Arv Z h71 b57 k57 .int (2 : Int32) [(.int (0 : Int32)), (.int (10 : Int32))] (.int (0 : Int32)) := f68.other W71 ne_b57_b63
      have f73 : Arv Z h71 b63 k63 .int (6 : Int32) [(.int (own_e p0 (0 : Int32))), (.int (own_e p0 (1 : Int32))), (.int (0 : Int32)), (.int (0 : Int32)), (.int (0 : Int32)), (.int (0 : Int32))] (.int (0 : Int32)) := Arv.set Ar71 q71 S71 M71 Hs71 G71 rfl W71 1 rfl (Nat.le_of_ble_eq_true rfl)
      have K71 : Keep h0 h71 [] := Keep.wr K67 W71 (Or.inr sz_b63)
      have Z71 : n0 ≤ h71.size := Nat.le_trans Z0 K71.1
      have N71 := Fr.snoc X71 N70 g_b63
      refine Goes.via (S' := (T71.setTop (mkF m 109 #[.val (.int p0), .val (.int p1), .val (.int p2), .val (.int p3), .val (.int kk), .val (.int ss), .val (.int cc), .val (.ref b57), .unset, .unset, .unset, .unset] [(.ref b63)]))) (fun t k => st71 _ k) ?_
      refine Goes.via (S' := (T71.setTop (mkF m 110 #[.val (.int p0), .val (.int p1), .val (.int p2), .val (.int p3), .val (.int kk), .val (.int ss), .val (.int cc), .val (.ref b57), .unset, .unset, .unset, .unset] [(.ref b63), (.ref b63)]))) (fun t k => XS.dup X71.here hx rfl (hb hby at_109) rfl rfl k) ?_
      refine Goes.via (S' := (T71.setTop (mkF m 111 #[.val (.int p0), .val (.int p1), .val (.int p2), .val (.int p3), .val (.int kk), .val (.int ss), .val (.int cc), .val (.ref b57), .unset, .unset, .unset, .unset] [(.int (2 : Int32)), (.ref b63), (.ref b63)]))) (fun t k => XS.iconst X71.here hx rfl (hb hby at_110) k) ?_
      refine Goes.via (S' := (T71.setTop (mkF m 112 #[.val (.int p0), .val (.int p1), .val (.int p2), .val (.int p3), .val (.int kk), .val (.int ss), .val (.int cc), .val (.ref b57), .unset, .unset, .unset, .unset] [(.int p1), (.int (2 : Int32)), (.ref b63), (.ref b63)]))) (fun t k => XS.iloadN X71.here hx rfl (hb hby at_111) rfl k) ?_
      refine Goes.via (S' := (T71.setTop (mkF m 113 #[.val (.int p0), .val (.int p1), .val (.int p2), .val (.int p3), .val (.int kk), .val (.int ss), .val (.int cc), .val (.ref b57), .unset, .unset, .unset, .unset] [(.int (0 : Int32)), (.int p1), (.int (2 : Int32)), (.ref b63), (.ref b63)]))) (fun t k => XS.iconst X71.here hx rfl (hb hby at_112) k) ?_
      obtain ⟨_, _, ⟨T74, L74, k74, n74⟩, -, X74, ⟨Lc74, hQ74, l74, y74, z74⟩, st74⟩ := Jvm.LawKit.callS X71 hx (y := (⟨"com/example/parsewright/parsewright/generator/ScannerAutomatonNextPinLaw", "e", "(II)I"⟩ : MethodName)) hown (mvT hZ (hw _ (List.mem_of_getElem? (i := 1) rfl))) (mvT hZ (hw _ (List.mem_of_getElem? (i := 2) rfl))) (mvT hZ (hw _ (List.mem_of_getElem? (i := 3) rfl))) (mvT hZ (hw _ (List.mem_of_getElem? (i := 4) rfl))) (by decide) (backOf (W := 3) (rm1 l Z a0 hw [] p1 (0 : Int32) h71 n0 Z71 ) hZ (hw _ (List.mem_of_getElem? (i := 4) rfl)) (hw _ (List.mem_of_getElem? (i := 3) rfl)) (by decide) (by decide)) (g := (mkF m 113 #[.val (.int p0), .val (.int p1), .val (.int p2), .val (.int p3), .val (.int kk), .val (.int ss), .val (.int cc), .val (.ref b57), .unset, .unset, .unset, .unset] [(.int (0 : Int32)), (.int p1), (.int (2 : Int32)), (.ref b63), (.ref b63)])) rfl (by rw [hml]; rfl) (argsL := [(.int p1), (.int (0 : Int32))]) (rest := [(.int (2 : Int32)), (.ref b63), (.ref b63)]) (lenOf pd_0 rfl) rfl (by show 2 * 0 + _ ≤ _; exact Nat.le_of_eq rfl) (hb hby at_113) (fun _ _ => ⟨rfl, e71, (by decide : 2 + 0 ≤ _), (by decide : 8 + 0 ≤ _)⟩)
      dsimp only [Pt.U, Pt.locs, Pt.cells, Pt.slots] at X74 l74 y74 z74 st74 hQ74
      replace X74 := own_cast X74 l74 y74 z74
      obtain ⟨rfl, N74q, eq74⟩ := hQ74
      have N74 := Fr.app N71 N74q
      refine Goes.via (S' := (T74.setTop (mkF m 116 #[.val (.int p0), .val (.int p1), .val (.int p2), .val (.int p3), .val (.int kk), .val (.int ss), .val (.int cc), .val (.ref b57), .unset, .unset, .unset, .unset] [(.int (own_e p1 (0 : Int32))), (.int (2 : Int32)), (.ref b63), (.ref b63)]))) (fun t k => st74 _ k) ?_
      obtain ⟨cl75, Ar75, q75, S75, M75, Hs75, G75⟩ := id f73
      have hin75 : ¬ ((2 : Int32) < 0 ∨ cl75.slots.size ≤ ((2 : Int32)).toNatClampNeg) := inb_of S75 ⟨by decide, by decide⟩
      obtain ⟨T75, h75, X75, e75, W75, st75⟩ := stI X74 hx hZ eq74 Ar75 (j := (2 : Int32)) hin75 (g := (mkF m 116 #[.val (.int p0), .val (.int p1), .val (.int p2), .val (.int p3), .val (.int kk), .val (.int ss), .val (.int cc), .val (.ref b57), .unset, .unset, .unset, .unset] [(.int (own_e p1 (0 : Int32))), (.int (2 : Int32)), (.ref b63), (.ref b63)])) rfl rfl (hb hby at_116)
      have f76 : Arv Z h75 b57 k57 .int (2 : Int32) [(.int (0 : Int32)), (.int (10 : Int32))] (.int (0 : Int32)) := f72.other W75 ne_b57_b63
      have f77 : Arv Z h75 b63 k63 .int (6 : Int32) [(.int (own_e p0 (0 : Int32))), (.int (own_e p0 (1 : Int32))), (.int (own_e p1 (0 : Int32))), (.int (0 : Int32)), (.int (0 : Int32)), (.int (0 : Int32))] (.int (0 : Int32)) := Arv.set Ar75 q75 S75 M75 Hs75 G75 rfl W75 2 rfl (Nat.le_of_ble_eq_true rfl)
      have K75 : Keep h0 h75 [] := Keep.wr K71 W75 (Or.inr sz_b63)
      have Z75 : n0 ≤ h75.size := Nat.le_trans Z0 K75.1
      have N75 := Fr.snoc X75 N74 g_b63
      refine Goes.via (S' := (T75.setTop (mkF m 117 #[.val (.int p0), .val (.int p1), .val (.int p2), .val (.int p3), .val (.int kk), .val (.int ss), .val (.int cc), .val (.ref b57), .unset, .unset, .unset, .unset] [(.ref b63)]))) (fun t k => st75 _ k) ?_
      refine Goes.via (S' := (T75.setTop (mkF m 118 #[.val (.int p0), .val (.int p1), .val (.int p2), .val (.int p3), .val (.int kk), .val (.int ss), .val (.int cc), .val (.ref b57), .unset, .unset, .unset, .unset] [(.ref b63), (.ref b63)]))) (fun t k => XS.dup X75.here hx rfl (hb hby at_117) rfl rfl k) ?_
      refine Goes.via (S' := (T75.setTop (mkF m 119 #[.val (.int p0), .val (.int p1), .val (.int p2), .val (.int p3), .val (.int kk), .val (.int ss), .val (.int cc), .val (.ref b57), .unset, .unset, .unset, .unset] [(.int (3 : Int32)), (.ref b63), (.ref b63)]))) (fun t k => XS.iconst X75.here hx rfl (hb hby at_118) k) ?_
      refine Goes.via (S' := (T75.setTop (mkF m 120 #[.val (.int p0), .val (.int p1), .val (.int p2), .val (.int p3), .val (.int kk), .val (.int ss), .val (.int cc), .val (.ref b57), .unset, .unset, .unset, .unset] [(.int p1), (.int (3 : Int32)), (.ref b63), (.ref b63)]))) (fun t k => XS.iloadN X75.here hx rfl (hb hby at_119) rfl k) ?_
      refine Goes.via (S' := (T75.setTop (mkF m 121 #[.val (.int p0), .val (.int p1), .val (.int p2), .val (.int p3), .val (.int kk), .val (.int ss), .val (.int cc), .val (.ref b57), .unset, .unset, .unset, .unset] [(.int (1 : Int32)), (.int p1), (.int (3 : Int32)), (.ref b63), (.ref b63)]))) (fun t k => XS.iconst X75.here hx rfl (hb hby at_120) k) ?_
      obtain ⟨_, _, ⟨T78, L78, k78, n78⟩, -, X78, ⟨Lc78, hQ78, l78, y78, z78⟩, st78⟩ := Jvm.LawKit.callS X75 hx (y := (⟨"com/example/parsewright/parsewright/generator/ScannerAutomatonNextPinLaw", "e", "(II)I"⟩ : MethodName)) hown (mvT hZ (hw _ (List.mem_of_getElem? (i := 1) rfl))) (mvT hZ (hw _ (List.mem_of_getElem? (i := 2) rfl))) (mvT hZ (hw _ (List.mem_of_getElem? (i := 3) rfl))) (mvT hZ (hw _ (List.mem_of_getElem? (i := 4) rfl))) (by decide) (backOf (W := 3) (rm1 l Z a0 hw [] p1 (1 : Int32) h75 n0 Z75 ) hZ (hw _ (List.mem_of_getElem? (i := 4) rfl)) (hw _ (List.mem_of_getElem? (i := 3) rfl)) (by decide) (by decide)) (g := (mkF m 121 #[.val (.int p0), .val (.int p1), .val (.int p2), .val (.int p3), .val (.int kk), .val (.int ss), .val (.int cc), .val (.ref b57), .unset, .unset, .unset, .unset] [(.int (1 : Int32)), (.int p1), (.int (3 : Int32)), (.ref b63), (.ref b63)])) rfl (by rw [hml]; rfl) (argsL := [(.int p1), (.int (1 : Int32))]) (rest := [(.int (3 : Int32)), (.ref b63), (.ref b63)]) (lenOf pd_0 rfl) rfl (by show 2 * 0 + _ ≤ _; exact Nat.le_of_eq rfl) (hb hby at_121) (fun _ _ => ⟨rfl, e75, (by decide : 2 + 0 ≤ _), (by decide : 8 + 0 ≤ _)⟩)
      dsimp only [Pt.U, Pt.locs, Pt.cells, Pt.slots] at X78 l78 y78 z78 st78 hQ78
      replace X78 := own_cast X78 l78 y78 z78
      obtain ⟨rfl, N78q, eq78⟩ := hQ78
      have N78 := Fr.app N75 N78q
      refine Goes.via (S' := (T78.setTop (mkF m 124 #[.val (.int p0), .val (.int p1), .val (.int p2), .val (.int p3), .val (.int kk), .val (.int ss), .val (.int cc), .val (.ref b57), .unset, .unset, .unset, .unset] [(.int (own_e p1 (1 : Int32))), (.int (3 : Int32)), (.ref b63), (.ref b63)]))) (fun t k => st78 _ k) ?_
      obtain ⟨cl79, Ar79, q79, S79, M79, Hs79, G79⟩ := id f77
      have hin79 : ¬ ((3 : Int32) < 0 ∨ cl79.slots.size ≤ ((3 : Int32)).toNatClampNeg) := inb_of S79 ⟨by decide, by decide⟩
      obtain ⟨T79, h79, X79, e79, W79, st79⟩ := stI X78 hx hZ eq78 Ar79 (j := (3 : Int32)) hin79 (g := (mkF m 124 #[.val (.int p0), .val (.int p1), .val (.int p2), .val (.int p3), .val (.int kk), .val (.int ss), .val (.int cc), .val (.ref b57), .unset, .unset, .unset, .unset] [(.int (own_e p1 (1 : Int32))), (.int (3 : Int32)), (.ref b63), (.ref b63)])) rfl rfl (hb hby at_124)
      have f80 : Arv Z h79 b57 k57 .int (2 : Int32) [(.int (0 : Int32)), (.int (10 : Int32))] (.int (0 : Int32)) := f76.other W79 ne_b57_b63
      have f81 : Arv Z h79 b63 k63 .int (6 : Int32) [(.int (own_e p0 (0 : Int32))), (.int (own_e p0 (1 : Int32))), (.int (own_e p1 (0 : Int32))), (.int (own_e p1 (1 : Int32))), (.int (0 : Int32)), (.int (0 : Int32))] (.int (0 : Int32)) := Arv.set Ar79 q79 S79 M79 Hs79 G79 rfl W79 3 rfl (Nat.le_of_ble_eq_true rfl)
      have K79 : Keep h0 h79 [] := Keep.wr K75 W79 (Or.inr sz_b63)
      have Z79 : n0 ≤ h79.size := Nat.le_trans Z0 K79.1
      have N79 := Fr.snoc X79 N78 g_b63
      refine Goes.via (S' := (T79.setTop (mkF m 125 #[.val (.int p0), .val (.int p1), .val (.int p2), .val (.int p3), .val (.int kk), .val (.int ss), .val (.int cc), .val (.ref b57), .unset, .unset, .unset, .unset] [(.ref b63)]))) (fun t k => st79 _ k) ?_
      refine Goes.via (S' := (T79.setTop (mkF m 126 #[.val (.int p0), .val (.int p1), .val (.int p2), .val (.int p3), .val (.int kk), .val (.int ss), .val (.int cc), .val (.ref b57), .unset, .unset, .unset, .unset] [(.ref b63), (.ref b63)]))) (fun t k => XS.dup X79.here hx rfl (hb hby at_125) rfl rfl k) ?_
      refine Goes.via (S' := (T79.setTop (mkF m 127 #[.val (.int p0), .val (.int p1), .val (.int p2), .val (.int p3), .val (.int kk), .val (.int ss), .val (.int cc), .val (.ref b57), .unset, .unset, .unset, .unset] [(.int (4 : Int32)), (.ref b63), (.ref b63)]))) (fun t k => XS.iconst X79.here hx rfl (hb hby at_126) k) ?_
      refine Goes.via (S' := (T79.setTop (mkF m 128 #[.val (.int p0), .val (.int p1), .val (.int p2), .val (.int p3), .val (.int kk), .val (.int ss), .val (.int cc), .val (.ref b57), .unset, .unset, .unset, .unset] [(.int p2), (.int (4 : Int32)), (.ref b63), (.ref b63)]))) (fun t k => XS.iloadN X79.here hx rfl (hb hby at_127) rfl k) ?_
      refine Goes.via (S' := (T79.setTop (mkF m 129 #[.val (.int p0), .val (.int p1), .val (.int p2), .val (.int p3), .val (.int kk), .val (.int ss), .val (.int cc), .val (.ref b57), .unset, .unset, .unset, .unset] [(.int (0 : Int32)), (.int p2), (.int (4 : Int32)), (.ref b63), (.ref b63)]))) (fun t k => XS.iconst X79.here hx rfl (hb hby at_128) k) ?_
      obtain ⟨_, _, ⟨T82, L82, k82, n82⟩, -, X82, ⟨Lc82, hQ82, l82, y82, z82⟩, st82⟩ := Jvm.LawKit.callS X79 hx (y := (⟨"com/example/parsewright/parsewright/generator/ScannerAutomatonNextPinLaw", "e", "(II)I"⟩ : MethodName)) hown (mvT hZ (hw _ (List.mem_of_getElem? (i := 1) rfl))) (mvT hZ (hw _ (List.mem_of_getElem? (i := 2) rfl))) (mvT hZ (hw _ (List.mem_of_getElem? (i := 3) rfl))) (mvT hZ (hw _ (List.mem_of_getElem? (i := 4) rfl))) (by decide) (backOf (W := 3) (rm1 l Z a0 hw [] p2 (0 : Int32) h79 n0 Z79 ) hZ (hw _ (List.mem_of_getElem? (i := 4) rfl)) (hw _ (List.mem_of_getElem? (i := 3) rfl)) (by decide) (by decide)) (g := (mkF m 129 #[.val (.int p0), .val (.int p1), .val (.int p2), .val (.int p3), .val (.int kk), .val (.int ss), .val (.int cc), .val (.ref b57), .unset, .unset, .unset, .unset] [(.int (0 : Int32)), (.int p2), (.int (4 : Int32)), (.ref b63), (.ref b63)])) rfl (by rw [hml]; rfl) (argsL := [(.int p2), (.int (0 : Int32))]) (rest := [(.int (4 : Int32)), (.ref b63), (.ref b63)]) (lenOf pd_0 rfl) rfl (by show 2 * 0 + _ ≤ _; exact Nat.le_of_eq rfl) (hb hby at_129) (fun _ _ => ⟨rfl, e79, (by decide : 2 + 0 ≤ _), (by decide : 8 + 0 ≤ _)⟩)
      dsimp only [Pt.U, Pt.locs, Pt.cells, Pt.slots] at X82 l82 y82 z82 st82 hQ82
      replace X82 := own_cast X82 l82 y82 z82
      obtain ⟨rfl, N82q, eq82⟩ := hQ82
      have N82 := Fr.app N79 N82q
      refine Goes.via (S' := (T82.setTop (mkF m 132 #[.val (.int p0), .val (.int p1), .val (.int p2), .val (.int p3), .val (.int kk), .val (.int ss), .val (.int cc), .val (.ref b57), .unset, .unset, .unset, .unset] [(.int (own_e p2 (0 : Int32))), (.int (4 : Int32)), (.ref b63), (.ref b63)]))) (fun t k => st82 _ k) ?_
      obtain ⟨cl83, Ar83, q83, S83, M83, Hs83, G83⟩ := id f81
      have hin83 : ¬ ((4 : Int32) < 0 ∨ cl83.slots.size ≤ ((4 : Int32)).toNatClampNeg) := inb_of S83 ⟨by decide, by decide⟩
      obtain ⟨T83, h83, X83, e83, W83, st83⟩ := stI X82 hx hZ eq82 Ar83 (j := (4 : Int32)) hin83 (g := (mkF m 132 #[.val (.int p0), .val (.int p1), .val (.int p2), .val (.int p3), .val (.int kk), .val (.int ss), .val (.int cc), .val (.ref b57), .unset, .unset, .unset, .unset] [(.int (own_e p2 (0 : Int32))), (.int (4 : Int32)), (.ref b63), (.ref b63)])) rfl rfl (hb hby at_132)
      have f84 : Arv Z h83 b57 k57 .int (2 : Int32) [(.int (0 : Int32)), (.int (10 : Int32))] (.int (0 : Int32)) := f80.other W83 ne_b57_b63
      have f85 : Arv Z h83 b63 k63 .int (6 : Int32) [(.int (own_e p0 (0 : Int32))), (.int (own_e p0 (1 : Int32))), (.int (own_e p1 (0 : Int32))), (.int (own_e p1 (1 : Int32))), (.int (own_e p2 (0 : Int32))), (.int (0 : Int32))] (.int (0 : Int32)) := Arv.set Ar83 q83 S83 M83 Hs83 G83 rfl W83 4 rfl (Nat.le_of_ble_eq_true rfl)
      have K83 : Keep h0 h83 [] := Keep.wr K79 W83 (Or.inr sz_b63)
      have Z83 : n0 ≤ h83.size := Nat.le_trans Z0 K83.1
      have N83 := Fr.snoc X83 N82 g_b63
      refine Goes.via (S' := (T83.setTop (mkF m 133 #[.val (.int p0), .val (.int p1), .val (.int p2), .val (.int p3), .val (.int kk), .val (.int ss), .val (.int cc), .val (.ref b57), .unset, .unset, .unset, .unset] [(.ref b63)]))) (fun t k => st83 _ k) ?_
      refine Goes.via (S' := (T83.setTop (mkF m 134 #[.val (.int p0), .val (.int p1), .val (.int p2), .val (.int p3), .val (.int kk), .val (.int ss), .val (.int cc), .val (.ref b57), .unset, .unset, .unset, .unset] [(.ref b63), (.ref b63)]))) (fun t k => XS.dup X83.here hx rfl (hb hby at_133) rfl rfl k) ?_
      refine Goes.via (S' := (T83.setTop (mkF m 135 #[.val (.int p0), .val (.int p1), .val (.int p2), .val (.int p3), .val (.int kk), .val (.int ss), .val (.int cc), .val (.ref b57), .unset, .unset, .unset, .unset] [(.int (5 : Int32)), (.ref b63), (.ref b63)]))) (fun t k => XS.iconst X83.here hx rfl (hb hby at_134) k) ?_
      refine Goes.via (S' := (T83.setTop (mkF m 136 #[.val (.int p0), .val (.int p1), .val (.int p2), .val (.int p3), .val (.int kk), .val (.int ss), .val (.int cc), .val (.ref b57), .unset, .unset, .unset, .unset] [(.int p2), (.int (5 : Int32)), (.ref b63), (.ref b63)]))) (fun t k => XS.iloadN X83.here hx rfl (hb hby at_135) rfl k) ?_
      refine Goes.via (S' := (T83.setTop (mkF m 137 #[.val (.int p0), .val (.int p1), .val (.int p2), .val (.int p3), .val (.int kk), .val (.int ss), .val (.int cc), .val (.ref b57), .unset, .unset, .unset, .unset] [(.int (1 : Int32)), (.int p2), (.int (5 : Int32)), (.ref b63), (.ref b63)]))) (fun t k => XS.iconst X83.here hx rfl (hb hby at_136) k) ?_
      obtain ⟨_, _, ⟨T86, L86, k86, n86⟩, -, X86, ⟨Lc86, hQ86, l86, y86, z86⟩, st86⟩ := Jvm.LawKit.callS X83 hx (y := (⟨"com/example/parsewright/parsewright/generator/ScannerAutomatonNextPinLaw", "e", "(II)I"⟩ : MethodName)) hown (mvT hZ (hw _ (List.mem_of_getElem? (i := 1) rfl))) (mvT hZ (hw _ (List.mem_of_getElem? (i := 2) rfl))) (mvT hZ (hw _ (List.mem_of_getElem? (i := 3) rfl))) (mvT hZ (hw _ (List.mem_of_getElem? (i := 4) rfl))) (by decide) (backOf (W := 3) (rm1 l Z a0 hw [] p2 (1 : Int32) h83 n0 Z83 ) hZ (hw _ (List.mem_of_getElem? (i := 4) rfl)) (hw _ (List.mem_of_getElem? (i := 3) rfl)) (by decide) (by decide)) (g := (mkF m 137 #[.val (.int p0), .val (.int p1), .val (.int p2), .val (.int p3), .val (.int kk), .val (.int ss), .val (.int cc), .val (.ref b57), .unset, .unset, .unset, .unset] [(.int (1 : Int32)), (.int p2), (.int (5 : Int32)), (.ref b63), (.ref b63)])) rfl (by rw [hml]; rfl) (argsL := [(.int p2), (.int (1 : Int32))]) (rest := [(.int (5 : Int32)), (.ref b63), (.ref b63)]) (lenOf pd_0 rfl) rfl (by show 2 * 0 + _ ≤ _; exact Nat.le_of_eq rfl) (hb hby at_137) (fun _ _ => ⟨rfl, e83, (by decide : 2 + 0 ≤ _), (by decide : 8 + 0 ≤ _)⟩)
      dsimp only [Pt.U, Pt.locs, Pt.cells, Pt.slots] at X86 l86 y86 z86 st86 hQ86
      replace X86 := own_cast X86 l86 y86 z86
      obtain ⟨rfl, N86q, eq86⟩ := hQ86
      have N86 := Fr.app N83 N86q
      refine Goes.via (S' := (T86.setTop (mkF m 140 #[.val (.int p0), .val (.int p1), .val (.int p2), .val (.int p3), .val (.int kk), .val (.int ss), .val (.int cc), .val (.ref b57), .unset, .unset, .unset, .unset] [(.int (own_e p2 (1 : Int32))), (.int (5 : Int32)), (.ref b63), (.ref b63)]))) (fun t k => st86 _ k) ?_
      obtain ⟨cl87, Ar87, q87, S87, M87, Hs87, G87⟩ := id f85
      have hin87 : ¬ ((5 : Int32) < 0 ∨ cl87.slots.size ≤ ((5 : Int32)).toNatClampNeg) := inb_of S87 ⟨by decide, by decide⟩
      obtain ⟨T87, h87, X87, e87, W87, st87⟩ := stI X86 hx hZ eq86 Ar87 (j := (5 : Int32)) hin87 (g := (mkF m 140 #[.val (.int p0), .val (.int p1), .val (.int p2), .val (.int p3), .val (.int kk), .val (.int ss), .val (.int cc), .val (.ref b57), .unset, .unset, .unset, .unset] [(.int (own_e p2 (1 : Int32))), (.int (5 : Int32)), (.ref b63), (.ref b63)])) rfl rfl (hb hby at_140)
      have f88 : Arv Z h87 b57 k57 .int (2 : Int32) [(.int (0 : Int32)), (.int (10 : Int32))] (.int (0 : Int32)) := f84.other W87 ne_b57_b63
      have f89 : Arv Z h87 b63 k63 .int (6 : Int32) [(.int (own_e p0 (0 : Int32))), (.int (own_e p0 (1 : Int32))), (.int (own_e p1 (0 : Int32))), (.int (own_e p1 (1 : Int32))), (.int (own_e p2 (0 : Int32))), (.int (own_e p2 (1 : Int32)))] (.int (0 : Int32)) := Arv.set Ar87 q87 S87 M87 Hs87 G87 rfl W87 5 rfl (Nat.le_of_ble_eq_true rfl)
      have K87 : Keep h0 h87 [] := Keep.wr K83 W87 (Or.inr sz_b63)
      have Z87 : n0 ≤ h87.size := Nat.le_trans Z0 K87.1
      have N87 := Fr.snoc X87 N86 g_b63
      refine Goes.via (S' := (T87.setTop (mkF m 141 #[.val (.int p0), .val (.int p1), .val (.int p2), .val (.int p3), .val (.int kk), .val (.int ss), .val (.int cc), .val (.ref b57), .unset, .unset, .unset, .unset] [(.ref b63)]))) (fun t k => st87 _ k) ?_
      refine Goes.via (S' := (T87.setTop (mkF m 143 #[.val (.int p0), .val (.int p1), .val (.int p2), .val (.int p3), .val (.int kk), .val (.int ss), .val (.int cc), .val (.ref b57), .val (.ref b63), .unset, .unset, .unset] []))) (fun t k => XS.astore X87.here hx rfl (hb hby at_141) rfl rfl (l' := #[.val (.int p0), .val (.int p1), .val (.int p2), .val (.int p3), .val (.int kk), .val (.int ss), .val (.int cc), .val (.ref b57), .val (.ref b63), .unset, .unset, .unset]) rfl k) ?_
      refine Goes.via (S' := (T87.setTop (mkF m 387 #[.val (.int p0), .val (.int p1), .val (.int p2), .val (.int p3), .val (.int kk), .val (.int ss), .val (.int cc), .val (.ref b57), .val (.ref b63), .unset, .unset, .unset] []))) (fun t k => XS.goto X87.here hx rfl (pc0 := 143) (pc' := 387) rfl (hb hby at_143) (by decide) (by decide) k) ?_
      refine Goes.via (S' := (T87.setTop (mkF m 388 #[.val (.int p0), .val (.int p1), .val (.int p2), .val (.int p3), .val (.int kk), .val (.int ss), .val (.int cc), .val (.ref b57), .val (.ref b63), .unset, .unset, .unset] [(.int (3 : Int32))]))) (fun t k => XS.iconst X87.here hx rfl (hb hby at_387) k) ?_
      obtain ⟨T90, h90, k90, X90, e90, E90, A90, st90⟩ := newP X87 hx hZ (hw _ (List.mem_of_getElem? (i := 0) rfl)) e87 (g := (mkF m 388 #[.val (.int p0), .val (.int p1), .val (.int p2), .val (.int p3), .val (.int kk), .val (.int ss), .val (.int cc), .val (.ref b57), .val (.ref b63), .unset, .unset, .unset] [(.int (3 : Int32))])) rfl (hb hby at_388) rfl (by decide) (cap := 3) (by decide) (by decide) (by decide) (by decide)
      obtain ⟨b90, g90⟩ : ∃ z, z = h87.size := ⟨_, rfl⟩
      rw [← g90] at A90 st90
      have f91 : Arv Z h90 b57 k57 .int (2 : Int32) [(.int (0 : Int32)), (.int (10 : Int32))] (.int (0 : Int32)) := f88.ext E90
      have f92 : Arv Z h90 b63 k63 .int (6 : Int32) [(.int (own_e p0 (0 : Int32))), (.int (own_e p0 (1 : Int32))), (.int (own_e p1 (0 : Int32))), (.int (own_e p1 (1 : Int32))), (.int (own_e p2 (0 : Int32))), (.int (own_e p2 (1 : Int32)))] (.int (0 : Int32)) := f89.ext E90
      have K90 : Keep h0 h90 [] := Keep.ext K87 E90
      have Z90 : n0 ≤ h90.size := Nat.le_trans Z0 K90.1
      have g_b90 : n0 ≤ b90 := Nat.le_trans Z87 (Nat.le_of_eq g90.symm)
      have sz_b90 : h0.size ≤ b90 := Nat.le_trans (K87).1 (Nat.le_of_eq g90.symm)
      have ne_b57_b90 : b57 ≠ b90 := Nat.ne_of_lt (Nat.lt_of_lt_of_le f88.lt (Nat.le_of_eq g90.symm))
      have ne_b63_b90 : b63 ≠ b90 := Nat.ne_of_lt (Nat.lt_of_lt_of_le f89.lt (Nat.le_of_eq g90.symm))
      have f93 : Arv Z h90 b90 k90 .int (3 : Int32) [(.int (0 : Int32)), (.int (0 : Int32)), (.int (0 : Int32))] (.int (0 : Int32)) := (Arv.new A90 (by decide)).pad (pad_rep [] (.int (0 : Int32)) 3)
      refine Goes.via (S' := (T90.setTop (mkF m 390 #[.val (.int p0), .val (.int p1), .val (.int p2), .val (.int p3), .val (.int kk), .val (.int ss), .val (.int cc), .val (.ref b57), .val (.ref b63), .unset, .unset, .unset] [(.ref b90)]))) (fun t k => st90 _ k) ?_
      refine Goes.via (S' := (T90.setTop (mkF m 391 #[.val (.int p0), .val (.int p1), .val (.int p2), .val (.int p3), .val (.int kk), .val (.int ss), .val (.int cc), .val (.ref b57), .val (.ref b63), .unset, .unset, .unset] [(.ref b90), (.ref b90)]))) (fun t k => XS.dup X90.here hx rfl (hb hby at_390) rfl rfl k) ?_
      refine Goes.via (S' := (T90.setTop (mkF m 392 #[.val (.int p0), .val (.int p1), .val (.int p2), .val (.int p3), .val (.int kk), .val (.int ss), .val (.int cc), .val (.ref b57), .val (.ref b63), .unset, .unset, .unset] [(.int (0 : Int32)), (.ref b90), (.ref b90)]))) (fun t k => XS.iconst X90.here hx rfl (hb hby at_391) k) ?_
      refine Goes.via (S' := (T90.setTop (mkF m 393 #[.val (.int p0), .val (.int p1), .val (.int p2), .val (.int p3), .val (.int kk), .val (.int ss), .val (.int cc), .val (.ref b57), .val (.ref b63), .unset, .unset, .unset] [(.int (-1 : Int32)), (.int (0 : Int32)), (.ref b90), (.ref b90)]))) (fun t k => XS.iconst X90.here hx rfl (hb hby at_392) k) ?_
      obtain ⟨cl94, Ar94, q94, S94, M94, Hs94, G94⟩ := id f93
      have hin94 : ¬ ((0 : Int32) < 0 ∨ cl94.slots.size ≤ ((0 : Int32)).toNatClampNeg) := inb_of S94 ⟨by decide, by decide⟩
      obtain ⟨T94, h94, X94, e94, W94, st94⟩ := stI X90 hx hZ e90 Ar94 (j := (0 : Int32)) hin94 (g := (mkF m 393 #[.val (.int p0), .val (.int p1), .val (.int p2), .val (.int p3), .val (.int kk), .val (.int ss), .val (.int cc), .val (.ref b57), .val (.ref b63), .unset, .unset, .unset] [(.int (-1 : Int32)), (.int (0 : Int32)), (.ref b90), (.ref b90)])) rfl rfl (hb hby at_393)
      have f95 : Arv Z h94 b57 k57 .int (2 : Int32) [(.int (0 : Int32)), (.int (10 : Int32))] (.int (0 : Int32)) := f91.other W94 ne_b57_b90
      have f96 : Arv Z h94 b63 k63 .int (6 : Int32) [(.int (own_e p0 (0 : Int32))), (.int (own_e p0 (1 : Int32))), (.int (own_e p1 (0 : Int32))), (.int (own_e p1 (1 : Int32))), (.int (own_e p2 (0 : Int32))), (.int (own_e p2 (1 : Int32)))] (.int (0 : Int32)) := f92.other W94 ne_b63_b90
      have f97 : Arv Z h94 b90 k90 .int (3 : Int32) [(.int (-1 : Int32)), (.int (0 : Int32)), (.int (0 : Int32))] (.int (0 : Int32)) := Arv.set Ar94 q94 S94 M94 Hs94 G94 rfl W94 0 rfl (Nat.le_of_ble_eq_true rfl)
      have K94 : Keep h0 h94 [] := Keep.wr K90 W94 (Or.inr sz_b90)
      have Z94 : n0 ≤ h94.size := Nat.le_trans Z0 K94.1
      have N94 := Fr.snoc X94 N87 g_b90
      refine Goes.via (S' := (T94.setTop (mkF m 394 #[.val (.int p0), .val (.int p1), .val (.int p2), .val (.int p3), .val (.int kk), .val (.int ss), .val (.int cc), .val (.ref b57), .val (.ref b63), .unset, .unset, .unset] [(.ref b90)]))) (fun t k => st94 _ k) ?_
      refine Goes.via (S' := (T94.setTop (mkF m 395 #[.val (.int p0), .val (.int p1), .val (.int p2), .val (.int p3), .val (.int kk), .val (.int ss), .val (.int cc), .val (.ref b57), .val (.ref b63), .unset, .unset, .unset] [(.ref b90), (.ref b90)]))) (fun t k => XS.dup X94.here hx rfl (hb hby at_394) rfl rfl k) ?_
      refine Goes.via (S' := (T94.setTop (mkF m 396 #[.val (.int p0), .val (.int p1), .val (.int p2), .val (.int p3), .val (.int kk), .val (.int ss), .val (.int cc), .val (.ref b57), .val (.ref b63), .unset, .unset, .unset] [(.int (1 : Int32)), (.ref b90), (.ref b90)]))) (fun t k => XS.iconst X94.here hx rfl (hb hby at_395) k) ?_
      refine Goes.via (S' := (T94.setTop (mkF m 397 #[.val (.int p0), .val (.int p1), .val (.int p2), .val (.int p3), .val (.int kk), .val (.int ss), .val (.int cc), .val (.ref b57), .val (.ref b63), .unset, .unset, .unset] [(.int (0 : Int32)), (.int (1 : Int32)), (.ref b90), (.ref b90)]))) (fun t k => XS.iconst X94.here hx rfl (hb hby at_396) k) ?_
      obtain ⟨cl98, Ar98, q98, S98, M98, Hs98, G98⟩ := id f97
      have hin98 : ¬ ((1 : Int32) < 0 ∨ cl98.slots.size ≤ ((1 : Int32)).toNatClampNeg) := inb_of S98 ⟨by decide, by decide⟩
      obtain ⟨T98, h98, X98, e98, W98, st98⟩ := stI X94 hx hZ e94 Ar98 (j := (1 : Int32)) hin98 (g := (mkF m 397 #[.val (.int p0), .val (.int p1), .val (.int p2), .val (.int p3), .val (.int kk), .val (.int ss), .val (.int cc), .val (.ref b57), .val (.ref b63), .unset, .unset, .unset] [(.int (0 : Int32)), (.int (1 : Int32)), (.ref b90), (.ref b90)])) rfl rfl (hb hby at_397)
      have f99 : Arv Z h98 b57 k57 .int (2 : Int32) [(.int (0 : Int32)), (.int (10 : Int32))] (.int (0 : Int32)) := f95.other W98 ne_b57_b90
      have f100 : Arv Z h98 b63 k63 .int (6 : Int32) [(.int (own_e p0 (0 : Int32))), (.int (own_e p0 (1 : Int32))), (.int (own_e p1 (0 : Int32))), (.int (own_e p1 (1 : Int32))), (.int (own_e p2 (0 : Int32))), (.int (own_e p2 (1 : Int32)))] (.int (0 : Int32)) := f96.other W98 ne_b63_b90
      have f101 : Arv Z h98 b90 k90 .int (3 : Int32) [(.int (-1 : Int32)), (.int (0 : Int32)), (.int (0 : Int32))] (.int (0 : Int32)) := Arv.set Ar98 q98 S98 M98 Hs98 G98 rfl W98 1 rfl (Nat.le_of_ble_eq_true rfl)
      have K98 : Keep h0 h98 [] := Keep.wr K94 W98 (Or.inr sz_b90)
      have Z98 : n0 ≤ h98.size := Nat.le_trans Z0 K98.1
      have N98 := Fr.snoc X98 N94 g_b90
      refine Goes.via (S' := (T98.setTop (mkF m 398 #[.val (.int p0), .val (.int p1), .val (.int p2), .val (.int p3), .val (.int kk), .val (.int ss), .val (.int cc), .val (.ref b57), .val (.ref b63), .unset, .unset, .unset] [(.ref b90)]))) (fun t k => st98 _ k) ?_
      refine Goes.via (S' := (T98.setTop (mkF m 399 #[.val (.int p0), .val (.int p1), .val (.int p2), .val (.int p3), .val (.int kk), .val (.int ss), .val (.int cc), .val (.ref b57), .val (.ref b63), .unset, .unset, .unset] [(.ref b90), (.ref b90)]))) (fun t k => XS.dup X98.here hx rfl (hb hby at_398) rfl rfl k) ?_
      refine Goes.via (S' := (T98.setTop (mkF m 400 #[.val (.int p0), .val (.int p1), .val (.int p2), .val (.int p3), .val (.int kk), .val (.int ss), .val (.int cc), .val (.ref b57), .val (.ref b63), .unset, .unset, .unset] [(.int (2 : Int32)), (.ref b90), (.ref b90)]))) (fun t k => XS.iconst X98.here hx rfl (hb hby at_399) k) ?_
      refine Goes.via (S' := (T98.setTop (mkF m 401 #[.val (.int p0), .val (.int p1), .val (.int p2), .val (.int p3), .val (.int kk), .val (.int ss), .val (.int cc), .val (.ref b57), .val (.ref b63), .unset, .unset, .unset] [(.int (1 : Int32)), (.int (2 : Int32)), (.ref b90), (.ref b90)]))) (fun t k => XS.iconst X98.here hx rfl (hb hby at_400) k) ?_
      obtain ⟨cl102, Ar102, q102, S102, M102, Hs102, G102⟩ := id f101
      have hin102 : ¬ ((2 : Int32) < 0 ∨ cl102.slots.size ≤ ((2 : Int32)).toNatClampNeg) := inb_of S102 ⟨by decide, by decide⟩
      obtain ⟨T102, h102, X102, e102, W102, st102⟩ := stI X98 hx hZ e98 Ar102 (j := (2 : Int32)) hin102 (g := (mkF m 401 #[.val (.int p0), .val (.int p1), .val (.int p2), .val (.int p3), .val (.int kk), .val (.int ss), .val (.int cc), .val (.ref b57), .val (.ref b63), .unset, .unset, .unset] [(.int (1 : Int32)), (.int (2 : Int32)), (.ref b90), (.ref b90)])) rfl rfl (hb hby at_401)
      have f103 : Arv Z h102 b57 k57 .int (2 : Int32) [(.int (0 : Int32)), (.int (10 : Int32))] (.int (0 : Int32)) := f99.other W102 ne_b57_b90
      have f104 : Arv Z h102 b63 k63 .int (6 : Int32) [(.int (own_e p0 (0 : Int32))), (.int (own_e p0 (1 : Int32))), (.int (own_e p1 (0 : Int32))), (.int (own_e p1 (1 : Int32))), (.int (own_e p2 (0 : Int32))), (.int (own_e p2 (1 : Int32)))] (.int (0 : Int32)) := f100.other W102 ne_b63_b90
      have f105 : Arv Z h102 b90 k90 .int (3 : Int32) [(.int (-1 : Int32)), (.int (0 : Int32)), (.int (1 : Int32))] (.int (0 : Int32)) := Arv.set Ar102 q102 S102 M102 Hs102 G102 rfl W102 2 rfl (Nat.le_of_ble_eq_true rfl)
      have K102 : Keep h0 h102 [] := Keep.wr K98 W102 (Or.inr sz_b90)
      have Z102 : n0 ≤ h102.size := Nat.le_trans Z0 K102.1
      have N102 := Fr.snoc X102 N98 g_b90
      refine Goes.via (S' := (T102.setTop (mkF m 402 #[.val (.int p0), .val (.int p1), .val (.int p2), .val (.int p3), .val (.int kk), .val (.int ss), .val (.int cc), .val (.ref b57), .val (.ref b63), .unset, .unset, .unset] [(.ref b90)]))) (fun t k => st102 _ k) ?_
      refine Goes.via (S' := (T102.setTop (mkF m 404 #[.val (.int p0), .val (.int p1), .val (.int p2), .val (.int p3), .val (.int kk), .val (.int ss), .val (.int cc), .val (.ref b57), .val (.ref b63), .val (.ref b90), .unset, .unset] []))) (fun t k => XS.astore X102.here hx rfl (hb hby at_402) rfl rfl (l' := #[.val (.int p0), .val (.int p1), .val (.int p2), .val (.int p3), .val (.int kk), .val (.int ss), .val (.int cc), .val (.ref b57), .val (.ref b63), .val (.ref b90), .unset, .unset]) rfl k) ?_
      obtain ⟨T106, h106, X106, e106, E106, A106, D106, -, st106⟩ := newO X102 hx hZ hown (hw _ (List.mem_of_getElem? (i := 5) rfl)) (hw _ (List.mem_of_getElem? (i := 6) rfl)) (hw _ (List.mem_of_getElem? (i := 7) rfl)) e102 (g := (mkF m 404 #[.val (.int p0), .val (.int p1), .val (.int p2), .val (.int p3), .val (.int kk), .val (.int ss), .val (.int cc), .val (.ref b57), .val (.ref b63), .val (.ref b90), .unset, .unset] [])) rfl (hb hby at_404) (by decide) (by decide)
      obtain ⟨b106, g106⟩ : ∃ z, z = h102.size := ⟨_, rfl⟩
      rw [← g106] at A106 D106 st106
      have f107 : Arv Z h106 b57 k57 .int (2 : Int32) [(.int (0 : Int32)), (.int (10 : Int32))] (.int (0 : Int32)) := f103.ext E106
      have f108 : Arv Z h106 b63 k63 .int (6 : Int32) [(.int (own_e p0 (0 : Int32))), (.int (own_e p0 (1 : Int32))), (.int (own_e p1 (0 : Int32))), (.int (own_e p1 (1 : Int32))), (.int (own_e p2 (0 : Int32))), (.int (own_e p2 (1 : Int32)))] (.int (0 : Int32)) := f104.ext E106
      have f109 : Arv Z h106 b90 k90 .int (3 : Int32) [(.int (-1 : Int32)), (.int (0 : Int32)), (.int (1 : Int32))] (.int (0 : Int32)) := f105.ext E106
      have K106 : Keep h0 h106 [] := Keep.ext K102 E106
      have Z106 : n0 ≤ h106.size := Nat.le_trans Z0 K106.1
      have g_b106 : n0 ≤ b106 := Nat.le_trans Z102 (Nat.le_of_eq g106.symm)
      have sz_b106 : h0.size ≤ b106 := Nat.le_trans (K102).1 (Nat.le_of_eq g106.symm)
      have ne_b57_b106 : b57 ≠ b106 := Nat.ne_of_lt (Nat.lt_of_lt_of_le f103.lt (Nat.le_of_eq g106.symm))
      have ne_b63_b106 : b63 ≠ b106 := Nat.ne_of_lt (Nat.lt_of_lt_of_le f104.lt (Nat.le_of_eq g106.symm))
      have ne_b90_b106 : b90 ≠ b106 := Nat.ne_of_lt (Nat.lt_of_lt_of_le f105.lt (Nat.le_of_eq g106.symm))
      have f110 : Exa Z h106 b106 "com/example/parsewright/parsewright/generator/ScannerAutomaton" := A106
      have f111 : Fld Z h106 b106 "com/example/parsewright/parsewright/generator/ScannerAutomaton" "classStarts" "[I" .null := D106 (Or.inr (hw _ (List.mem_of_getElem? (i := 15) rfl))) (ty := (.array .int)) (by decide)
      have f112 : Fld Z h106 b106 "com/example/parsewright/parsewright/generator/ScannerAutomaton" "transitions" "[I" .null := D106 (Or.inr (hw _ (List.mem_of_getElem? (i := 17) rfl))) (ty := (.array .int)) (by decide)
      have f113 : Fld Z h106 b106 "com/example/parsewright/parsewright/generator/ScannerAutomaton" "accepts" "[I" .null := D106 (Or.inr (hw _ (List.mem_of_getElem? (i := 19) rfl))) (ty := (.array .int)) (by decide)
      refine Goes.via (S' := (T106.setTop (mkF m 407 #[.val (.int p0), .val (.int p1), .val (.int p2), .val (.int p3), .val (.int kk), .val (.int ss), .val (.int cc), .val (.ref b57), .val (.ref b63), .val (.ref b90), .unset, .unset] [(.ref b106)]))) (fun t k => st106 _ k) ?_
      refine Goes.via (S' := (T106.setTop (mkF m 408 #[.val (.int p0), .val (.int p1), .val (.int p2), .val (.int p3), .val (.int kk), .val (.int ss), .val (.int cc), .val (.ref b57), .val (.ref b63), .val (.ref b90), .unset, .unset] [(.ref b106), (.ref b106)]))) (fun t k => XS.dup X106.here hx rfl (hb hby at_407) rfl rfl k) ?_
      refine Goes.via (S' := (T106.setTop (mkF m 410 #[.val (.int p0), .val (.int p1), .val (.int p2), .val (.int p3), .val (.int kk), .val (.int ss), .val (.int cc), .val (.ref b57), .val (.ref b63), .val (.ref b90), .unset, .unset] [(.ref b57), (.ref b106), (.ref b106)]))) (fun t k => XS.aload X106.here hx rfl (hb hby at_408) rfl rfl k) ?_
      refine Goes.via (S' := (T106.setTop (mkF m 412 #[.val (.int p0), .val (.int p1), .val (.int p2), .val (.int p3), .val (.int kk), .val (.int ss), .val (.int cc), .val (.ref b57), .val (.ref b63), .val (.ref b90), .unset, .unset] [(.ref b63), (.ref b57), (.ref b106), (.ref b106)]))) (fun t k => XS.aload X106.here hx rfl (hb hby at_410) rfl rfl k) ?_
      refine Goes.via (S' := (T106.setTop (mkF m 414 #[.val (.int p0), .val (.int p1), .val (.int p2), .val (.int p3), .val (.int kk), .val (.int ss), .val (.int cc), .val (.ref b57), .val (.ref b63), .val (.ref b90), .unset, .unset] [(.ref b90), (.ref b63), (.ref b57), (.ref b106), (.ref b106)]))) (fun t k => XS.aload X106.here hx rfl (hb hby at_412) rfl rfl k) ?_
      obtain ⟨_, _, ⟨T114, L114, k114, n114⟩, -, X114, ⟨Lc114, hQ114, l114, y114, z114⟩, st114⟩ := X106.specialBack hx (y := (⟨"com/example/parsewright/parsewright/generator/ScannerAutomaton", "<init>", "([I[I[I)V"⟩ : MethodName)) rfl hown (mvT hZ (hw _ (List.mem_of_getElem? (i := 8) rfl))) (mvT hZ (hw _ (List.mem_of_getElem? (i := 9) rfl))) (mvT hZ (hw _ (List.mem_of_getElem? (i := 10) rfl))) (by decide) (backOf (W := 1) (rm2 l Z a0 hw [] b106 b57 b63 b90 .null .null .null h106 n0 Z106 f110 f111 f112 f113 g_b106) hZ (hw _ (List.mem_of_getElem? (i := 10) rfl)) (hw _ (List.mem_of_getElem? (i := 7) rfl)) (by decide) (by decide)) (g := (mkF m 414 #[.val (.int p0), .val (.int p1), .val (.int p2), .val (.int p3), .val (.int kk), .val (.int ss), .val (.int cc), .val (.ref b57), .val (.ref b63), .val (.ref b90), .unset, .unset] [(.ref b90), (.ref b63), (.ref b57), (.ref b106), (.ref b106)])) rfl (by rw [hml]; rfl) (Steps.refl _) (a := b106) (argsL := [(.ref b57), (.ref b63), (.ref b90)]) (rest := [(.ref b106)]) (lenOf pd_1 rfl) rfl (by show 2 * 0 + _ ≤ _; exact Nat.le_of_eq rfl) (hb hby at_414) (fun _ _ => ⟨rfl, e106, (by decide : 4 + 0 ≤ _), (by decide : 14 + 0 ≤ _)⟩)
      dsimp only [Pt.U, Pt.locs, Pt.cells, Pt.slots] at X114 l114 y114 z114 st114 hQ114
      replace X114 := own_cast X114 l114 y114 z114
      obtain ⟨rfl, N114q, K114q, po114_0, po114_1, po114_2, po114_3⟩ := hQ114
      have N114 := Fr.app N102 N114q
      have f115 : Arv Z T114.heap b57 k57 .int (2 : Int32) [(.int (0 : Int32)), (.int (10 : Int32))] (.int (0 : Int32)) := f107.keep K114q (ninS ne_b57_b106 nin0)
      have f116 : Arv Z T114.heap b63 k63 .int (6 : Int32) [(.int (own_e p0 (0 : Int32))), (.int (own_e p0 (1 : Int32))), (.int (own_e p1 (0 : Int32))), (.int (own_e p1 (1 : Int32))), (.int (own_e p2 (0 : Int32))), (.int (own_e p2 (1 : Int32)))] (.int (0 : Int32)) := f108.keep K114q (ninS ne_b63_b106 nin0)
      have f117 : Arv Z T114.heap b90 k90 .int (3 : Int32) [(.int (-1 : Int32)), (.int (0 : Int32)), (.int (1 : Int32))] (.int (0 : Int32)) := f109.keep K114q (ninS ne_b90_b106 nin0)
      have f118 : Exa Z T114.heap b106 "com/example/parsewright/parsewright/generator/ScannerAutomaton" := f110.keep K114q
      have K114 : Keep h0 T114.heap [] := Keep.trans K106 K114q (allS (Or.inr sz_b106) all0)
      have Z114 : n0 ≤ T114.heap.size := Nat.le_trans Z0 K114.1
      refine Goes.via (S' := (T114.setTop (mkF m 417 #[.val (.int p0), .val (.int p1), .val (.int p2), .val (.int p3), .val (.int kk), .val (.int ss), .val (.int cc), .val (.ref b57), .val (.ref b63), .val (.ref b90), .unset, .unset] [(.ref b106)]))) (fun t k => st114.trans k) ?_
      refine Goes.via (S' := (T114.setTop (mkF m 419 #[.val (.int p0), .val (.int p1), .val (.int p2), .val (.int p3), .val (.int kk), .val (.int ss), .val (.int cc), .val (.ref b57), .val (.ref b63), .val (.ref b90), .val (.ref b106), .unset] []))) (fun t k => XS.astore X114.here hx rfl (hb hby at_417) rfl rfl (l' := #[.val (.int p0), .val (.int p1), .val (.int p2), .val (.int p3), .val (.int kk), .val (.int ss), .val (.int cc), .val (.ref b57), .val (.ref b63), .val (.ref b90), .val (.ref b106), .unset]) rfl k) ?_
      refine Goes.via (S' := (T114.setTop (mkF m 421 #[.val (.int p0), .val (.int p1), .val (.int p2), .val (.int p3), .val (.int kk), .val (.int ss), .val (.int cc), .val (.ref b57), .val (.ref b63), .val (.ref b90), .val (.ref b106), .unset] [(.int ss)]))) (fun t k => XS.iload X114.here hx rfl (hb hby at_419) rfl k) ?_
      obtain ⟨v121, hv121⟩ : ∃ z : Int32, z = ((if (ss = (0 : Int32)) then p0 else (if (ss = (1 : Int32)) then p1 else p2))) := ⟨_, rfl⟩
      refine Goes.via (S' := (T114.setTop (mkF m 439 #[.val (.int p0), .val (.int p1), .val (.int p2), .val (.int p3), .val (.int kk), .val (.int ss), .val (.int cc), .val (.ref b57), .val (.ref b63), .val (.ref b90), .val (.ref b106), .unset] [(.int v121)]))) (fun t k => ?_) ?_
      · by_cases hc119 : (ss = (0 : Int32))
        · refine XS.ifNo X114.here hx rfl (hb hby at_421) rfl ((if0 _ _).trans (teq hc119).2) ?_
          show Steps p.tables e below (T114.setTop (mkF m 424 #[.val (.int p0), .val (.int p1), .val (.int p2), .val (.int p3), .val (.int kk), .val (.int ss), .val (.int cc), .val (.ref b57), .val (.ref b63), .val (.ref b90), .val (.ref b106), .unset] [])) _
          refine XS.iloadN X114.here hx rfl (hb hby at_424) rfl ?_
          show Steps p.tables e below (T114.setTop (mkF m 425 #[.val (.int p0), .val (.int p1), .val (.int p2), .val (.int p3), .val (.int kk), .val (.int ss), .val (.int cc), .val (.ref b57), .val (.ref b63), .val (.ref b90), .val (.ref b106), .unset] [(.int p0)])) _
          refine XS.goto X114.here hx rfl (pc0 := 425) (pc' := 439) rfl (hb hby at_425) (by decide) (by decide) ?_
          show Steps p.tables e below (T114.setTop (mkF m 439 #[.val (.int p0), .val (.int p1), .val (.int p2), .val (.int p3), .val (.int kk), .val (.int ss), .val (.int cc), .val (.ref b57), .val (.ref b63), .val (.ref b90), .val (.ref b106), .unset] [(.int p0)])) _
          have q_v121 : v121 = p0 := by rw [hv121, if_pos hc119]
          rw [q_v121] at k
          exact k
        · refine XS.ifYes X114.here hx rfl (pc0 := 421) (pc' := 428) rfl (hb hby at_421) rfl ((if0 _ _).trans (feq hc119).2) (by decide) (by decide) ?_
          show Steps p.tables e below (T114.setTop (mkF m 428 #[.val (.int p0), .val (.int p1), .val (.int p2), .val (.int p3), .val (.int kk), .val (.int ss), .val (.int cc), .val (.ref b57), .val (.ref b63), .val (.ref b90), .val (.ref b106), .unset] [])) _
          refine XS.iload X114.here hx rfl (hb hby at_428) rfl ?_
          show Steps p.tables e below (T114.setTop (mkF m 430 #[.val (.int p0), .val (.int p1), .val (.int p2), .val (.int p3), .val (.int kk), .val (.int ss), .val (.int cc), .val (.ref b57), .val (.ref b63), .val (.ref b90), .val (.ref b106), .unset] [(.int ss)])) _
          refine XS.iconst X114.here hx rfl (hb hby at_430) ?_
          show Steps p.tables e below (T114.setTop (mkF m 431 #[.val (.int p0), .val (.int p1), .val (.int p2), .val (.int p3), .val (.int kk), .val (.int ss), .val (.int cc), .val (.ref b57), .val (.ref b63), .val (.ref b90), .val (.ref b106), .unset] [(.int (1 : Int32)), (.int ss)])) _
          by_cases hc120 : (ss = (1 : Int32))
          · refine XS.icmpNo X114.here hx rfl (hb hby at_431) rfl (teq hc120).2 ?_
            show Steps p.tables e below (T114.setTop (mkF m 434 #[.val (.int p0), .val (.int p1), .val (.int p2), .val (.int p3), .val (.int kk), .val (.int ss), .val (.int cc), .val (.ref b57), .val (.ref b63), .val (.ref b90), .val (.ref b106), .unset] [])) _
            refine XS.iloadN X114.here hx rfl (hb hby at_434) rfl ?_
            show Steps p.tables e below (T114.setTop (mkF m 435 #[.val (.int p0), .val (.int p1), .val (.int p2), .val (.int p3), .val (.int kk), .val (.int ss), .val (.int cc), .val (.ref b57), .val (.ref b63), .val (.ref b90), .val (.ref b106), .unset] [(.int p1)])) _
            refine XS.goto X114.here hx rfl (pc0 := 435) (pc' := 439) rfl (hb hby at_435) (by decide) (by decide) ?_
            show Steps p.tables e below (T114.setTop (mkF m 439 #[.val (.int p0), .val (.int p1), .val (.int p2), .val (.int p3), .val (.int kk), .val (.int ss), .val (.int cc), .val (.ref b57), .val (.ref b63), .val (.ref b90), .val (.ref b106), .unset] [(.int p1)])) _
            have q_v121 : v121 = p1 := by rw [hv121, if_neg hc119, if_pos hc120]
            rw [q_v121] at k
            exact k
          · refine XS.icmpYes X114.here hx rfl (pc0 := 431) (pc' := 438) rfl (hb hby at_431) rfl (feq hc120).2 (by decide) (by decide) ?_
            show Steps p.tables e below (T114.setTop (mkF m 438 #[.val (.int p0), .val (.int p1), .val (.int p2), .val (.int p3), .val (.int kk), .val (.int ss), .val (.int cc), .val (.ref b57), .val (.ref b63), .val (.ref b90), .val (.ref b106), .unset] [])) _
            refine XS.iloadN X114.here hx rfl (hb hby at_438) rfl ?_
            show Steps p.tables e below (T114.setTop (mkF m 439 #[.val (.int p0), .val (.int p1), .val (.int p2), .val (.int p3), .val (.int kk), .val (.int ss), .val (.int cc), .val (.ref b57), .val (.ref b63), .val (.ref b90), .val (.ref b106), .unset] [(.int p2)])) _
            have q_v121 : v121 = p2 := by rw [hv121, if_neg hc119, if_neg hc120]
            rw [q_v121] at k
            exact k
      refine Goes.via (S' := (T114.setTop (mkF m 441 #[.val (.int p0), .val (.int p1), .val (.int p2), .val (.int p3), .val (.int kk), .val (.int ss), .val (.int cc), .val (.ref b57), .val (.ref b63), .val (.ref b90), .val (.ref b106), .val (.int v121)] []))) (fun t k => XS.istore X114.here hx rfl (hb hby at_439) rfl (l' := #[.val (.int p0), .val (.int p1), .val (.int p2), .val (.int p3), .val (.int kk), .val (.int ss), .val (.int cc), .val (.ref b57), .val (.ref b63), .val (.ref b90), .val (.ref b106), .val (.int v121)]) rfl k) ?_
      refine Goes.via (S' := (T114.setTop (mkF m 443 #[.val (.int p0), .val (.int p1), .val (.int p2), .val (.int p3), .val (.int kk), .val (.int ss), .val (.int cc), .val (.ref b57), .val (.ref b63), .val (.ref b90), .val (.ref b106), .val (.int v121)] [(.ref b106)]))) (fun t k => XS.aload X114.here hx rfl (hb hby at_441) rfl rfl k) ?_
      refine Goes.via (S' := (T114.setTop (mkF m 445 #[.val (.int p0), .val (.int p1), .val (.int p2), .val (.int p3), .val (.int kk), .val (.int ss), .val (.int cc), .val (.ref b57), .val (.ref b63), .val (.ref b90), .val (.ref b106), .val (.int v121)] [(.int ss), (.ref b106)]))) (fun t k => XS.iload X114.here hx rfl (hb hby at_443) rfl k) ?_
      refine Goes.via (S' := (T114.setTop (mkF m 447 #[.val (.int p0), .val (.int p1), .val (.int p2), .val (.int p3), .val (.int kk), .val (.int ss), .val (.int cc), .val (.ref b57), .val (.ref b63), .val (.ref b90), .val (.ref b106), .val (.int v121)] [(.int cc), (.int ss), (.ref b106)]))) (fun t k => XS.iload X114.here hx rfl (hb hby at_445) rfl k) ?_
      have hg122 := own_get2 ss cc p0 p1 p2 v121 (own_s h_ss) (own_c2 h_cc hc56) hv121
      obtain ⟨cq123, kq123, q123a, q123b, q123c⟩ := isOf hZ rfl po114_0
      obtain ⟨_, _, ⟨T123, L123, k123, n123⟩, -, X123, ⟨Lc123, hQ123, l123, y123, z123⟩, st123⟩ := X114.virtualBack hx (y := (⟨"com/example/parsewright/parsewright/generator/ScannerAutomaton", "next", "(II)I"⟩ : MethodName)) (z := (⟨"com/example/parsewright/parsewright/generator/ScannerAutomaton", "next", "(II)I"⟩ : MethodName)) hown (mvT hZ (hw _ (List.mem_of_getElem? (i := 20) rfl))) (mvT hZ (hw _ (List.mem_of_getElem? (i := 21) rfl))) (notFace_of_selects (args := #[]) (mvT hZ (hw _ (List.mem_of_getElem? (i := 23) rfl)))) (mvT hZ (hw _ (List.mem_of_getElem? (i := 23) rfl))) (mvT hZ (hw _ (List.mem_of_getElem? (i := 22) rfl))) (by decide) (backOf (W := 0) (rm4 l Z a0 hw [] b106 ss cc b57 b63 k57 k63 (2 : Int32) (6 : Int32) ([(.int (0 : Int32)), (.int (10 : Int32))] : List Value) ([(.int (own_e p0 (0 : Int32))), (.int (own_e p0 (1 : Int32))), (.int (own_e p1 (0 : Int32))), (.int (own_e p1 (1 : Int32))), (.int (own_e p2 (0 : Int32))), (.int (own_e p2 (1 : Int32)))] : List Value) (own_e v121 cc) T114.heap n0 Z114 po114_1 po114_2 f115 f116 (hg122).2 (hg122).1) hZ (hw _ (List.mem_of_getElem? (i := 24) rfl)) (hw _ (List.mem_of_getElem? (i := 7) rfl)) (by decide) (by decide)) q123a q123c (g := (mkF m 447 #[.val (.int p0), .val (.int p1), .val (.int p2), .val (.int p3), .val (.int kk), .val (.int ss), .val (.int cc), .val (.ref b57), .val (.ref b63), .val (.ref b90), .val (.ref b106), .val (.int v121)] [(.int cc), (.int ss), (.ref b106)])) rfl (by rw [hml]; rfl) (Steps.refl _) (argsL := [(.int ss), (.int cc)]) (rest := []) (lenOf pd_0 rfl) rfl (by show 2 * 0 + _ ≤ _; exact Nat.le_of_eq rfl) (hb hby at_447) (fun _ _ => ⟨rfl, rfl, (by decide : 4 + 0 ≤ _), (by decide : 14 + 0 ≤ _)⟩)
      dsimp only [Pt.U, Pt.locs, Pt.cells, Pt.slots] at X123 l123 y123 z123 st123 hQ123
      replace X123 := own_cast X123 l123 y123 z123
      obtain ⟨rfl, N123q, eq123⟩ := hQ123
      have N123 := Fr.app N114 N123q
      refine Goes.via (S' := (T123.setTop (mkF m 450 #[.val (.int p0), .val (.int p1), .val (.int p2), .val (.int p3), .val (.int kk), .val (.int ss), .val (.int cc), .val (.ref b57), .val (.ref b63), .val (.ref b90), .val (.ref b106), .val (.int v121)] [(.int (own_e v121 cc))]))) (fun t k => st123.trans k) ?_
      refine Goes.via (S' := (T123.setTop (mkF m 452 #[.val (.int p0), .val (.int p1), .val (.int p2), .val (.int p3), .val (.int kk), .val (.int ss), .val (.int cc), .val (.ref b57), .val (.ref b63), .val (.ref b90), .val (.ref b106), .val (.int v121)] [(.int v121), (.int (own_e v121 cc))]))) (fun t k => XS.iload X123.here hx rfl (hb hby at_450) rfl k) ?_
      refine Goes.via (S' := (T123.setTop (mkF m 454 #[.val (.int p0), .val (.int p1), .val (.int p2), .val (.int p3), .val (.int kk), .val (.int ss), .val (.int cc), .val (.ref b57), .val (.ref b63), .val (.ref b90), .val (.ref b106), .val (.int v121)] [(.int cc), (.int v121), (.int (own_e v121 cc))]))) (fun t k => XS.iload X123.here hx rfl (hb hby at_452) rfl k) ?_
      obtain ⟨_, _, ⟨T124, L124, k124, n124⟩, -, X124, ⟨Lc124, hQ124, l124, y124, z124⟩, st124⟩ := Jvm.LawKit.callS X123 hx (y := (⟨"com/example/parsewright/parsewright/generator/ScannerAutomatonNextPinLaw", "e", "(II)I"⟩ : MethodName)) hown (mvT hZ (hw _ (List.mem_of_getElem? (i := 1) rfl))) (mvT hZ (hw _ (List.mem_of_getElem? (i := 2) rfl))) (mvT hZ (hw _ (List.mem_of_getElem? (i := 3) rfl))) (mvT hZ (hw _ (List.mem_of_getElem? (i := 4) rfl))) (by decide) (backOf (W := 1) (rm1 l Z a0 hw [] v121 cc T114.heap n0 Z114 ) hZ (hw _ (List.mem_of_getElem? (i := 4) rfl)) (hw _ (List.mem_of_getElem? (i := 3) rfl)) (by decide) (by decide)) (g := (mkF m 454 #[.val (.int p0), .val (.int p1), .val (.int p2), .val (.int p3), .val (.int kk), .val (.int ss), .val (.int cc), .val (.ref b57), .val (.ref b63), .val (.ref b90), .val (.ref b106), .val (.int v121)] [(.int cc), (.int v121), (.int (own_e v121 cc))])) rfl (by rw [hml]; rfl) (argsL := [(.int v121), (.int cc)]) (rest := [(.int (own_e v121 cc))]) (lenOf pd_0 rfl) rfl (by show 2 * 0 + _ ≤ _; exact Nat.le_of_eq rfl) (hb hby at_454) (fun _ _ => ⟨rfl, eq123, (by decide : 4 + 0 ≤ _), (by decide : 14 + 0 ≤ _)⟩)
      dsimp only [Pt.U, Pt.locs, Pt.cells, Pt.slots] at X124 l124 y124 z124 st124 hQ124
      replace X124 := own_cast X124 l124 y124 z124
      obtain ⟨rfl, N124q, eq124⟩ := hQ124
      have N124 := Fr.app N123 N124q
      refine Goes.via (S' := (T124.setTop (mkF m 457 #[.val (.int p0), .val (.int p1), .val (.int p2), .val (.int p3), .val (.int kk), .val (.int ss), .val (.int cc), .val (.ref b57), .val (.ref b63), .val (.ref b90), .val (.ref b106), .val (.int v121)] [(.int (own_e v121 cc)), (.int (own_e v121 cc))]))) (fun t k => st124 _ k) ?_
      refine Goes.via (S' := (T124.setTop (mkF m 460 #[.val (.int p0), .val (.int p1), .val (.int p2), .val (.int p3), .val (.int kk), .val (.int ss), .val (.int cc), .val (.ref b57), .val (.ref b63), .val (.ref b90), .val (.ref b106), .val (.int v121)] []))) (fun t k => XS.icmpNo X124.here hx rfl (hb hby at_457) rfl (teq rfl).2 k) ?_
      refine Goes.via (S' := (T124.setTop (mkF m 461 #[.val (.int p0), .val (.int p1), .val (.int p2), .val (.int p3), .val (.int kk), .val (.int ss), .val (.int cc), .val (.ref b57), .val (.ref b63), .val (.ref b90), .val (.ref b106), .val (.int v121)] [(.int (1 : Int32))]))) (fun t k => XS.iconst X124.here hx rfl (hb hby at_460) k) ?_
      refine Goes.via (S' := (T124.setTop (mkF m 465 #[.val (.int p0), .val (.int p1), .val (.int p2), .val (.int p3), .val (.int kk), .val (.int ss), .val (.int cc), .val (.ref b57), .val (.ref b63), .val (.ref b90), .val (.ref b106), .val (.int v121)] [(.int (1 : Int32))]))) (fun t k => XS.goto X124.here hx rfl (pc0 := 461) (pc' := 465) rfl (hb hby at_461) (by decide) (by decide) k) ?_
      exact own_ret X124 hx Bd.notSynchronized Bd.returns rfl (Or.inl ⟨rfl, by simp, _, rfl⟩) (hb hby at_465) eq124 ⟨rfl, N124⟩ (by decide) (by decide)
    · refine Goes.via (S' := (s₁.setTop (mkF m 146 #[.val (.int p0), .val (.int p1), .val (.int p2), .val (.int p3), .val (.int kk), .val (.int ss), .val (.int cc), .unset, .unset, .unset, .unset, .unset] []))) (fun t k => XS.icmpYes X0.here hx rfl (pc0 := 72) (pc' := 146) rfl (hb hby at_72) rfl (feq hc56).2 (by decide) (by decide) k) ?_
      refine Goes.via (S' := (s₁.setTop (mkF m 148 #[.val (.int p0), .val (.int p1), .val (.int p2), .val (.int p3), .val (.int kk), .val (.int ss), .val (.int cc), .unset, .unset, .unset, .unset, .unset] [(.int kk)]))) (fun t k => XS.iload X0.here hx rfl (hb hby at_146) rfl k) ?_
      refine Goes.via (S' := (s₁.setTop (mkF m 149 #[.val (.int p0), .val (.int p1), .val (.int p2), .val (.int p3), .val (.int kk), .val (.int ss), .val (.int cc), .unset, .unset, .unset, .unset, .unset] [(.int (3 : Int32)), (.int kk)]))) (fun t k => XS.iconst X0.here hx rfl (hb hby at_148) k) ?_
      by_cases hc125 : (kk = (3 : Int32))
      · refine Goes.via (S' := (s₁.setTop (mkF m 152 #[.val (.int p0), .val (.int p1), .val (.int p2), .val (.int p3), .val (.int kk), .val (.int ss), .val (.int cc), .unset, .unset, .unset, .unset, .unset] []))) (fun t k => XS.icmpNo X0.here hx rfl (hb hby at_149) rfl (teq hc125).2 k) ?_
        refine Goes.via (S' := (s₁.setTop (mkF m 153 #[.val (.int p0), .val (.int p1), .val (.int p2), .val (.int p3), .val (.int kk), .val (.int ss), .val (.int cc), .unset, .unset, .unset, .unset, .unset] [(.int (3 : Int32))]))) (fun t k => XS.iconst X0.here hx rfl (hb hby at_152) k) ?_
        obtain ⟨T126, h126, k126, X126, e126, E126, A126, st126⟩ := newP X0 hx hZ (hw _ (List.mem_of_getElem? (i := 0) rfl)) e0 (g := (mkF m 153 #[.val (.int p0), .val (.int p1), .val (.int p2), .val (.int p3), .val (.int kk), .val (.int ss), .val (.int cc), .unset, .unset, .unset, .unset, .unset] [(.int (3 : Int32))])) rfl (hb hby at_153) rfl (by decide) (cap := 3) (by decide) (by decide) (by decide) (by decide)
        obtain ⟨b126, g126⟩ : ∃ z, z = h0.size := ⟨_, rfl⟩
        rw [← g126] at A126 st126
        have K126 : Keep h0 h126 [] := Keep.ext (Keep.refl h0 []) E126
        have Z126 : n0 ≤ h126.size := Nat.le_trans Z0 K126.1
        have g_b126 : n0 ≤ b126 := Nat.le_trans Z0 (Nat.le_of_eq g126.symm)
        have sz_b126 : h0.size ≤ b126 := Nat.le_trans ((Keep.refl h0 [])).1 (Nat.le_of_eq g126.symm)
        have f127 : Arv Z h126 b126 k126 .int (3 : Int32) [(.int (0 : Int32)), (.int (0 : Int32)), (.int (0 : Int32))] (.int (0 : Int32)) := (Arv.new A126 (by decide)).pad (pad_rep [] (.int (0 : Int32)) 3)
        refine Goes.via (S' := (T126.setTop (mkF m 155 #[.val (.int p0), .val (.int p1), .val (.int p2), .val (.int p3), .val (.int kk), .val (.int ss), .val (.int cc), .unset, .unset, .unset, .unset, .unset] [(.ref b126)]))) (fun t k => st126 _ k) ?_
        refine Goes.via (S' := (T126.setTop (mkF m 156 #[.val (.int p0), .val (.int p1), .val (.int p2), .val (.int p3), .val (.int kk), .val (.int ss), .val (.int cc), .unset, .unset, .unset, .unset, .unset] [(.ref b126), (.ref b126)]))) (fun t k => XS.dup X126.here hx rfl (hb hby at_155) rfl rfl k) ?_
        refine Goes.via (S' := (T126.setTop (mkF m 157 #[.val (.int p0), .val (.int p1), .val (.int p2), .val (.int p3), .val (.int kk), .val (.int ss), .val (.int cc), .unset, .unset, .unset, .unset, .unset] [(.int (0 : Int32)), (.ref b126), (.ref b126)]))) (fun t k => XS.iconst X126.here hx rfl (hb hby at_156) k) ?_
        refine Goes.via (S' := (T126.setTop (mkF m 158 #[.val (.int p0), .val (.int p1), .val (.int p2), .val (.int p3), .val (.int kk), .val (.int ss), .val (.int cc), .unset, .unset, .unset, .unset, .unset] [(.int (0 : Int32)), (.int (0 : Int32)), (.ref b126), (.ref b126)]))) (fun t k => XS.iconst X126.here hx rfl (hb hby at_157) k) ?_
        obtain ⟨cl128, Ar128, q128, S128, M128, Hs128, G128⟩ := id f127
        have hin128 : ¬ ((0 : Int32) < 0 ∨ cl128.slots.size ≤ ((0 : Int32)).toNatClampNeg) := inb_of S128 ⟨by decide, by decide⟩
        obtain ⟨T128, h128, X128, e128, W128, st128⟩ := stI X126 hx hZ e126 Ar128 (j := (0 : Int32)) hin128 (g := (mkF m 158 #[.val (.int p0), .val (.int p1), .val (.int p2), .val (.int p3), .val (.int kk), .val (.int ss), .val (.int cc), .unset, .unset, .unset, .unset, .unset] [(.int (0 : Int32)), (.int (0 : Int32)), (.ref b126), (.ref b126)])) rfl rfl (hb hby at_158)
        have f129 : Arv Z h128 b126 k126 .int (3 : Int32) [(.int (0 : Int32)), (.int (0 : Int32)), (.int (0 : Int32))] (.int (0 : Int32)) := Arv.set Ar128 q128 S128 M128 Hs128 G128 rfl W128 0 rfl (Nat.le_of_ble_eq_true rfl)
        have K128 : Keep h0 h128 [] := Keep.wr K126 W128 (Or.inr sz_b126)
        have Z128 : n0 ≤ h128.size := Nat.le_trans Z0 K128.1
        have N128 := Fr.snoc X128 N0 g_b126
        refine Goes.via (S' := (T128.setTop (mkF m 159 #[.val (.int p0), .val (.int p1), .val (.int p2), .val (.int p3), .val (.int kk), .val (.int ss), .val (.int cc), .unset, .unset, .unset, .unset, .unset] [(.ref b126)]))) (fun t k => st128 _ k) ?_
        refine Goes.via (S' := (T128.setTop (mkF m 160 #[.val (.int p0), .val (.int p1), .val (.int p2), .val (.int p3), .val (.int kk), .val (.int ss), .val (.int cc), .unset, .unset, .unset, .unset, .unset] [(.ref b126), (.ref b126)]))) (fun t k => XS.dup X128.here hx rfl (hb hby at_159) rfl rfl k) ?_
        refine Goes.via (S' := (T128.setTop (mkF m 161 #[.val (.int p0), .val (.int p1), .val (.int p2), .val (.int p3), .val (.int kk), .val (.int ss), .val (.int cc), .unset, .unset, .unset, .unset, .unset] [(.int (1 : Int32)), (.ref b126), (.ref b126)]))) (fun t k => XS.iconst X128.here hx rfl (hb hby at_160) k) ?_
        refine Goes.via (S' := (T128.setTop (mkF m 163 #[.val (.int p0), .val (.int p1), .val (.int p2), .val (.int p3), .val (.int kk), .val (.int ss), .val (.int cc), .unset, .unset, .unset, .unset, .unset] [(.int (10 : Int32)), (.int (1 : Int32)), (.ref b126), (.ref b126)]))) (fun t k => XS.bipush X128.here hx rfl (hb hby at_161) k) ?_
        obtain ⟨cl130, Ar130, q130, S130, M130, Hs130, G130⟩ := id f129
        have hin130 : ¬ ((1 : Int32) < 0 ∨ cl130.slots.size ≤ ((1 : Int32)).toNatClampNeg) := inb_of S130 ⟨by decide, by decide⟩
        obtain ⟨T130, h130, X130, e130, W130, st130⟩ := stI X128 hx hZ e128 Ar130 (j := (1 : Int32)) hin130 (g := (mkF m 163 #[.val (.int p0), .val (.int p1), .val (.int p2), .val (.int p3), .val (.int kk), .val (.int ss), .val (.int cc), .unset, .unset, .unset, .unset, .unset] [(.int (10 : Int32)), (.int (1 : Int32)), (.ref b126), (.ref b126)])) rfl rfl (hb hby at_163)
        have f131 : Arv Z h130 b126 k126 .int (3 : Int32) [(.int (0 : Int32)), (.int (10 : Int32)), (.int (0 : Int32))] (.int (0 : Int32)) := Arv.set Ar130 q130 S130 M130 Hs130 G130 rfl W130 1 rfl (Nat.le_of_ble_eq_true rfl)
        have K130 : Keep h0 h130 [] := Keep.wr K128 W130 (Or.inr sz_b126)
        have Z130 : n0 ≤ h130.size := Nat.le_trans Z0 K130.1
        have N130 := Fr.snoc X130 N128 g_b126
        refine Goes.via (S' := (T130.setTop (mkF m 164 #[.val (.int p0), .val (.int p1), .val (.int p2), .val (.int p3), .val (.int kk), .val (.int ss), .val (.int cc), .unset, .unset, .unset, .unset, .unset] [(.ref b126)]))) (fun t k => st130 _ k) ?_
        refine Goes.via (S' := (T130.setTop (mkF m 165 #[.val (.int p0), .val (.int p1), .val (.int p2), .val (.int p3), .val (.int kk), .val (.int ss), .val (.int cc), .unset, .unset, .unset, .unset, .unset] [(.ref b126), (.ref b126)]))) (fun t k => XS.dup X130.here hx rfl (hb hby at_164) rfl rfl k) ?_
        refine Goes.via (S' := (T130.setTop (mkF m 166 #[.val (.int p0), .val (.int p1), .val (.int p2), .val (.int p3), .val (.int kk), .val (.int ss), .val (.int cc), .unset, .unset, .unset, .unset, .unset] [(.int (2 : Int32)), (.ref b126), (.ref b126)]))) (fun t k => XS.iconst X130.here hx rfl (hb hby at_165) k) ?_
        refine Goes.via (S' := (T130.setTop (mkF m 168 #[.val (.int p0), .val (.int p1), .val (.int p2), .val (.int p3), .val (.int kk), .val (.int ss), .val (.int cc), .unset, .unset, .unset, .unset, .unset] [(.int (20 : Int32)), (.int (2 : Int32)), (.ref b126), (.ref b126)]))) (fun t k => XS.bipush X130.here hx rfl (hb hby at_166) k) ?_
        obtain ⟨cl132, Ar132, q132, S132, M132, Hs132, G132⟩ := id f131
        have hin132 : ¬ ((2 : Int32) < 0 ∨ cl132.slots.size ≤ ((2 : Int32)).toNatClampNeg) := inb_of S132 ⟨by decide, by decide⟩
        obtain ⟨T132, h132, X132, e132, W132, st132⟩ := stI X130 hx hZ e130 Ar132 (j := (2 : Int32)) hin132 (g := (mkF m 168 #[.val (.int p0), .val (.int p1), .val (.int p2), .val (.int p3), .val (.int kk), .val (.int ss), .val (.int cc), .unset, .unset, .unset, .unset, .unset] [(.int (20 : Int32)), (.int (2 : Int32)), (.ref b126), (.ref b126)])) rfl rfl (hb hby at_168)
        have f133 : Arv Z h132 b126 k126 .int (3 : Int32) [(.int (0 : Int32)), (.int (10 : Int32)), (.int (20 : Int32))] (.int (0 : Int32)) := Arv.set Ar132 q132 S132 M132 Hs132 G132 rfl W132 2 rfl (Nat.le_of_ble_eq_true rfl)
        have K132 : Keep h0 h132 [] := Keep.wr K130 W132 (Or.inr sz_b126)
        have Z132 : n0 ≤ h132.size := Nat.le_trans Z0 K132.1
        have N132 := Fr.snoc X132 N130 g_b126
        refine Goes.via (S' := (T132.setTop (mkF m 169 #[.val (.int p0), .val (.int p1), .val (.int p2), .val (.int p3), .val (.int kk), .val (.int ss), .val (.int cc), .unset, .unset, .unset, .unset, .unset] [(.ref b126)]))) (fun t k => st132 _ k) ?_
        refine Goes.via (S' := (T132.setTop (mkF m 171 #[.val (.int p0), .val (.int p1), .val (.int p2), .val (.int p3), .val (.int kk), .val (.int ss), .val (.int cc), .val (.ref b126), .unset, .unset, .unset, .unset] []))) (fun t k => XS.astore X132.here hx rfl (hb hby at_169) rfl rfl (l' := #[.val (.int p0), .val (.int p1), .val (.int p2), .val (.int p3), .val (.int kk), .val (.int ss), .val (.int cc), .val (.ref b126), .unset, .unset, .unset, .unset]) rfl k) ?_
        refine Goes.via (S' := (T132.setTop (mkF m 173 #[.val (.int p0), .val (.int p1), .val (.int p2), .val (.int p3), .val (.int kk), .val (.int ss), .val (.int cc), .val (.ref b126), .unset, .unset, .unset, .unset] [(.int (9 : Int32))]))) (fun t k => XS.bipush X132.here hx rfl (hb hby at_171) k) ?_
        obtain ⟨T134, h134, k134, X134, e134, E134, A134, st134⟩ := newP X132 hx hZ (hw _ (List.mem_of_getElem? (i := 0) rfl)) e132 (g := (mkF m 173 #[.val (.int p0), .val (.int p1), .val (.int p2), .val (.int p3), .val (.int kk), .val (.int ss), .val (.int cc), .val (.ref b126), .unset, .unset, .unset, .unset] [(.int (9 : Int32))])) rfl (hb hby at_173) rfl (by decide) (cap := 9) (by decide) (by decide) (by decide) (by decide)
        obtain ⟨b134, g134⟩ : ∃ z, z = h132.size := ⟨_, rfl⟩
        rw [← g134] at A134 st134
        have f135 : Arv Z h134 b126 k126 .int (3 : Int32) [(.int (0 : Int32)), (.int (10 : Int32)), (.int (20 : Int32))] (.int (0 : Int32)) := f133.ext E134
        have K134 : Keep h0 h134 [] := Keep.ext K132 E134
        have Z134 : n0 ≤ h134.size := Nat.le_trans Z0 K134.1
        have g_b134 : n0 ≤ b134 := Nat.le_trans Z132 (Nat.le_of_eq g134.symm)
        have sz_b134 : h0.size ≤ b134 := Nat.le_trans (K132).1 (Nat.le_of_eq g134.symm)
        have ne_b126_b134 : b126 ≠ b134 := Nat.ne_of_lt (Nat.lt_of_lt_of_le f133.lt (Nat.le_of_eq g134.symm))
        have f136 : Arv Z h134 b134 k134 .int (9 : Int32) [(.int (0 : Int32)), (.int (0 : Int32)), (.int (0 : Int32)), (.int (0 : Int32)), (.int (0 : Int32)), (.int (0 : Int32)), (.int (0 : Int32)), (.int (0 : Int32)), (.int (0 : Int32))] (.int (0 : Int32)) := (Arv.new A134 (by decide)).pad (pad_rep [] (.int (0 : Int32)) 9)
        refine Goes.via (S' := (T134.setTop (mkF m 175 #[.val (.int p0), .val (.int p1), .val (.int p2), .val (.int p3), .val (.int kk), .val (.int ss), .val (.int cc), .val (.ref b126), .unset, .unset, .unset, .unset] [(.ref b134)]))) (fun t k => st134 _ k) ?_
        refine Goes.via (S' := (T134.setTop (mkF m 176 #[.val (.int p0), .val (.int p1), .val (.int p2), .val (.int p3), .val (.int kk), .val (.int ss), .val (.int cc), .val (.ref b126), .unset, .unset, .unset, .unset] [(.ref b134), (.ref b134)]))) (fun t k => XS.dup X134.here hx rfl (hb hby at_175) rfl rfl k) ?_
        refine Goes.via (S' := (T134.setTop (mkF m 177 #[.val (.int p0), .val (.int p1), .val (.int p2), .val (.int p3), .val (.int kk), .val (.int ss), .val (.int cc), .val (.ref b126), .unset, .unset, .unset, .unset] [(.int (0 : Int32)), (.ref b134), (.ref b134)]))) (fun t k => XS.iconst X134.here hx rfl (hb hby at_176) k) ?_
        refine Goes.via (S' := (T134.setTop (mkF m 178 #[.val (.int p0), .val (.int p1), .val (.int p2), .val (.int p3), .val (.int kk), .val (.int ss), .val (.int cc), .val (.ref b126), .unset, .unset, .unset, .unset] [(.int p0), (.int (0 : Int32)), (.ref b134), (.ref b134)]))) (fun t k => XS.iloadN X134.here hx rfl (hb hby at_177) rfl k) ?_
        refine Goes.via (S' := (T134.setTop (mkF m 179 #[.val (.int p0), .val (.int p1), .val (.int p2), .val (.int p3), .val (.int kk), .val (.int ss), .val (.int cc), .val (.ref b126), .unset, .unset, .unset, .unset] [(.int (0 : Int32)), (.int p0), (.int (0 : Int32)), (.ref b134), (.ref b134)]))) (fun t k => XS.iconst X134.here hx rfl (hb hby at_178) k) ?_
        obtain ⟨_, _, ⟨T137, L137, k137, n137⟩, -, X137, ⟨Lc137, hQ137, l137, y137, z137⟩, st137⟩ := Jvm.LawKit.callS X134 hx (y := (⟨"com/example/parsewright/parsewright/generator/ScannerAutomatonNextPinLaw", "e", "(II)I"⟩ : MethodName)) hown (mvT hZ (hw _ (List.mem_of_getElem? (i := 1) rfl))) (mvT hZ (hw _ (List.mem_of_getElem? (i := 2) rfl))) (mvT hZ (hw _ (List.mem_of_getElem? (i := 3) rfl))) (mvT hZ (hw _ (List.mem_of_getElem? (i := 4) rfl))) (by decide) (backOf (W := 3) (rm1 l Z a0 hw [] p0 (0 : Int32) h134 n0 Z134 ) hZ (hw _ (List.mem_of_getElem? (i := 4) rfl)) (hw _ (List.mem_of_getElem? (i := 3) rfl)) (by decide) (by decide)) (g := (mkF m 179 #[.val (.int p0), .val (.int p1), .val (.int p2), .val (.int p3), .val (.int kk), .val (.int ss), .val (.int cc), .val (.ref b126), .unset, .unset, .unset, .unset] [(.int (0 : Int32)), (.int p0), (.int (0 : Int32)), (.ref b134), (.ref b134)])) rfl (by rw [hml]; rfl) (argsL := [(.int p0), (.int (0 : Int32))]) (rest := [(.int (0 : Int32)), (.ref b134), (.ref b134)]) (lenOf pd_0 rfl) rfl (by show 2 * 0 + _ ≤ _; exact Nat.le_of_eq rfl) (hb hby at_179) (fun _ _ => ⟨rfl, e134, (by decide : 2 + 0 ≤ _), (by decide : 12 + 0 ≤ _)⟩)
        dsimp only [Pt.U, Pt.locs, Pt.cells, Pt.slots] at X137 l137 y137 z137 st137 hQ137
        replace X137 := own_cast X137 l137 y137 z137
        obtain ⟨rfl, N137q, eq137⟩ := hQ137
        have N137 := Fr.app N132 N137q
        refine Goes.via (S' := (T137.setTop (mkF m 182 #[.val (.int p0), .val (.int p1), .val (.int p2), .val (.int p3), .val (.int kk), .val (.int ss), .val (.int cc), .val (.ref b126), .unset, .unset, .unset, .unset] [(.int (own_e p0 (0 : Int32))), (.int (0 : Int32)), (.ref b134), (.ref b134)]))) (fun t k => st137 _ k) ?_
        obtain ⟨cl138, Ar138, q138, S138, M138, Hs138, G138⟩ := id f136
        have hin138 : ¬ ((0 : Int32) < 0 ∨ cl138.slots.size ≤ ((0 : Int32)).toNatClampNeg) := inb_of S138 ⟨by decide, by decide⟩
        obtain ⟨T138, h138, X138, e138, W138, st138⟩ := stI X137 hx hZ eq137 Ar138 (j := (0 : Int32)) hin138 (g := (mkF m 182 #[.val (.int p0), .val (.int p1), .val (.int p2), .val (.int p3), .val (.int kk), .val (.int ss), .val (.int cc), .val (.ref b126), .unset, .unset, .unset, .unset] [(.int (own_e p0 (0 : Int32))), (.int (0 : Int32)), (.ref b134), (.ref b134)])) rfl rfl (hb hby at_182)
        have f139 : Arv Z h138 b126 k126 .int (3 : Int32) [(.int (0 : Int32)), (.int (10 : Int32)), (.int (20 : Int32))] (.int (0 : Int32)) := f135.other W138 ne_b126_b134
        have f140 : Arv Z h138 b134 k134 .int (9 : Int32) [(.int (own_e p0 (0 : Int32))), (.int (0 : Int32)), (.int (0 : Int32)), (.int (0 : Int32)), (.int (0 : Int32)), (.int (0 : Int32)), (.int (0 : Int32)), (.int (0 : Int32)), (.int (0 : Int32))] (.int (0 : Int32)) := Arv.set Ar138 q138 S138 M138 Hs138 G138 rfl W138 0 rfl (Nat.le_of_ble_eq_true rfl)
        have K138 : Keep h0 h138 [] := Keep.wr K134 W138 (Or.inr sz_b134)
        have Z138 : n0 ≤ h138.size := Nat.le_trans Z0 K138.1
        have N138 := Fr.snoc X138 N137 g_b134
        refine Goes.via (S' := (T138.setTop (mkF m 183 #[.val (.int p0), .val (.int p1), .val (.int p2), .val (.int p3), .val (.int kk), .val (.int ss), .val (.int cc), .val (.ref b126), .unset, .unset, .unset, .unset] [(.ref b134)]))) (fun t k => st138 _ k) ?_
        refine Goes.via (S' := (T138.setTop (mkF m 184 #[.val (.int p0), .val (.int p1), .val (.int p2), .val (.int p3), .val (.int kk), .val (.int ss), .val (.int cc), .val (.ref b126), .unset, .unset, .unset, .unset] [(.ref b134), (.ref b134)]))) (fun t k => XS.dup X138.here hx rfl (hb hby at_183) rfl rfl k) ?_
        refine Goes.via (S' := (T138.setTop (mkF m 185 #[.val (.int p0), .val (.int p1), .val (.int p2), .val (.int p3), .val (.int kk), .val (.int ss), .val (.int cc), .val (.ref b126), .unset, .unset, .unset, .unset] [(.int (1 : Int32)), (.ref b134), (.ref b134)]))) (fun t k => XS.iconst X138.here hx rfl (hb hby at_184) k) ?_
        refine Goes.via (S' := (T138.setTop (mkF m 186 #[.val (.int p0), .val (.int p1), .val (.int p2), .val (.int p3), .val (.int kk), .val (.int ss), .val (.int cc), .val (.ref b126), .unset, .unset, .unset, .unset] [(.int p0), (.int (1 : Int32)), (.ref b134), (.ref b134)]))) (fun t k => XS.iloadN X138.here hx rfl (hb hby at_185) rfl k) ?_
        refine Goes.via (S' := (T138.setTop (mkF m 187 #[.val (.int p0), .val (.int p1), .val (.int p2), .val (.int p3), .val (.int kk), .val (.int ss), .val (.int cc), .val (.ref b126), .unset, .unset, .unset, .unset] [(.int (1 : Int32)), (.int p0), (.int (1 : Int32)), (.ref b134), (.ref b134)]))) (fun t k => XS.iconst X138.here hx rfl (hb hby at_186) k) ?_
        obtain ⟨_, _, ⟨T141, L141, k141, n141⟩, -, X141, ⟨Lc141, hQ141, l141, y141, z141⟩, st141⟩ := Jvm.LawKit.callS X138 hx (y := (⟨"com/example/parsewright/parsewright/generator/ScannerAutomatonNextPinLaw", "e", "(II)I"⟩ : MethodName)) hown (mvT hZ (hw _ (List.mem_of_getElem? (i := 1) rfl))) (mvT hZ (hw _ (List.mem_of_getElem? (i := 2) rfl))) (mvT hZ (hw _ (List.mem_of_getElem? (i := 3) rfl))) (mvT hZ (hw _ (List.mem_of_getElem? (i := 4) rfl))) (by decide) (backOf (W := 3) (rm1 l Z a0 hw [] p0 (1 : Int32) h138 n0 Z138 ) hZ (hw _ (List.mem_of_getElem? (i := 4) rfl)) (hw _ (List.mem_of_getElem? (i := 3) rfl)) (by decide) (by decide)) (g := (mkF m 187 #[.val (.int p0), .val (.int p1), .val (.int p2), .val (.int p3), .val (.int kk), .val (.int ss), .val (.int cc), .val (.ref b126), .unset, .unset, .unset, .unset] [(.int (1 : Int32)), (.int p0), (.int (1 : Int32)), (.ref b134), (.ref b134)])) rfl (by rw [hml]; rfl) (argsL := [(.int p0), (.int (1 : Int32))]) (rest := [(.int (1 : Int32)), (.ref b134), (.ref b134)]) (lenOf pd_0 rfl) rfl (by show 2 * 0 + _ ≤ _; exact Nat.le_of_eq rfl) (hb hby at_187) (fun _ _ => ⟨rfl, e138, (by decide : 2 + 0 ≤ _), (by decide : 12 + 0 ≤ _)⟩)
        dsimp only [Pt.U, Pt.locs, Pt.cells, Pt.slots] at X141 l141 y141 z141 st141 hQ141
        replace X141 := own_cast X141 l141 y141 z141
        obtain ⟨rfl, N141q, eq141⟩ := hQ141
        have N141 := Fr.app N138 N141q
        refine Goes.via (S' := (T141.setTop (mkF m 190 #[.val (.int p0), .val (.int p1), .val (.int p2), .val (.int p3), .val (.int kk), .val (.int ss), .val (.int cc), .val (.ref b126), .unset, .unset, .unset, .unset] [(.int (own_e p0 (1 : Int32))), (.int (1 : Int32)), (.ref b134), (.ref b134)]))) (fun t k => st141 _ k) ?_
        obtain ⟨cl142, Ar142, q142, S142, M142, Hs142, G142⟩ := id f140
        have hin142 : ¬ ((1 : Int32) < 0 ∨ cl142.slots.size ≤ ((1 : Int32)).toNatClampNeg) := inb_of S142 ⟨by decide, by decide⟩
        obtain ⟨T142, h142, X142, e142, W142, st142⟩ := stI X141 hx hZ eq141 Ar142 (j := (1 : Int32)) hin142 (g := (mkF m 190 #[.val (.int p0), .val (.int p1), .val (.int p2), .val (.int p3), .val (.int kk), .val (.int ss), .val (.int cc), .val (.ref b126), .unset, .unset, .unset, .unset] [(.int (own_e p0 (1 : Int32))), (.int (1 : Int32)), (.ref b134), (.ref b134)])) rfl rfl (hb hby at_190)
        have f143 : Arv Z h142 b126 k126 .int (3 : Int32) [(.int (0 : Int32)), (.int (10 : Int32)), (.int (20 : Int32))] (.int (0 : Int32)) := f139.other W142 ne_b126_b134
        have f144 : Arv Z h142 b134 k134 .int (9 : Int32) [(.int (own_e p0 (0 : Int32))), (.int (own_e p0 (1 : Int32))), (.int (0 : Int32)), (.int (0 : Int32)), (.int (0 : Int32)), (.int (0 : Int32)), (.int (0 : Int32)), (.int (0 : Int32)), (.int (0 : Int32))] (.int (0 : Int32)) := Arv.set Ar142 q142 S142 M142 Hs142 G142 rfl W142 1 rfl (Nat.le_of_ble_eq_true rfl)
        have K142 : Keep h0 h142 [] := Keep.wr K138 W142 (Or.inr sz_b134)
        have Z142 : n0 ≤ h142.size := Nat.le_trans Z0 K142.1
        have N142 := Fr.snoc X142 N141 g_b134
        refine Goes.via (S' := (T142.setTop (mkF m 191 #[.val (.int p0), .val (.int p1), .val (.int p2), .val (.int p3), .val (.int kk), .val (.int ss), .val (.int cc), .val (.ref b126), .unset, .unset, .unset, .unset] [(.ref b134)]))) (fun t k => st142 _ k) ?_
        refine Goes.via (S' := (T142.setTop (mkF m 192 #[.val (.int p0), .val (.int p1), .val (.int p2), .val (.int p3), .val (.int kk), .val (.int ss), .val (.int cc), .val (.ref b126), .unset, .unset, .unset, .unset] [(.ref b134), (.ref b134)]))) (fun t k => XS.dup X142.here hx rfl (hb hby at_191) rfl rfl k) ?_
        refine Goes.via (S' := (T142.setTop (mkF m 193 #[.val (.int p0), .val (.int p1), .val (.int p2), .val (.int p3), .val (.int kk), .val (.int ss), .val (.int cc), .val (.ref b126), .unset, .unset, .unset, .unset] [(.int (2 : Int32)), (.ref b134), (.ref b134)]))) (fun t k => XS.iconst X142.here hx rfl (hb hby at_192) k) ?_
        refine Goes.via (S' := (T142.setTop (mkF m 194 #[.val (.int p0), .val (.int p1), .val (.int p2), .val (.int p3), .val (.int kk), .val (.int ss), .val (.int cc), .val (.ref b126), .unset, .unset, .unset, .unset] [(.int p0), (.int (2 : Int32)), (.ref b134), (.ref b134)]))) (fun t k => XS.iloadN X142.here hx rfl (hb hby at_193) rfl k) ?_
        refine Goes.via (S' := (T142.setTop (mkF m 195 #[.val (.int p0), .val (.int p1), .val (.int p2), .val (.int p3), .val (.int kk), .val (.int ss), .val (.int cc), .val (.ref b126), .unset, .unset, .unset, .unset] [(.int (2 : Int32)), (.int p0), (.int (2 : Int32)), (.ref b134), (.ref b134)]))) (fun t k => XS.iconst X142.here hx rfl (hb hby at_194) k) ?_
        obtain ⟨_, _, ⟨T145, L145, k145, n145⟩, -, X145, ⟨Lc145, hQ145, l145, y145, z145⟩, st145⟩ := Jvm.LawKit.callS X142 hx (y := (⟨"com/example/parsewright/parsewright/generator/ScannerAutomatonNextPinLaw", "e", "(II)I"⟩ : MethodName)) hown (mvT hZ (hw _ (List.mem_of_getElem? (i := 1) rfl))) (mvT hZ (hw _ (List.mem_of_getElem? (i := 2) rfl))) (mvT hZ (hw _ (List.mem_of_getElem? (i := 3) rfl))) (mvT hZ (hw _ (List.mem_of_getElem? (i := 4) rfl))) (by decide) (backOf (W := 3) (rm1 l Z a0 hw [] p0 (2 : Int32) h142 n0 Z142 ) hZ (hw _ (List.mem_of_getElem? (i := 4) rfl)) (hw _ (List.mem_of_getElem? (i := 3) rfl)) (by decide) (by decide)) (g := (mkF m 195 #[.val (.int p0), .val (.int p1), .val (.int p2), .val (.int p3), .val (.int kk), .val (.int ss), .val (.int cc), .val (.ref b126), .unset, .unset, .unset, .unset] [(.int (2 : Int32)), (.int p0), (.int (2 : Int32)), (.ref b134), (.ref b134)])) rfl (by rw [hml]; rfl) (argsL := [(.int p0), (.int (2 : Int32))]) (rest := [(.int (2 : Int32)), (.ref b134), (.ref b134)]) (lenOf pd_0 rfl) rfl (by show 2 * 0 + _ ≤ _; exact Nat.le_of_eq rfl) (hb hby at_195) (fun _ _ => ⟨rfl, e142, (by decide : 2 + 0 ≤ _), (by decide : 12 + 0 ≤ _)⟩)
        dsimp only [Pt.U, Pt.locs, Pt.cells, Pt.slots] at X145 l145 y145 z145 st145 hQ145
        replace X145 := own_cast X145 l145 y145 z145
        obtain ⟨rfl, N145q, eq145⟩ := hQ145
        have N145 := Fr.app N142 N145q
        refine Goes.via (S' := (T145.setTop (mkF m 198 #[.val (.int p0), .val (.int p1), .val (.int p2), .val (.int p3), .val (.int kk), .val (.int ss), .val (.int cc), .val (.ref b126), .unset, .unset, .unset, .unset] [(.int (own_e p0 (2 : Int32))), (.int (2 : Int32)), (.ref b134), (.ref b134)]))) (fun t k => st145 _ k) ?_
        obtain ⟨cl146, Ar146, q146, S146, M146, Hs146, G146⟩ := id f144
        have hin146 : ¬ ((2 : Int32) < 0 ∨ cl146.slots.size ≤ ((2 : Int32)).toNatClampNeg) := inb_of S146 ⟨by decide, by decide⟩
        obtain ⟨T146, h146, X146, e146, W146, st146⟩ := stI X145 hx hZ eq145 Ar146 (j := (2 : Int32)) hin146 (g := (mkF m 198 #[.val (.int p0), .val (.int p1), .val (.int p2), .val (.int p3), .val (.int kk), .val (.int ss), .val (.int cc), .val (.ref b126), .unset, .unset, .unset, .unset] [(.int (own_e p0 (2 : Int32))), (.int (2 : Int32)), (.ref b134), (.ref b134)])) rfl rfl (hb hby at_198)
        have f147 : Arv Z h146 b126 k126 .int (3 : Int32) [(.int (0 : Int32)), (.int (10 : Int32)), (.int (20 : Int32))] (.int (0 : Int32)) := f143.other W146 ne_b126_b134
        have f148 : Arv Z h146 b134 k134 .int (9 : Int32) [(.int (own_e p0 (0 : Int32))), (.int (own_e p0 (1 : Int32))), (.int (own_e p0 (2 : Int32))), (.int (0 : Int32)), (.int (0 : Int32)), (.int (0 : Int32)), (.int (0 : Int32)), (.int (0 : Int32)), (.int (0 : Int32))] (.int (0 : Int32)) := Arv.set Ar146 q146 S146 M146 Hs146 G146 rfl W146 2 rfl (Nat.le_of_ble_eq_true rfl)
        have K146 : Keep h0 h146 [] := Keep.wr K142 W146 (Or.inr sz_b134)
        have Z146 : n0 ≤ h146.size := Nat.le_trans Z0 K146.1
        have N146 := Fr.snoc X146 N145 g_b134
        refine Goes.via (S' := (T146.setTop (mkF m 199 #[.val (.int p0), .val (.int p1), .val (.int p2), .val (.int p3), .val (.int kk), .val (.int ss), .val (.int cc), .val (.ref b126), .unset, .unset, .unset, .unset] [(.ref b134)]))) (fun t k => st146 _ k) ?_
        refine Goes.via (S' := (T146.setTop (mkF m 200 #[.val (.int p0), .val (.int p1), .val (.int p2), .val (.int p3), .val (.int kk), .val (.int ss), .val (.int cc), .val (.ref b126), .unset, .unset, .unset, .unset] [(.ref b134), (.ref b134)]))) (fun t k => XS.dup X146.here hx rfl (hb hby at_199) rfl rfl k) ?_
        refine Goes.via (S' := (T146.setTop (mkF m 201 #[.val (.int p0), .val (.int p1), .val (.int p2), .val (.int p3), .val (.int kk), .val (.int ss), .val (.int cc), .val (.ref b126), .unset, .unset, .unset, .unset] [(.int (3 : Int32)), (.ref b134), (.ref b134)]))) (fun t k => XS.iconst X146.here hx rfl (hb hby at_200) k) ?_
        refine Goes.via (S' := (T146.setTop (mkF m 202 #[.val (.int p0), .val (.int p1), .val (.int p2), .val (.int p3), .val (.int kk), .val (.int ss), .val (.int cc), .val (.ref b126), .unset, .unset, .unset, .unset] [(.int p1), (.int (3 : Int32)), (.ref b134), (.ref b134)]))) (fun t k => XS.iloadN X146.here hx rfl (hb hby at_201) rfl k) ?_
        refine Goes.via (S' := (T146.setTop (mkF m 203 #[.val (.int p0), .val (.int p1), .val (.int p2), .val (.int p3), .val (.int kk), .val (.int ss), .val (.int cc), .val (.ref b126), .unset, .unset, .unset, .unset] [(.int (0 : Int32)), (.int p1), (.int (3 : Int32)), (.ref b134), (.ref b134)]))) (fun t k => XS.iconst X146.here hx rfl (hb hby at_202) k) ?_
        obtain ⟨_, _, ⟨T149, L149, k149, n149⟩, -, X149, ⟨Lc149, hQ149, l149, y149, z149⟩, st149⟩ := Jvm.LawKit.callS X146 hx (y := (⟨"com/example/parsewright/parsewright/generator/ScannerAutomatonNextPinLaw", "e", "(II)I"⟩ : MethodName)) hown (mvT hZ (hw _ (List.mem_of_getElem? (i := 1) rfl))) (mvT hZ (hw _ (List.mem_of_getElem? (i := 2) rfl))) (mvT hZ (hw _ (List.mem_of_getElem? (i := 3) rfl))) (mvT hZ (hw _ (List.mem_of_getElem? (i := 4) rfl))) (by decide) (backOf (W := 3) (rm1 l Z a0 hw [] p1 (0 : Int32) h146 n0 Z146 ) hZ (hw _ (List.mem_of_getElem? (i := 4) rfl)) (hw _ (List.mem_of_getElem? (i := 3) rfl)) (by decide) (by decide)) (g := (mkF m 203 #[.val (.int p0), .val (.int p1), .val (.int p2), .val (.int p3), .val (.int kk), .val (.int ss), .val (.int cc), .val (.ref b126), .unset, .unset, .unset, .unset] [(.int (0 : Int32)), (.int p1), (.int (3 : Int32)), (.ref b134), (.ref b134)])) rfl (by rw [hml]; rfl) (argsL := [(.int p1), (.int (0 : Int32))]) (rest := [(.int (3 : Int32)), (.ref b134), (.ref b134)]) (lenOf pd_0 rfl) rfl (by show 2 * 0 + _ ≤ _; exact Nat.le_of_eq rfl) (hb hby at_203) (fun _ _ => ⟨rfl, e146, (by decide : 2 + 0 ≤ _), (by decide : 12 + 0 ≤ _)⟩)
        dsimp only [Pt.U, Pt.locs, Pt.cells, Pt.slots] at X149 l149 y149 z149 st149 hQ149
        replace X149 := own_cast X149 l149 y149 z149
        obtain ⟨rfl, N149q, eq149⟩ := hQ149
        have N149 := Fr.app N146 N149q
        refine Goes.via (S' := (T149.setTop (mkF m 206 #[.val (.int p0), .val (.int p1), .val (.int p2), .val (.int p3), .val (.int kk), .val (.int ss), .val (.int cc), .val (.ref b126), .unset, .unset, .unset, .unset] [(.int (own_e p1 (0 : Int32))), (.int (3 : Int32)), (.ref b134), (.ref b134)]))) (fun t k => st149 _ k) ?_
        obtain ⟨cl150, Ar150, q150, S150, M150, Hs150, G150⟩ := id f148
        have hin150 : ¬ ((3 : Int32) < 0 ∨ cl150.slots.size ≤ ((3 : Int32)).toNatClampNeg) := inb_of S150 ⟨by decide, by decide⟩
        obtain ⟨T150, h150, X150, e150, W150, st150⟩ := stI X149 hx hZ eq149 Ar150 (j := (3 : Int32)) hin150 (g := (mkF m 206 #[.val (.int p0), .val (.int p1), .val (.int p2), .val (.int p3), .val (.int kk), .val (.int ss), .val (.int cc), .val (.ref b126), .unset, .unset, .unset, .unset] [(.int (own_e p1 (0 : Int32))), (.int (3 : Int32)), (.ref b134), (.ref b134)])) rfl rfl (hb hby at_206)
        have f151 : Arv Z h150 b126 k126 .int (3 : Int32) [(.int (0 : Int32)), (.int (10 : Int32)), (.int (20 : Int32))] (.int (0 : Int32)) := f147.other W150 ne_b126_b134
        have f152 : Arv Z h150 b134 k134 .int (9 : Int32) [(.int (own_e p0 (0 : Int32))), (.int (own_e p0 (1 : Int32))), (.int (own_e p0 (2 : Int32))), (.int (own_e p1 (0 : Int32))), (.int (0 : Int32)), (.int (0 : Int32)), (.int (0 : Int32)), (.int (0 : Int32)), (.int (0 : Int32))] (.int (0 : Int32)) := Arv.set Ar150 q150 S150 M150 Hs150 G150 rfl W150 3 rfl (Nat.le_of_ble_eq_true rfl)
        have K150 : Keep h0 h150 [] := Keep.wr K146 W150 (Or.inr sz_b134)
        have Z150 : n0 ≤ h150.size := Nat.le_trans Z0 K150.1
        have N150 := Fr.snoc X150 N149 g_b134
        refine Goes.via (S' := (T150.setTop (mkF m 207 #[.val (.int p0), .val (.int p1), .val (.int p2), .val (.int p3), .val (.int kk), .val (.int ss), .val (.int cc), .val (.ref b126), .unset, .unset, .unset, .unset] [(.ref b134)]))) (fun t k => st150 _ k) ?_
        refine Goes.via (S' := (T150.setTop (mkF m 208 #[.val (.int p0), .val (.int p1), .val (.int p2), .val (.int p3), .val (.int kk), .val (.int ss), .val (.int cc), .val (.ref b126), .unset, .unset, .unset, .unset] [(.ref b134), (.ref b134)]))) (fun t k => XS.dup X150.here hx rfl (hb hby at_207) rfl rfl k) ?_
        refine Goes.via (S' := (T150.setTop (mkF m 209 #[.val (.int p0), .val (.int p1), .val (.int p2), .val (.int p3), .val (.int kk), .val (.int ss), .val (.int cc), .val (.ref b126), .unset, .unset, .unset, .unset] [(.int (4 : Int32)), (.ref b134), (.ref b134)]))) (fun t k => XS.iconst X150.here hx rfl (hb hby at_208) k) ?_
        refine Goes.via (S' := (T150.setTop (mkF m 210 #[.val (.int p0), .val (.int p1), .val (.int p2), .val (.int p3), .val (.int kk), .val (.int ss), .val (.int cc), .val (.ref b126), .unset, .unset, .unset, .unset] [(.int p1), (.int (4 : Int32)), (.ref b134), (.ref b134)]))) (fun t k => XS.iloadN X150.here hx rfl (hb hby at_209) rfl k) ?_
        refine Goes.via (S' := (T150.setTop (mkF m 211 #[.val (.int p0), .val (.int p1), .val (.int p2), .val (.int p3), .val (.int kk), .val (.int ss), .val (.int cc), .val (.ref b126), .unset, .unset, .unset, .unset] [(.int (1 : Int32)), (.int p1), (.int (4 : Int32)), (.ref b134), (.ref b134)]))) (fun t k => XS.iconst X150.here hx rfl (hb hby at_210) k) ?_
        obtain ⟨_, _, ⟨T153, L153, k153, n153⟩, -, X153, ⟨Lc153, hQ153, l153, y153, z153⟩, st153⟩ := Jvm.LawKit.callS X150 hx (y := (⟨"com/example/parsewright/parsewright/generator/ScannerAutomatonNextPinLaw", "e", "(II)I"⟩ : MethodName)) hown (mvT hZ (hw _ (List.mem_of_getElem? (i := 1) rfl))) (mvT hZ (hw _ (List.mem_of_getElem? (i := 2) rfl))) (mvT hZ (hw _ (List.mem_of_getElem? (i := 3) rfl))) (mvT hZ (hw _ (List.mem_of_getElem? (i := 4) rfl))) (by decide) (backOf (W := 3) (rm1 l Z a0 hw [] p1 (1 : Int32) h150 n0 Z150 ) hZ (hw _ (List.mem_of_getElem? (i := 4) rfl)) (hw _ (List.mem_of_getElem? (i := 3) rfl)) (by decide) (by decide)) (g := (mkF m 211 #[.val (.int p0), .val (.int p1), .val (.int p2), .val (.int p3), .val (.int kk), .val (.int ss), .val (.int cc), .val (.ref b126), .unset, .unset, .unset, .unset] [(.int (1 : Int32)), (.int p1), (.int (4 : Int32)), (.ref b134), (.ref b134)])) rfl (by rw [hml]; rfl) (argsL := [(.int p1), (.int (1 : Int32))]) (rest := [(.int (4 : Int32)), (.ref b134), (.ref b134)]) (lenOf pd_0 rfl) rfl (by show 2 * 0 + _ ≤ _; exact Nat.le_of_eq rfl) (hb hby at_211) (fun _ _ => ⟨rfl, e150, (by decide : 2 + 0 ≤ _), (by decide : 12 + 0 ≤ _)⟩)
        dsimp only [Pt.U, Pt.locs, Pt.cells, Pt.slots] at X153 l153 y153 z153 st153 hQ153
        replace X153 := own_cast X153 l153 y153 z153
        obtain ⟨rfl, N153q, eq153⟩ := hQ153
        have N153 := Fr.app N150 N153q
        refine Goes.via (S' := (T153.setTop (mkF m 214 #[.val (.int p0), .val (.int p1), .val (.int p2), .val (.int p3), .val (.int kk), .val (.int ss), .val (.int cc), .val (.ref b126), .unset, .unset, .unset, .unset] [(.int (own_e p1 (1 : Int32))), (.int (4 : Int32)), (.ref b134), (.ref b134)]))) (fun t k => st153 _ k) ?_
        obtain ⟨cl154, Ar154, q154, S154, M154, Hs154, G154⟩ := id f152
        have hin154 : ¬ ((4 : Int32) < 0 ∨ cl154.slots.size ≤ ((4 : Int32)).toNatClampNeg) := inb_of S154 ⟨by decide, by decide⟩
        obtain ⟨T154, h154, X154, e154, W154, st154⟩ := stI X153 hx hZ eq153 Ar154 (j := (4 : Int32)) hin154 (g := (mkF m 214 #[.val (.int p0), .val (.int p1), .val (.int p2), .val (.int p3), .val (.int kk), .val (.int ss), .val (.int cc), .val (.ref b126), .unset, .unset, .unset, .unset] [(.int (own_e p1 (1 : Int32))), (.int (4 : Int32)), (.ref b134), (.ref b134)])) rfl rfl (hb hby at_214)
        have f155 : Arv Z h154 b126 k126 .int (3 : Int32) [(.int (0 : Int32)), (.int (10 : Int32)), (.int (20 : Int32))] (.int (0 : Int32)) := f151.other W154 ne_b126_b134
        have f156 : Arv Z h154 b134 k134 .int (9 : Int32) [(.int (own_e p0 (0 : Int32))), (.int (own_e p0 (1 : Int32))), (.int (own_e p0 (2 : Int32))), (.int (own_e p1 (0 : Int32))), (.int (own_e p1 (1 : Int32))), (.int (0 : Int32)), (.int (0 : Int32)), (.int (0 : Int32)), (.int (0 : Int32))] (.int (0 : Int32)) := Arv.set Ar154 q154 S154 M154 Hs154 G154 rfl W154 4 rfl (Nat.le_of_ble_eq_true rfl)
        have K154 : Keep h0 h154 [] := Keep.wr K150 W154 (Or.inr sz_b134)
        have Z154 : n0 ≤ h154.size := Nat.le_trans Z0 K154.1
        have N154 := Fr.snoc X154 N153 g_b134
        refine Goes.via (S' := (T154.setTop (mkF m 215 #[.val (.int p0), .val (.int p1), .val (.int p2), .val (.int p3), .val (.int kk), .val (.int ss), .val (.int cc), .val (.ref b126), .unset, .unset, .unset, .unset] [(.ref b134)]))) (fun t k => st154 _ k) ?_
        refine Goes.via (S' := (T154.setTop (mkF m 216 #[.val (.int p0), .val (.int p1), .val (.int p2), .val (.int p3), .val (.int kk), .val (.int ss), .val (.int cc), .val (.ref b126), .unset, .unset, .unset, .unset] [(.ref b134), (.ref b134)]))) (fun t k => XS.dup X154.here hx rfl (hb hby at_215) rfl rfl k) ?_
        refine Goes.via (S' := (T154.setTop (mkF m 217 #[.val (.int p0), .val (.int p1), .val (.int p2), .val (.int p3), .val (.int kk), .val (.int ss), .val (.int cc), .val (.ref b126), .unset, .unset, .unset, .unset] [(.int (5 : Int32)), (.ref b134), (.ref b134)]))) (fun t k => XS.iconst X154.here hx rfl (hb hby at_216) k) ?_
        refine Goes.via (S' := (T154.setTop (mkF m 218 #[.val (.int p0), .val (.int p1), .val (.int p2), .val (.int p3), .val (.int kk), .val (.int ss), .val (.int cc), .val (.ref b126), .unset, .unset, .unset, .unset] [(.int p1), (.int (5 : Int32)), (.ref b134), (.ref b134)]))) (fun t k => XS.iloadN X154.here hx rfl (hb hby at_217) rfl k) ?_
        refine Goes.via (S' := (T154.setTop (mkF m 219 #[.val (.int p0), .val (.int p1), .val (.int p2), .val (.int p3), .val (.int kk), .val (.int ss), .val (.int cc), .val (.ref b126), .unset, .unset, .unset, .unset] [(.int (2 : Int32)), (.int p1), (.int (5 : Int32)), (.ref b134), (.ref b134)]))) (fun t k => XS.iconst X154.here hx rfl (hb hby at_218) k) ?_
        obtain ⟨_, _, ⟨T157, L157, k157, n157⟩, -, X157, ⟨Lc157, hQ157, l157, y157, z157⟩, st157⟩ := Jvm.LawKit.callS X154 hx (y := (⟨"com/example/parsewright/parsewright/generator/ScannerAutomatonNextPinLaw", "e", "(II)I"⟩ : MethodName)) hown (mvT hZ (hw _ (List.mem_of_getElem? (i := 1) rfl))) (mvT hZ (hw _ (List.mem_of_getElem? (i := 2) rfl))) (mvT hZ (hw _ (List.mem_of_getElem? (i := 3) rfl))) (mvT hZ (hw _ (List.mem_of_getElem? (i := 4) rfl))) (by decide) (backOf (W := 3) (rm1 l Z a0 hw [] p1 (2 : Int32) h154 n0 Z154 ) hZ (hw _ (List.mem_of_getElem? (i := 4) rfl)) (hw _ (List.mem_of_getElem? (i := 3) rfl)) (by decide) (by decide)) (g := (mkF m 219 #[.val (.int p0), .val (.int p1), .val (.int p2), .val (.int p3), .val (.int kk), .val (.int ss), .val (.int cc), .val (.ref b126), .unset, .unset, .unset, .unset] [(.int (2 : Int32)), (.int p1), (.int (5 : Int32)), (.ref b134), (.ref b134)])) rfl (by rw [hml]; rfl) (argsL := [(.int p1), (.int (2 : Int32))]) (rest := [(.int (5 : Int32)), (.ref b134), (.ref b134)]) (lenOf pd_0 rfl) rfl (by show 2 * 0 + _ ≤ _; exact Nat.le_of_eq rfl) (hb hby at_219) (fun _ _ => ⟨rfl, e154, (by decide : 2 + 0 ≤ _), (by decide : 12 + 0 ≤ _)⟩)
        dsimp only [Pt.U, Pt.locs, Pt.cells, Pt.slots] at X157 l157 y157 z157 st157 hQ157
        replace X157 := own_cast X157 l157 y157 z157
        obtain ⟨rfl, N157q, eq157⟩ := hQ157
        have N157 := Fr.app N154 N157q
        refine Goes.via (S' := (T157.setTop (mkF m 222 #[.val (.int p0), .val (.int p1), .val (.int p2), .val (.int p3), .val (.int kk), .val (.int ss), .val (.int cc), .val (.ref b126), .unset, .unset, .unset, .unset] [(.int (own_e p1 (2 : Int32))), (.int (5 : Int32)), (.ref b134), (.ref b134)]))) (fun t k => st157 _ k) ?_
        obtain ⟨cl158, Ar158, q158, S158, M158, Hs158, G158⟩ := id f156
        have hin158 : ¬ ((5 : Int32) < 0 ∨ cl158.slots.size ≤ ((5 : Int32)).toNatClampNeg) := inb_of S158 ⟨by decide, by decide⟩
        obtain ⟨T158, h158, X158, e158, W158, st158⟩ := stI X157 hx hZ eq157 Ar158 (j := (5 : Int32)) hin158 (g := (mkF m 222 #[.val (.int p0), .val (.int p1), .val (.int p2), .val (.int p3), .val (.int kk), .val (.int ss), .val (.int cc), .val (.ref b126), .unset, .unset, .unset, .unset] [(.int (own_e p1 (2 : Int32))), (.int (5 : Int32)), (.ref b134), (.ref b134)])) rfl rfl (hb hby at_222)
        have f159 : Arv Z h158 b126 k126 .int (3 : Int32) [(.int (0 : Int32)), (.int (10 : Int32)), (.int (20 : Int32))] (.int (0 : Int32)) := f155.other W158 ne_b126_b134
        have f160 : Arv Z h158 b134 k134 .int (9 : Int32) [(.int (own_e p0 (0 : Int32))), (.int (own_e p0 (1 : Int32))), (.int (own_e p0 (2 : Int32))), (.int (own_e p1 (0 : Int32))), (.int (own_e p1 (1 : Int32))), (.int (own_e p1 (2 : Int32))), (.int (0 : Int32)), (.int (0 : Int32)), (.int (0 : Int32))] (.int (0 : Int32)) := Arv.set Ar158 q158 S158 M158 Hs158 G158 rfl W158 5 rfl (Nat.le_of_ble_eq_true rfl)
        have K158 : Keep h0 h158 [] := Keep.wr K154 W158 (Or.inr sz_b134)
        have Z158 : n0 ≤ h158.size := Nat.le_trans Z0 K158.1
        have N158 := Fr.snoc X158 N157 g_b134
        refine Goes.via (S' := (T158.setTop (mkF m 223 #[.val (.int p0), .val (.int p1), .val (.int p2), .val (.int p3), .val (.int kk), .val (.int ss), .val (.int cc), .val (.ref b126), .unset, .unset, .unset, .unset] [(.ref b134)]))) (fun t k => st158 _ k) ?_
        refine Goes.via (S' := (T158.setTop (mkF m 224 #[.val (.int p0), .val (.int p1), .val (.int p2), .val (.int p3), .val (.int kk), .val (.int ss), .val (.int cc), .val (.ref b126), .unset, .unset, .unset, .unset] [(.ref b134), (.ref b134)]))) (fun t k => XS.dup X158.here hx rfl (hb hby at_223) rfl rfl k) ?_
        refine Goes.via (S' := (T158.setTop (mkF m 226 #[.val (.int p0), .val (.int p1), .val (.int p2), .val (.int p3), .val (.int kk), .val (.int ss), .val (.int cc), .val (.ref b126), .unset, .unset, .unset, .unset] [(.int (6 : Int32)), (.ref b134), (.ref b134)]))) (fun t k => XS.bipush X158.here hx rfl (hb hby at_224) k) ?_
        refine Goes.via (S' := (T158.setTop (mkF m 227 #[.val (.int p0), .val (.int p1), .val (.int p2), .val (.int p3), .val (.int kk), .val (.int ss), .val (.int cc), .val (.ref b126), .unset, .unset, .unset, .unset] [(.int p2), (.int (6 : Int32)), (.ref b134), (.ref b134)]))) (fun t k => XS.iloadN X158.here hx rfl (hb hby at_226) rfl k) ?_
        refine Goes.via (S' := (T158.setTop (mkF m 228 #[.val (.int p0), .val (.int p1), .val (.int p2), .val (.int p3), .val (.int kk), .val (.int ss), .val (.int cc), .val (.ref b126), .unset, .unset, .unset, .unset] [(.int (0 : Int32)), (.int p2), (.int (6 : Int32)), (.ref b134), (.ref b134)]))) (fun t k => XS.iconst X158.here hx rfl (hb hby at_227) k) ?_
        obtain ⟨_, _, ⟨T161, L161, k161, n161⟩, -, X161, ⟨Lc161, hQ161, l161, y161, z161⟩, st161⟩ := Jvm.LawKit.callS X158 hx (y := (⟨"com/example/parsewright/parsewright/generator/ScannerAutomatonNextPinLaw", "e", "(II)I"⟩ : MethodName)) hown (mvT hZ (hw _ (List.mem_of_getElem? (i := 1) rfl))) (mvT hZ (hw _ (List.mem_of_getElem? (i := 2) rfl))) (mvT hZ (hw _ (List.mem_of_getElem? (i := 3) rfl))) (mvT hZ (hw _ (List.mem_of_getElem? (i := 4) rfl))) (by decide) (backOf (W := 3) (rm1 l Z a0 hw [] p2 (0 : Int32) h158 n0 Z158 ) hZ (hw _ (List.mem_of_getElem? (i := 4) rfl)) (hw _ (List.mem_of_getElem? (i := 3) rfl)) (by decide) (by decide)) (g := (mkF m 228 #[.val (.int p0), .val (.int p1), .val (.int p2), .val (.int p3), .val (.int kk), .val (.int ss), .val (.int cc), .val (.ref b126), .unset, .unset, .unset, .unset] [(.int (0 : Int32)), (.int p2), (.int (6 : Int32)), (.ref b134), (.ref b134)])) rfl (by rw [hml]; rfl) (argsL := [(.int p2), (.int (0 : Int32))]) (rest := [(.int (6 : Int32)), (.ref b134), (.ref b134)]) (lenOf pd_0 rfl) rfl (by show 2 * 0 + _ ≤ _; exact Nat.le_of_eq rfl) (hb hby at_228) (fun _ _ => ⟨rfl, e158, (by decide : 2 + 0 ≤ _), (by decide : 12 + 0 ≤ _)⟩)
        dsimp only [Pt.U, Pt.locs, Pt.cells, Pt.slots] at X161 l161 y161 z161 st161 hQ161
        replace X161 := own_cast X161 l161 y161 z161
        obtain ⟨rfl, N161q, eq161⟩ := hQ161
        have N161 := Fr.app N158 N161q
        refine Goes.via (S' := (T161.setTop (mkF m 231 #[.val (.int p0), .val (.int p1), .val (.int p2), .val (.int p3), .val (.int kk), .val (.int ss), .val (.int cc), .val (.ref b126), .unset, .unset, .unset, .unset] [(.int (own_e p2 (0 : Int32))), (.int (6 : Int32)), (.ref b134), (.ref b134)]))) (fun t k => st161 _ k) ?_
        obtain ⟨cl162, Ar162, q162, S162, M162, Hs162, G162⟩ := id f160
        have hin162 : ¬ ((6 : Int32) < 0 ∨ cl162.slots.size ≤ ((6 : Int32)).toNatClampNeg) := inb_of S162 ⟨by decide, by decide⟩
        obtain ⟨T162, h162, X162, e162, W162, st162⟩ := stI X161 hx hZ eq161 Ar162 (j := (6 : Int32)) hin162 (g := (mkF m 231 #[.val (.int p0), .val (.int p1), .val (.int p2), .val (.int p3), .val (.int kk), .val (.int ss), .val (.int cc), .val (.ref b126), .unset, .unset, .unset, .unset] [(.int (own_e p2 (0 : Int32))), (.int (6 : Int32)), (.ref b134), (.ref b134)])) rfl rfl (hb hby at_231)
        have f163 : Arv Z h162 b126 k126 .int (3 : Int32) [(.int (0 : Int32)), (.int (10 : Int32)), (.int (20 : Int32))] (.int (0 : Int32)) := f159.other W162 ne_b126_b134
        have f164 : Arv Z h162 b134 k134 .int (9 : Int32) [(.int (own_e p0 (0 : Int32))), (.int (own_e p0 (1 : Int32))), (.int (own_e p0 (2 : Int32))), (.int (own_e p1 (0 : Int32))), (.int (own_e p1 (1 : Int32))), (.int (own_e p1 (2 : Int32))), (.int (own_e p2 (0 : Int32))), (.int (0 : Int32)), (.int (0 : Int32))] (.int (0 : Int32)) := Arv.set Ar162 q162 S162 M162 Hs162 G162 rfl W162 6 rfl (Nat.le_of_ble_eq_true rfl)
        have K162 : Keep h0 h162 [] := Keep.wr K158 W162 (Or.inr sz_b134)
        have Z162 : n0 ≤ h162.size := Nat.le_trans Z0 K162.1
        have N162 := Fr.snoc X162 N161 g_b134
        refine Goes.via (S' := (T162.setTop (mkF m 232 #[.val (.int p0), .val (.int p1), .val (.int p2), .val (.int p3), .val (.int kk), .val (.int ss), .val (.int cc), .val (.ref b126), .unset, .unset, .unset, .unset] [(.ref b134)]))) (fun t k => st162 _ k) ?_
        refine Goes.via (S' := (T162.setTop (mkF m 233 #[.val (.int p0), .val (.int p1), .val (.int p2), .val (.int p3), .val (.int kk), .val (.int ss), .val (.int cc), .val (.ref b126), .unset, .unset, .unset, .unset] [(.ref b134), (.ref b134)]))) (fun t k => XS.dup X162.here hx rfl (hb hby at_232) rfl rfl k) ?_
        refine Goes.via (S' := (T162.setTop (mkF m 235 #[.val (.int p0), .val (.int p1), .val (.int p2), .val (.int p3), .val (.int kk), .val (.int ss), .val (.int cc), .val (.ref b126), .unset, .unset, .unset, .unset] [(.int (7 : Int32)), (.ref b134), (.ref b134)]))) (fun t k => XS.bipush X162.here hx rfl (hb hby at_233) k) ?_
        refine Goes.via (S' := (T162.setTop (mkF m 236 #[.val (.int p0), .val (.int p1), .val (.int p2), .val (.int p3), .val (.int kk), .val (.int ss), .val (.int cc), .val (.ref b126), .unset, .unset, .unset, .unset] [(.int p2), (.int (7 : Int32)), (.ref b134), (.ref b134)]))) (fun t k => XS.iloadN X162.here hx rfl (hb hby at_235) rfl k) ?_
        refine Goes.via (S' := (T162.setTop (mkF m 237 #[.val (.int p0), .val (.int p1), .val (.int p2), .val (.int p3), .val (.int kk), .val (.int ss), .val (.int cc), .val (.ref b126), .unset, .unset, .unset, .unset] [(.int (1 : Int32)), (.int p2), (.int (7 : Int32)), (.ref b134), (.ref b134)]))) (fun t k => XS.iconst X162.here hx rfl (hb hby at_236) k) ?_
        obtain ⟨_, _, ⟨T165, L165, k165, n165⟩, -, X165, ⟨Lc165, hQ165, l165, y165, z165⟩, st165⟩ := Jvm.LawKit.callS X162 hx (y := (⟨"com/example/parsewright/parsewright/generator/ScannerAutomatonNextPinLaw", "e", "(II)I"⟩ : MethodName)) hown (mvT hZ (hw _ (List.mem_of_getElem? (i := 1) rfl))) (mvT hZ (hw _ (List.mem_of_getElem? (i := 2) rfl))) (mvT hZ (hw _ (List.mem_of_getElem? (i := 3) rfl))) (mvT hZ (hw _ (List.mem_of_getElem? (i := 4) rfl))) (by decide) (backOf (W := 3) (rm1 l Z a0 hw [] p2 (1 : Int32) h162 n0 Z162 ) hZ (hw _ (List.mem_of_getElem? (i := 4) rfl)) (hw _ (List.mem_of_getElem? (i := 3) rfl)) (by decide) (by decide)) (g := (mkF m 237 #[.val (.int p0), .val (.int p1), .val (.int p2), .val (.int p3), .val (.int kk), .val (.int ss), .val (.int cc), .val (.ref b126), .unset, .unset, .unset, .unset] [(.int (1 : Int32)), (.int p2), (.int (7 : Int32)), (.ref b134), (.ref b134)])) rfl (by rw [hml]; rfl) (argsL := [(.int p2), (.int (1 : Int32))]) (rest := [(.int (7 : Int32)), (.ref b134), (.ref b134)]) (lenOf pd_0 rfl) rfl (by show 2 * 0 + _ ≤ _; exact Nat.le_of_eq rfl) (hb hby at_237) (fun _ _ => ⟨rfl, e162, (by decide : 2 + 0 ≤ _), (by decide : 12 + 0 ≤ _)⟩)
        dsimp only [Pt.U, Pt.locs, Pt.cells, Pt.slots] at X165 l165 y165 z165 st165 hQ165
        replace X165 := own_cast X165 l165 y165 z165
        obtain ⟨rfl, N165q, eq165⟩ := hQ165
        have N165 := Fr.app N162 N165q
        refine Goes.via (S' := (T165.setTop (mkF m 240 #[.val (.int p0), .val (.int p1), .val (.int p2), .val (.int p3), .val (.int kk), .val (.int ss), .val (.int cc), .val (.ref b126), .unset, .unset, .unset, .unset] [(.int (own_e p2 (1 : Int32))), (.int (7 : Int32)), (.ref b134), (.ref b134)]))) (fun t k => st165 _ k) ?_
        obtain ⟨cl166, Ar166, q166, S166, M166, Hs166, G166⟩ := id f164
        have hin166 : ¬ ((7 : Int32) < 0 ∨ cl166.slots.size ≤ ((7 : Int32)).toNatClampNeg) := inb_of S166 ⟨by decide, by decide⟩
        obtain ⟨T166, h166, X166, e166, W166, st166⟩ := stI X165 hx hZ eq165 Ar166 (j := (7 : Int32)) hin166 (g := (mkF m 240 #[.val (.int p0), .val (.int p1), .val (.int p2), .val (.int p3), .val (.int kk), .val (.int ss), .val (.int cc), .val (.ref b126), .unset, .unset, .unset, .unset] [(.int (own_e p2 (1 : Int32))), (.int (7 : Int32)), (.ref b134), (.ref b134)])) rfl rfl (hb hby at_240)
        have f167 : Arv Z h166 b126 k126 .int (3 : Int32) [(.int (0 : Int32)), (.int (10 : Int32)), (.int (20 : Int32))] (.int (0 : Int32)) := f163.other W166 ne_b126_b134
        have f168 : Arv Z h166 b134 k134 .int (9 : Int32) [(.int (own_e p0 (0 : Int32))), (.int (own_e p0 (1 : Int32))), (.int (own_e p0 (2 : Int32))), (.int (own_e p1 (0 : Int32))), (.int (own_e p1 (1 : Int32))), (.int (own_e p1 (2 : Int32))), (.int (own_e p2 (0 : Int32))), (.int (own_e p2 (1 : Int32))), (.int (0 : Int32))] (.int (0 : Int32)) := Arv.set Ar166 q166 S166 M166 Hs166 G166 rfl W166 7 rfl (Nat.le_of_ble_eq_true rfl)
        have K166 : Keep h0 h166 [] := Keep.wr K162 W166 (Or.inr sz_b134)
        have Z166 : n0 ≤ h166.size := Nat.le_trans Z0 K166.1
        have N166 := Fr.snoc X166 N165 g_b134
        refine Goes.via (S' := (T166.setTop (mkF m 241 #[.val (.int p0), .val (.int p1), .val (.int p2), .val (.int p3), .val (.int kk), .val (.int ss), .val (.int cc), .val (.ref b126), .unset, .unset, .unset, .unset] [(.ref b134)]))) (fun t k => st166 _ k) ?_
        refine Goes.via (S' := (T166.setTop (mkF m 242 #[.val (.int p0), .val (.int p1), .val (.int p2), .val (.int p3), .val (.int kk), .val (.int ss), .val (.int cc), .val (.ref b126), .unset, .unset, .unset, .unset] [(.ref b134), (.ref b134)]))) (fun t k => XS.dup X166.here hx rfl (hb hby at_241) rfl rfl k) ?_
        refine Goes.via (S' := (T166.setTop (mkF m 244 #[.val (.int p0), .val (.int p1), .val (.int p2), .val (.int p3), .val (.int kk), .val (.int ss), .val (.int cc), .val (.ref b126), .unset, .unset, .unset, .unset] [(.int (8 : Int32)), (.ref b134), (.ref b134)]))) (fun t k => XS.bipush X166.here hx rfl (hb hby at_242) k) ?_
        refine Goes.via (S' := (T166.setTop (mkF m 245 #[.val (.int p0), .val (.int p1), .val (.int p2), .val (.int p3), .val (.int kk), .val (.int ss), .val (.int cc), .val (.ref b126), .unset, .unset, .unset, .unset] [(.int p2), (.int (8 : Int32)), (.ref b134), (.ref b134)]))) (fun t k => XS.iloadN X166.here hx rfl (hb hby at_244) rfl k) ?_
        refine Goes.via (S' := (T166.setTop (mkF m 246 #[.val (.int p0), .val (.int p1), .val (.int p2), .val (.int p3), .val (.int kk), .val (.int ss), .val (.int cc), .val (.ref b126), .unset, .unset, .unset, .unset] [(.int (2 : Int32)), (.int p2), (.int (8 : Int32)), (.ref b134), (.ref b134)]))) (fun t k => XS.iconst X166.here hx rfl (hb hby at_245) k) ?_
        obtain ⟨_, _, ⟨T169, L169, k169, n169⟩, -, X169, ⟨Lc169, hQ169, l169, y169, z169⟩, st169⟩ := Jvm.LawKit.callS X166 hx (y := (⟨"com/example/parsewright/parsewright/generator/ScannerAutomatonNextPinLaw", "e", "(II)I"⟩ : MethodName)) hown (mvT hZ (hw _ (List.mem_of_getElem? (i := 1) rfl))) (mvT hZ (hw _ (List.mem_of_getElem? (i := 2) rfl))) (mvT hZ (hw _ (List.mem_of_getElem? (i := 3) rfl))) (mvT hZ (hw _ (List.mem_of_getElem? (i := 4) rfl))) (by decide) (backOf (W := 3) (rm1 l Z a0 hw [] p2 (2 : Int32) h166 n0 Z166 ) hZ (hw _ (List.mem_of_getElem? (i := 4) rfl)) (hw _ (List.mem_of_getElem? (i := 3) rfl)) (by decide) (by decide)) (g := (mkF m 246 #[.val (.int p0), .val (.int p1), .val (.int p2), .val (.int p3), .val (.int kk), .val (.int ss), .val (.int cc), .val (.ref b126), .unset, .unset, .unset, .unset] [(.int (2 : Int32)), (.int p2), (.int (8 : Int32)), (.ref b134), (.ref b134)])) rfl (by rw [hml]; rfl) (argsL := [(.int p2), (.int (2 : Int32))]) (rest := [(.int (8 : Int32)), (.ref b134), (.ref b134)]) (lenOf pd_0 rfl) rfl (by show 2 * 0 + _ ≤ _; exact Nat.le_of_eq rfl) (hb hby at_246) (fun _ _ => ⟨rfl, e166, (by decide : 2 + 0 ≤ _), (by decide : 12 + 0 ≤ _)⟩)
        dsimp only [Pt.U, Pt.locs, Pt.cells, Pt.slots] at X169 l169 y169 z169 st169 hQ169
        replace X169 := own_cast X169 l169 y169 z169
        obtain ⟨rfl, N169q, eq169⟩ := hQ169
        have N169 := Fr.app N166 N169q
        refine Goes.via (S' := (T169.setTop (mkF m 249 #[.val (.int p0), .val (.int p1), .val (.int p2), .val (.int p3), .val (.int kk), .val (.int ss), .val (.int cc), .val (.ref b126), .unset, .unset, .unset, .unset] [(.int (own_e p2 (2 : Int32))), (.int (8 : Int32)), (.ref b134), (.ref b134)]))) (fun t k => st169 _ k) ?_
        obtain ⟨cl170, Ar170, q170, S170, M170, Hs170, G170⟩ := id f168
        have hin170 : ¬ ((8 : Int32) < 0 ∨ cl170.slots.size ≤ ((8 : Int32)).toNatClampNeg) := inb_of S170 ⟨by decide, by decide⟩
        obtain ⟨T170, h170, X170, e170, W170, st170⟩ := stI X169 hx hZ eq169 Ar170 (j := (8 : Int32)) hin170 (g := (mkF m 249 #[.val (.int p0), .val (.int p1), .val (.int p2), .val (.int p3), .val (.int kk), .val (.int ss), .val (.int cc), .val (.ref b126), .unset, .unset, .unset, .unset] [(.int (own_e p2 (2 : Int32))), (.int (8 : Int32)), (.ref b134), (.ref b134)])) rfl rfl (hb hby at_249)
        have f171 : Arv Z h170 b126 k126 .int (3 : Int32) [(.int (0 : Int32)), (.int (10 : Int32)), (.int (20 : Int32))] (.int (0 : Int32)) := f167.other W170 ne_b126_b134
        have f172 : Arv Z h170 b134 k134 .int (9 : Int32) [(.int (own_e p0 (0 : Int32))), (.int (own_e p0 (1 : Int32))), (.int (own_e p0 (2 : Int32))), (.int (own_e p1 (0 : Int32))), (.int (own_e p1 (1 : Int32))), (.int (own_e p1 (2 : Int32))), (.int (own_e p2 (0 : Int32))), (.int (own_e p2 (1 : Int32))), (.int (own_e p2 (2 : Int32)))] (.int (0 : Int32)) := Arv.set Ar170 q170 S170 M170 Hs170 G170 rfl W170 8 rfl (Nat.le_of_ble_eq_true rfl)
        have K170 : Keep h0 h170 [] := Keep.wr K166 W170 (Or.inr sz_b134)
        have Z170 : n0 ≤ h170.size := Nat.le_trans Z0 K170.1
        have N170 := Fr.snoc X170 N169 g_b134
        refine Goes.via (S' := (T170.setTop (mkF m 250 #[.val (.int p0), .val (.int p1), .val (.int p2), .val (.int p3), .val (.int kk), .val (.int ss), .val (.int cc), .val (.ref b126), .unset, .unset, .unset, .unset] [(.ref b134)]))) (fun t k => st170 _ k) ?_
        refine Goes.via (S' := (T170.setTop (mkF m 252 #[.val (.int p0), .val (.int p1), .val (.int p2), .val (.int p3), .val (.int kk), .val (.int ss), .val (.int cc), .val (.ref b126), .val (.ref b134), .unset, .unset, .unset] []))) (fun t k => XS.astore X170.here hx rfl (hb hby at_250) rfl rfl (l' := #[.val (.int p0), .val (.int p1), .val (.int p2), .val (.int p3), .val (.int kk), .val (.int ss), .val (.int cc), .val (.ref b126), .val (.ref b134), .unset, .unset, .unset]) rfl k) ?_
        refine Goes.via (S' := (T170.setTop (mkF m 387 #[.val (.int p0), .val (.int p1), .val (.int p2), .val (.int p3), .val (.int kk), .val (.int ss), .val (.int cc), .val (.ref b126), .val (.ref b134), .unset, .unset, .unset] []))) (fun t k => XS.goto X170.here hx rfl (pc0 := 252) (pc' := 387) rfl (hb hby at_252) (by decide) (by decide) k) ?_
        refine Goes.via (S' := (T170.setTop (mkF m 388 #[.val (.int p0), .val (.int p1), .val (.int p2), .val (.int p3), .val (.int kk), .val (.int ss), .val (.int cc), .val (.ref b126), .val (.ref b134), .unset, .unset, .unset] [(.int (3 : Int32))]))) (fun t k => XS.iconst X170.here hx rfl (hb hby at_387) k) ?_
        obtain ⟨T173, h173, k173, X173, e173, E173, A173, st173⟩ := newP X170 hx hZ (hw _ (List.mem_of_getElem? (i := 0) rfl)) e170 (g := (mkF m 388 #[.val (.int p0), .val (.int p1), .val (.int p2), .val (.int p3), .val (.int kk), .val (.int ss), .val (.int cc), .val (.ref b126), .val (.ref b134), .unset, .unset, .unset] [(.int (3 : Int32))])) rfl (hb hby at_388) rfl (by decide) (cap := 3) (by decide) (by decide) (by decide) (by decide)
        obtain ⟨b173, g173⟩ : ∃ z, z = h170.size := ⟨_, rfl⟩
        rw [← g173] at A173 st173
        have f174 : Arv Z h173 b126 k126 .int (3 : Int32) [(.int (0 : Int32)), (.int (10 : Int32)), (.int (20 : Int32))] (.int (0 : Int32)) := f171.ext E173
        have f175 : Arv Z h173 b134 k134 .int (9 : Int32) [(.int (own_e p0 (0 : Int32))), (.int (own_e p0 (1 : Int32))), (.int (own_e p0 (2 : Int32))), (.int (own_e p1 (0 : Int32))), (.int (own_e p1 (1 : Int32))), (.int (own_e p1 (2 : Int32))), (.int (own_e p2 (0 : Int32))), (.int (own_e p2 (1 : Int32))), (.int (own_e p2 (2 : Int32)))] (.int (0 : Int32)) := f172.ext E173
        have K173 : Keep h0 h173 [] := Keep.ext K170 E173
        have Z173 : n0 ≤ h173.size := Nat.le_trans Z0 K173.1
        have g_b173 : n0 ≤ b173 := Nat.le_trans Z170 (Nat.le_of_eq g173.symm)
        have sz_b173 : h0.size ≤ b173 := Nat.le_trans (K170).1 (Nat.le_of_eq g173.symm)
        have ne_b126_b173 : b126 ≠ b173 := Nat.ne_of_lt (Nat.lt_of_lt_of_le f171.lt (Nat.le_of_eq g173.symm))
        have ne_b134_b173 : b134 ≠ b173 := Nat.ne_of_lt (Nat.lt_of_lt_of_le f172.lt (Nat.le_of_eq g173.symm))
        have f176 : Arv Z h173 b173 k173 .int (3 : Int32) [(.int (0 : Int32)), (.int (0 : Int32)), (.int (0 : Int32))] (.int (0 : Int32)) := (Arv.new A173 (by decide)).pad (pad_rep [] (.int (0 : Int32)) 3)
        refine Goes.via (S' := (T173.setTop (mkF m 390 #[.val (.int p0), .val (.int p1), .val (.int p2), .val (.int p3), .val (.int kk), .val (.int ss), .val (.int cc), .val (.ref b126), .val (.ref b134), .unset, .unset, .unset] [(.ref b173)]))) (fun t k => st173 _ k) ?_
        refine Goes.via (S' := (T173.setTop (mkF m 391 #[.val (.int p0), .val (.int p1), .val (.int p2), .val (.int p3), .val (.int kk), .val (.int ss), .val (.int cc), .val (.ref b126), .val (.ref b134), .unset, .unset, .unset] [(.ref b173), (.ref b173)]))) (fun t k => XS.dup X173.here hx rfl (hb hby at_390) rfl rfl k) ?_
        refine Goes.via (S' := (T173.setTop (mkF m 392 #[.val (.int p0), .val (.int p1), .val (.int p2), .val (.int p3), .val (.int kk), .val (.int ss), .val (.int cc), .val (.ref b126), .val (.ref b134), .unset, .unset, .unset] [(.int (0 : Int32)), (.ref b173), (.ref b173)]))) (fun t k => XS.iconst X173.here hx rfl (hb hby at_391) k) ?_
        refine Goes.via (S' := (T173.setTop (mkF m 393 #[.val (.int p0), .val (.int p1), .val (.int p2), .val (.int p3), .val (.int kk), .val (.int ss), .val (.int cc), .val (.ref b126), .val (.ref b134), .unset, .unset, .unset] [(.int (-1 : Int32)), (.int (0 : Int32)), (.ref b173), (.ref b173)]))) (fun t k => XS.iconst X173.here hx rfl (hb hby at_392) k) ?_
        obtain ⟨cl177, Ar177, q177, S177, M177, Hs177, G177⟩ := id f176
        have hin177 : ¬ ((0 : Int32) < 0 ∨ cl177.slots.size ≤ ((0 : Int32)).toNatClampNeg) := inb_of S177 ⟨by decide, by decide⟩
        obtain ⟨T177, h177, X177, e177, W177, st177⟩ := stI X173 hx hZ e173 Ar177 (j := (0 : Int32)) hin177 (g := (mkF m 393 #[.val (.int p0), .val (.int p1), .val (.int p2), .val (.int p3), .val (.int kk), .val (.int ss), .val (.int cc), .val (.ref b126), .val (.ref b134), .unset, .unset, .unset] [(.int (-1 : Int32)), (.int (0 : Int32)), (.ref b173), (.ref b173)])) rfl rfl (hb hby at_393)
        have f178 : Arv Z h177 b126 k126 .int (3 : Int32) [(.int (0 : Int32)), (.int (10 : Int32)), (.int (20 : Int32))] (.int (0 : Int32)) := f174.other W177 ne_b126_b173
        have f179 : Arv Z h177 b134 k134 .int (9 : Int32) [(.int (own_e p0 (0 : Int32))), (.int (own_e p0 (1 : Int32))), (.int (own_e p0 (2 : Int32))), (.int (own_e p1 (0 : Int32))), (.int (own_e p1 (1 : Int32))), (.int (own_e p1 (2 : Int32))), (.int (own_e p2 (0 : Int32))), (.int (own_e p2 (1 : Int32))), (.int (own_e p2 (2 : Int32)))] (.int (0 : Int32)) := f175.other W177 ne_b134_b173
        have f180 : Arv Z h177 b173 k173 .int (3 : Int32) [(.int (-1 : Int32)), (.int (0 : Int32)), (.int (0 : Int32))] (.int (0 : Int32)) := Arv.set Ar177 q177 S177 M177 Hs177 G177 rfl W177 0 rfl (Nat.le_of_ble_eq_true rfl)
        have K177 : Keep h0 h177 [] := Keep.wr K173 W177 (Or.inr sz_b173)
        have Z177 : n0 ≤ h177.size := Nat.le_trans Z0 K177.1
        have N177 := Fr.snoc X177 N170 g_b173
        refine Goes.via (S' := (T177.setTop (mkF m 394 #[.val (.int p0), .val (.int p1), .val (.int p2), .val (.int p3), .val (.int kk), .val (.int ss), .val (.int cc), .val (.ref b126), .val (.ref b134), .unset, .unset, .unset] [(.ref b173)]))) (fun t k => st177 _ k) ?_
        refine Goes.via (S' := (T177.setTop (mkF m 395 #[.val (.int p0), .val (.int p1), .val (.int p2), .val (.int p3), .val (.int kk), .val (.int ss), .val (.int cc), .val (.ref b126), .val (.ref b134), .unset, .unset, .unset] [(.ref b173), (.ref b173)]))) (fun t k => XS.dup X177.here hx rfl (hb hby at_394) rfl rfl k) ?_
        refine Goes.via (S' := (T177.setTop (mkF m 396 #[.val (.int p0), .val (.int p1), .val (.int p2), .val (.int p3), .val (.int kk), .val (.int ss), .val (.int cc), .val (.ref b126), .val (.ref b134), .unset, .unset, .unset] [(.int (1 : Int32)), (.ref b173), (.ref b173)]))) (fun t k => XS.iconst X177.here hx rfl (hb hby at_395) k) ?_
        refine Goes.via (S' := (T177.setTop (mkF m 397 #[.val (.int p0), .val (.int p1), .val (.int p2), .val (.int p3), .val (.int kk), .val (.int ss), .val (.int cc), .val (.ref b126), .val (.ref b134), .unset, .unset, .unset] [(.int (0 : Int32)), (.int (1 : Int32)), (.ref b173), (.ref b173)]))) (fun t k => XS.iconst X177.here hx rfl (hb hby at_396) k) ?_
        obtain ⟨cl181, Ar181, q181, S181, M181, Hs181, G181⟩ := id f180
        have hin181 : ¬ ((1 : Int32) < 0 ∨ cl181.slots.size ≤ ((1 : Int32)).toNatClampNeg) := inb_of S181 ⟨by decide, by decide⟩
        obtain ⟨T181, h181, X181, e181, W181, st181⟩ := stI X177 hx hZ e177 Ar181 (j := (1 : Int32)) hin181 (g := (mkF m 397 #[.val (.int p0), .val (.int p1), .val (.int p2), .val (.int p3), .val (.int kk), .val (.int ss), .val (.int cc), .val (.ref b126), .val (.ref b134), .unset, .unset, .unset] [(.int (0 : Int32)), (.int (1 : Int32)), (.ref b173), (.ref b173)])) rfl rfl (hb hby at_397)
        have f182 : Arv Z h181 b126 k126 .int (3 : Int32) [(.int (0 : Int32)), (.int (10 : Int32)), (.int (20 : Int32))] (.int (0 : Int32)) := f178.other W181 ne_b126_b173
        have f183 : Arv Z h181 b134 k134 .int (9 : Int32) [(.int (own_e p0 (0 : Int32))), (.int (own_e p0 (1 : Int32))), (.int (own_e p0 (2 : Int32))), (.int (own_e p1 (0 : Int32))), (.int (own_e p1 (1 : Int32))), (.int (own_e p1 (2 : Int32))), (.int (own_e p2 (0 : Int32))), (.int (own_e p2 (1 : Int32))), (.int (own_e p2 (2 : Int32)))] (.int (0 : Int32)) := f179.other W181 ne_b134_b173
        have f184 : Arv Z h181 b173 k173 .int (3 : Int32) [(.int (-1 : Int32)), (.int (0 : Int32)), (.int (0 : Int32))] (.int (0 : Int32)) := Arv.set Ar181 q181 S181 M181 Hs181 G181 rfl W181 1 rfl (Nat.le_of_ble_eq_true rfl)
        have K181 : Keep h0 h181 [] := Keep.wr K177 W181 (Or.inr sz_b173)
        have Z181 : n0 ≤ h181.size := Nat.le_trans Z0 K181.1
        have N181 := Fr.snoc X181 N177 g_b173
        refine Goes.via (S' := (T181.setTop (mkF m 398 #[.val (.int p0), .val (.int p1), .val (.int p2), .val (.int p3), .val (.int kk), .val (.int ss), .val (.int cc), .val (.ref b126), .val (.ref b134), .unset, .unset, .unset] [(.ref b173)]))) (fun t k => st181 _ k) ?_
        refine Goes.via (S' := (T181.setTop (mkF m 399 #[.val (.int p0), .val (.int p1), .val (.int p2), .val (.int p3), .val (.int kk), .val (.int ss), .val (.int cc), .val (.ref b126), .val (.ref b134), .unset, .unset, .unset] [(.ref b173), (.ref b173)]))) (fun t k => XS.dup X181.here hx rfl (hb hby at_398) rfl rfl k) ?_
        refine Goes.via (S' := (T181.setTop (mkF m 400 #[.val (.int p0), .val (.int p1), .val (.int p2), .val (.int p3), .val (.int kk), .val (.int ss), .val (.int cc), .val (.ref b126), .val (.ref b134), .unset, .unset, .unset] [(.int (2 : Int32)), (.ref b173), (.ref b173)]))) (fun t k => XS.iconst X181.here hx rfl (hb hby at_399) k) ?_
        refine Goes.via (S' := (T181.setTop (mkF m 401 #[.val (.int p0), .val (.int p1), .val (.int p2), .val (.int p3), .val (.int kk), .val (.int ss), .val (.int cc), .val (.ref b126), .val (.ref b134), .unset, .unset, .unset] [(.int (1 : Int32)), (.int (2 : Int32)), (.ref b173), (.ref b173)]))) (fun t k => XS.iconst X181.here hx rfl (hb hby at_400) k) ?_
        obtain ⟨cl185, Ar185, q185, S185, M185, Hs185, G185⟩ := id f184
        have hin185 : ¬ ((2 : Int32) < 0 ∨ cl185.slots.size ≤ ((2 : Int32)).toNatClampNeg) := inb_of S185 ⟨by decide, by decide⟩
        obtain ⟨T185, h185, X185, e185, W185, st185⟩ := stI X181 hx hZ e181 Ar185 (j := (2 : Int32)) hin185 (g := (mkF m 401 #[.val (.int p0), .val (.int p1), .val (.int p2), .val (.int p3), .val (.int kk), .val (.int ss), .val (.int cc), .val (.ref b126), .val (.ref b134), .unset, .unset, .unset] [(.int (1 : Int32)), (.int (2 : Int32)), (.ref b173), (.ref b173)])) rfl rfl (hb hby at_401)
        have f186 : Arv Z h185 b126 k126 .int (3 : Int32) [(.int (0 : Int32)), (.int (10 : Int32)), (.int (20 : Int32))] (.int (0 : Int32)) := f182.other W185 ne_b126_b173
        have f187 : Arv Z h185 b134 k134 .int (9 : Int32) [(.int (own_e p0 (0 : Int32))), (.int (own_e p0 (1 : Int32))), (.int (own_e p0 (2 : Int32))), (.int (own_e p1 (0 : Int32))), (.int (own_e p1 (1 : Int32))), (.int (own_e p1 (2 : Int32))), (.int (own_e p2 (0 : Int32))), (.int (own_e p2 (1 : Int32))), (.int (own_e p2 (2 : Int32)))] (.int (0 : Int32)) := f183.other W185 ne_b134_b173
        have f188 : Arv Z h185 b173 k173 .int (3 : Int32) [(.int (-1 : Int32)), (.int (0 : Int32)), (.int (1 : Int32))] (.int (0 : Int32)) := Arv.set Ar185 q185 S185 M185 Hs185 G185 rfl W185 2 rfl (Nat.le_of_ble_eq_true rfl)
        have K185 : Keep h0 h185 [] := Keep.wr K181 W185 (Or.inr sz_b173)
        have Z185 : n0 ≤ h185.size := Nat.le_trans Z0 K185.1
        have N185 := Fr.snoc X185 N181 g_b173
        refine Goes.via (S' := (T185.setTop (mkF m 402 #[.val (.int p0), .val (.int p1), .val (.int p2), .val (.int p3), .val (.int kk), .val (.int ss), .val (.int cc), .val (.ref b126), .val (.ref b134), .unset, .unset, .unset] [(.ref b173)]))) (fun t k => st185 _ k) ?_
        refine Goes.via (S' := (T185.setTop (mkF m 404 #[.val (.int p0), .val (.int p1), .val (.int p2), .val (.int p3), .val (.int kk), .val (.int ss), .val (.int cc), .val (.ref b126), .val (.ref b134), .val (.ref b173), .unset, .unset] []))) (fun t k => XS.astore X185.here hx rfl (hb hby at_402) rfl rfl (l' := #[.val (.int p0), .val (.int p1), .val (.int p2), .val (.int p3), .val (.int kk), .val (.int ss), .val (.int cc), .val (.ref b126), .val (.ref b134), .val (.ref b173), .unset, .unset]) rfl k) ?_
        obtain ⟨T189, h189, X189, e189, E189, A189, D189, -, st189⟩ := newO X185 hx hZ hown (hw _ (List.mem_of_getElem? (i := 5) rfl)) (hw _ (List.mem_of_getElem? (i := 6) rfl)) (hw _ (List.mem_of_getElem? (i := 7) rfl)) e185 (g := (mkF m 404 #[.val (.int p0), .val (.int p1), .val (.int p2), .val (.int p3), .val (.int kk), .val (.int ss), .val (.int cc), .val (.ref b126), .val (.ref b134), .val (.ref b173), .unset, .unset] [])) rfl (hb hby at_404) (by decide) (by decide)
        obtain ⟨b189, g189⟩ : ∃ z, z = h185.size := ⟨_, rfl⟩
        rw [← g189] at A189 D189 st189
        have f190 : Arv Z h189 b126 k126 .int (3 : Int32) [(.int (0 : Int32)), (.int (10 : Int32)), (.int (20 : Int32))] (.int (0 : Int32)) := f186.ext E189
        have f191 : Arv Z h189 b134 k134 .int (9 : Int32) [(.int (own_e p0 (0 : Int32))), (.int (own_e p0 (1 : Int32))), (.int (own_e p0 (2 : Int32))), (.int (own_e p1 (0 : Int32))), (.int (own_e p1 (1 : Int32))), (.int (own_e p1 (2 : Int32))), (.int (own_e p2 (0 : Int32))), (.int (own_e p2 (1 : Int32))), (.int (own_e p2 (2 : Int32)))] (.int (0 : Int32)) := f187.ext E189
        have f192 : Arv Z h189 b173 k173 .int (3 : Int32) [(.int (-1 : Int32)), (.int (0 : Int32)), (.int (1 : Int32))] (.int (0 : Int32)) := f188.ext E189
        have K189 : Keep h0 h189 [] := Keep.ext K185 E189
        have Z189 : n0 ≤ h189.size := Nat.le_trans Z0 K189.1
        have g_b189 : n0 ≤ b189 := Nat.le_trans Z185 (Nat.le_of_eq g189.symm)
        have sz_b189 : h0.size ≤ b189 := Nat.le_trans (K185).1 (Nat.le_of_eq g189.symm)
        have ne_b126_b189 : b126 ≠ b189 := Nat.ne_of_lt (Nat.lt_of_lt_of_le f186.lt (Nat.le_of_eq g189.symm))
        have ne_b134_b189 : b134 ≠ b189 := Nat.ne_of_lt (Nat.lt_of_lt_of_le f187.lt (Nat.le_of_eq g189.symm))
        have ne_b173_b189 : b173 ≠ b189 := Nat.ne_of_lt (Nat.lt_of_lt_of_le f188.lt (Nat.le_of_eq g189.symm))
        have f193 : Exa Z h189 b189 "com/example/parsewright/parsewright/generator/ScannerAutomaton" := A189
        have f194 : Fld Z h189 b189 "com/example/parsewright/parsewright/generator/ScannerAutomaton" "classStarts" "[I" .null := D189 (Or.inr (hw _ (List.mem_of_getElem? (i := 15) rfl))) (ty := (.array .int)) (by decide)
        have f195 : Fld Z h189 b189 "com/example/parsewright/parsewright/generator/ScannerAutomaton" "transitions" "[I" .null := D189 (Or.inr (hw _ (List.mem_of_getElem? (i := 17) rfl))) (ty := (.array .int)) (by decide)
        have f196 : Fld Z h189 b189 "com/example/parsewright/parsewright/generator/ScannerAutomaton" "accepts" "[I" .null := D189 (Or.inr (hw _ (List.mem_of_getElem? (i := 19) rfl))) (ty := (.array .int)) (by decide)
        refine Goes.via (S' := (T189.setTop (mkF m 407 #[.val (.int p0), .val (.int p1), .val (.int p2), .val (.int p3), .val (.int kk), .val (.int ss), .val (.int cc), .val (.ref b126), .val (.ref b134), .val (.ref b173), .unset, .unset] [(.ref b189)]))) (fun t k => st189 _ k) ?_
        refine Goes.via (S' := (T189.setTop (mkF m 408 #[.val (.int p0), .val (.int p1), .val (.int p2), .val (.int p3), .val (.int kk), .val (.int ss), .val (.int cc), .val (.ref b126), .val (.ref b134), .val (.ref b173), .unset, .unset] [(.ref b189), (.ref b189)]))) (fun t k => XS.dup X189.here hx rfl (hb hby at_407) rfl rfl k) ?_
        refine Goes.via (S' := (T189.setTop (mkF m 410 #[.val (.int p0), .val (.int p1), .val (.int p2), .val (.int p3), .val (.int kk), .val (.int ss), .val (.int cc), .val (.ref b126), .val (.ref b134), .val (.ref b173), .unset, .unset] [(.ref b126), (.ref b189), (.ref b189)]))) (fun t k => XS.aload X189.here hx rfl (hb hby at_408) rfl rfl k) ?_
        refine Goes.via (S' := (T189.setTop (mkF m 412 #[.val (.int p0), .val (.int p1), .val (.int p2), .val (.int p3), .val (.int kk), .val (.int ss), .val (.int cc), .val (.ref b126), .val (.ref b134), .val (.ref b173), .unset, .unset] [(.ref b134), (.ref b126), (.ref b189), (.ref b189)]))) (fun t k => XS.aload X189.here hx rfl (hb hby at_410) rfl rfl k) ?_
        refine Goes.via (S' := (T189.setTop (mkF m 414 #[.val (.int p0), .val (.int p1), .val (.int p2), .val (.int p3), .val (.int kk), .val (.int ss), .val (.int cc), .val (.ref b126), .val (.ref b134), .val (.ref b173), .unset, .unset] [(.ref b173), (.ref b134), (.ref b126), (.ref b189), (.ref b189)]))) (fun t k => XS.aload X189.here hx rfl (hb hby at_412) rfl rfl k) ?_
        obtain ⟨_, _, ⟨T197, L197, k197, n197⟩, -, X197, ⟨Lc197, hQ197, l197, y197, z197⟩, st197⟩ := X189.specialBack hx (y := (⟨"com/example/parsewright/parsewright/generator/ScannerAutomaton", "<init>", "([I[I[I)V"⟩ : MethodName)) rfl hown (mvT hZ (hw _ (List.mem_of_getElem? (i := 8) rfl))) (mvT hZ (hw _ (List.mem_of_getElem? (i := 9) rfl))) (mvT hZ (hw _ (List.mem_of_getElem? (i := 10) rfl))) (by decide) (backOf (W := 1) (rm2 l Z a0 hw [] b189 b126 b134 b173 .null .null .null h189 n0 Z189 f193 f194 f195 f196 g_b189) hZ (hw _ (List.mem_of_getElem? (i := 10) rfl)) (hw _ (List.mem_of_getElem? (i := 7) rfl)) (by decide) (by decide)) (g := (mkF m 414 #[.val (.int p0), .val (.int p1), .val (.int p2), .val (.int p3), .val (.int kk), .val (.int ss), .val (.int cc), .val (.ref b126), .val (.ref b134), .val (.ref b173), .unset, .unset] [(.ref b173), (.ref b134), (.ref b126), (.ref b189), (.ref b189)])) rfl (by rw [hml]; rfl) (Steps.refl _) (a := b189) (argsL := [(.ref b126), (.ref b134), (.ref b173)]) (rest := [(.ref b189)]) (lenOf pd_1 rfl) rfl (by show 2 * 0 + _ ≤ _; exact Nat.le_of_eq rfl) (hb hby at_414) (fun _ _ => ⟨rfl, e189, (by decide : 4 + 0 ≤ _), (by decide : 18 + 0 ≤ _)⟩)
        dsimp only [Pt.U, Pt.locs, Pt.cells, Pt.slots] at X197 l197 y197 z197 st197 hQ197
        replace X197 := own_cast X197 l197 y197 z197
        obtain ⟨rfl, N197q, K197q, po197_0, po197_1, po197_2, po197_3⟩ := hQ197
        have N197 := Fr.app N185 N197q
        have f198 : Arv Z T197.heap b126 k126 .int (3 : Int32) [(.int (0 : Int32)), (.int (10 : Int32)), (.int (20 : Int32))] (.int (0 : Int32)) := f190.keep K197q (ninS ne_b126_b189 nin0)
        have f199 : Arv Z T197.heap b134 k134 .int (9 : Int32) [(.int (own_e p0 (0 : Int32))), (.int (own_e p0 (1 : Int32))), (.int (own_e p0 (2 : Int32))), (.int (own_e p1 (0 : Int32))), (.int (own_e p1 (1 : Int32))), (.int (own_e p1 (2 : Int32))), (.int (own_e p2 (0 : Int32))), (.int (own_e p2 (1 : Int32))), (.int (own_e p2 (2 : Int32)))] (.int (0 : Int32)) := f191.keep K197q (ninS ne_b134_b189 nin0)
        have f200 : Arv Z T197.heap b173 k173 .int (3 : Int32) [(.int (-1 : Int32)), (.int (0 : Int32)), (.int (1 : Int32))] (.int (0 : Int32)) := f192.keep K197q (ninS ne_b173_b189 nin0)
        have f201 : Exa Z T197.heap b189 "com/example/parsewright/parsewright/generator/ScannerAutomaton" := f193.keep K197q
        have K197 : Keep h0 T197.heap [] := Keep.trans K189 K197q (allS (Or.inr sz_b189) all0)
        have Z197 : n0 ≤ T197.heap.size := Nat.le_trans Z0 K197.1
        refine Goes.via (S' := (T197.setTop (mkF m 417 #[.val (.int p0), .val (.int p1), .val (.int p2), .val (.int p3), .val (.int kk), .val (.int ss), .val (.int cc), .val (.ref b126), .val (.ref b134), .val (.ref b173), .unset, .unset] [(.ref b189)]))) (fun t k => st197.trans k) ?_
        refine Goes.via (S' := (T197.setTop (mkF m 419 #[.val (.int p0), .val (.int p1), .val (.int p2), .val (.int p3), .val (.int kk), .val (.int ss), .val (.int cc), .val (.ref b126), .val (.ref b134), .val (.ref b173), .val (.ref b189), .unset] []))) (fun t k => XS.astore X197.here hx rfl (hb hby at_417) rfl rfl (l' := #[.val (.int p0), .val (.int p1), .val (.int p2), .val (.int p3), .val (.int kk), .val (.int ss), .val (.int cc), .val (.ref b126), .val (.ref b134), .val (.ref b173), .val (.ref b189), .unset]) rfl k) ?_
        refine Goes.via (S' := (T197.setTop (mkF m 421 #[.val (.int p0), .val (.int p1), .val (.int p2), .val (.int p3), .val (.int kk), .val (.int ss), .val (.int cc), .val (.ref b126), .val (.ref b134), .val (.ref b173), .val (.ref b189), .unset] [(.int ss)]))) (fun t k => XS.iload X197.here hx rfl (hb hby at_419) rfl k) ?_
        obtain ⟨v204, hv204⟩ : ∃ z : Int32, z = ((if (ss = (0 : Int32)) then p0 else (if (ss = (1 : Int32)) then p1 else p2))) := ⟨_, rfl⟩
        refine Goes.via (S' := (T197.setTop (mkF m 439 #[.val (.int p0), .val (.int p1), .val (.int p2), .val (.int p3), .val (.int kk), .val (.int ss), .val (.int cc), .val (.ref b126), .val (.ref b134), .val (.ref b173), .val (.ref b189), .unset] [(.int v204)]))) (fun t k => ?_) ?_
        · by_cases hc202 : (ss = (0 : Int32))
          · refine XS.ifNo X197.here hx rfl (hb hby at_421) rfl ((if0 _ _).trans (teq hc202).2) ?_
            show Steps p.tables e below (T197.setTop (mkF m 424 #[.val (.int p0), .val (.int p1), .val (.int p2), .val (.int p3), .val (.int kk), .val (.int ss), .val (.int cc), .val (.ref b126), .val (.ref b134), .val (.ref b173), .val (.ref b189), .unset] [])) _
            refine XS.iloadN X197.here hx rfl (hb hby at_424) rfl ?_
            show Steps p.tables e below (T197.setTop (mkF m 425 #[.val (.int p0), .val (.int p1), .val (.int p2), .val (.int p3), .val (.int kk), .val (.int ss), .val (.int cc), .val (.ref b126), .val (.ref b134), .val (.ref b173), .val (.ref b189), .unset] [(.int p0)])) _
            refine XS.goto X197.here hx rfl (pc0 := 425) (pc' := 439) rfl (hb hby at_425) (by decide) (by decide) ?_
            show Steps p.tables e below (T197.setTop (mkF m 439 #[.val (.int p0), .val (.int p1), .val (.int p2), .val (.int p3), .val (.int kk), .val (.int ss), .val (.int cc), .val (.ref b126), .val (.ref b134), .val (.ref b173), .val (.ref b189), .unset] [(.int p0)])) _
            have q_v204 : v204 = p0 := by rw [hv204, if_pos hc202]
            rw [q_v204] at k
            exact k
          · refine XS.ifYes X197.here hx rfl (pc0 := 421) (pc' := 428) rfl (hb hby at_421) rfl ((if0 _ _).trans (feq hc202).2) (by decide) (by decide) ?_
            show Steps p.tables e below (T197.setTop (mkF m 428 #[.val (.int p0), .val (.int p1), .val (.int p2), .val (.int p3), .val (.int kk), .val (.int ss), .val (.int cc), .val (.ref b126), .val (.ref b134), .val (.ref b173), .val (.ref b189), .unset] [])) _
            refine XS.iload X197.here hx rfl (hb hby at_428) rfl ?_
            show Steps p.tables e below (T197.setTop (mkF m 430 #[.val (.int p0), .val (.int p1), .val (.int p2), .val (.int p3), .val (.int kk), .val (.int ss), .val (.int cc), .val (.ref b126), .val (.ref b134), .val (.ref b173), .val (.ref b189), .unset] [(.int ss)])) _
            refine XS.iconst X197.here hx rfl (hb hby at_430) ?_
            show Steps p.tables e below (T197.setTop (mkF m 431 #[.val (.int p0), .val (.int p1), .val (.int p2), .val (.int p3), .val (.int kk), .val (.int ss), .val (.int cc), .val (.ref b126), .val (.ref b134), .val (.ref b173), .val (.ref b189), .unset] [(.int (1 : Int32)), (.int ss)])) _
            by_cases hc203 : (ss = (1 : Int32))
            · refine XS.icmpNo X197.here hx rfl (hb hby at_431) rfl (teq hc203).2 ?_
              show Steps p.tables e below (T197.setTop (mkF m 434 #[.val (.int p0), .val (.int p1), .val (.int p2), .val (.int p3), .val (.int kk), .val (.int ss), .val (.int cc), .val (.ref b126), .val (.ref b134), .val (.ref b173), .val (.ref b189), .unset] [])) _
              refine XS.iloadN X197.here hx rfl (hb hby at_434) rfl ?_
              show Steps p.tables e below (T197.setTop (mkF m 435 #[.val (.int p0), .val (.int p1), .val (.int p2), .val (.int p3), .val (.int kk), .val (.int ss), .val (.int cc), .val (.ref b126), .val (.ref b134), .val (.ref b173), .val (.ref b189), .unset] [(.int p1)])) _
              refine XS.goto X197.here hx rfl (pc0 := 435) (pc' := 439) rfl (hb hby at_435) (by decide) (by decide) ?_
              show Steps p.tables e below (T197.setTop (mkF m 439 #[.val (.int p0), .val (.int p1), .val (.int p2), .val (.int p3), .val (.int kk), .val (.int ss), .val (.int cc), .val (.ref b126), .val (.ref b134), .val (.ref b173), .val (.ref b189), .unset] [(.int p1)])) _
              have q_v204 : v204 = p1 := by rw [hv204, if_neg hc202, if_pos hc203]
              rw [q_v204] at k
              exact k
            · refine XS.icmpYes X197.here hx rfl (pc0 := 431) (pc' := 438) rfl (hb hby at_431) rfl (feq hc203).2 (by decide) (by decide) ?_
              show Steps p.tables e below (T197.setTop (mkF m 438 #[.val (.int p0), .val (.int p1), .val (.int p2), .val (.int p3), .val (.int kk), .val (.int ss), .val (.int cc), .val (.ref b126), .val (.ref b134), .val (.ref b173), .val (.ref b189), .unset] [])) _
              refine XS.iloadN X197.here hx rfl (hb hby at_438) rfl ?_
              show Steps p.tables e below (T197.setTop (mkF m 439 #[.val (.int p0), .val (.int p1), .val (.int p2), .val (.int p3), .val (.int kk), .val (.int ss), .val (.int cc), .val (.ref b126), .val (.ref b134), .val (.ref b173), .val (.ref b189), .unset] [(.int p2)])) _
              have q_v204 : v204 = p2 := by rw [hv204, if_neg hc202, if_neg hc203]
              rw [q_v204] at k
              exact k
        refine Goes.via (S' := (T197.setTop (mkF m 441 #[.val (.int p0), .val (.int p1), .val (.int p2), .val (.int p3), .val (.int kk), .val (.int ss), .val (.int cc), .val (.ref b126), .val (.ref b134), .val (.ref b173), .val (.ref b189), .val (.int v204)] []))) (fun t k => XS.istore X197.here hx rfl (hb hby at_439) rfl (l' := #[.val (.int p0), .val (.int p1), .val (.int p2), .val (.int p3), .val (.int kk), .val (.int ss), .val (.int cc), .val (.ref b126), .val (.ref b134), .val (.ref b173), .val (.ref b189), .val (.int v204)]) rfl k) ?_
        refine Goes.via (S' := (T197.setTop (mkF m 443 #[.val (.int p0), .val (.int p1), .val (.int p2), .val (.int p3), .val (.int kk), .val (.int ss), .val (.int cc), .val (.ref b126), .val (.ref b134), .val (.ref b173), .val (.ref b189), .val (.int v204)] [(.ref b189)]))) (fun t k => XS.aload X197.here hx rfl (hb hby at_441) rfl rfl k) ?_
        refine Goes.via (S' := (T197.setTop (mkF m 445 #[.val (.int p0), .val (.int p1), .val (.int p2), .val (.int p3), .val (.int kk), .val (.int ss), .val (.int cc), .val (.ref b126), .val (.ref b134), .val (.ref b173), .val (.ref b189), .val (.int v204)] [(.int ss), (.ref b189)]))) (fun t k => XS.iload X197.here hx rfl (hb hby at_443) rfl k) ?_
        refine Goes.via (S' := (T197.setTop (mkF m 447 #[.val (.int p0), .val (.int p1), .val (.int p2), .val (.int p3), .val (.int kk), .val (.int ss), .val (.int cc), .val (.ref b126), .val (.ref b134), .val (.ref b173), .val (.ref b189), .val (.int v204)] [(.int cc), (.int ss), (.ref b189)]))) (fun t k => XS.iload X197.here hx rfl (hb hby at_445) rfl k) ?_
        have hg205 := own_get3 ss cc p0 p1 p2 v204 (own_s h_ss) (own_c3 h_cc hc125) hv204
        obtain ⟨cq206, kq206, q206a, q206b, q206c⟩ := isOf hZ rfl po197_0
        obtain ⟨_, _, ⟨T206, L206, k206, n206⟩, -, X206, ⟨Lc206, hQ206, l206, y206, z206⟩, st206⟩ := X197.virtualBack hx (y := (⟨"com/example/parsewright/parsewright/generator/ScannerAutomaton", "next", "(II)I"⟩ : MethodName)) (z := (⟨"com/example/parsewright/parsewright/generator/ScannerAutomaton", "next", "(II)I"⟩ : MethodName)) hown (mvT hZ (hw _ (List.mem_of_getElem? (i := 20) rfl))) (mvT hZ (hw _ (List.mem_of_getElem? (i := 21) rfl))) (notFace_of_selects (args := #[]) (mvT hZ (hw _ (List.mem_of_getElem? (i := 23) rfl)))) (mvT hZ (hw _ (List.mem_of_getElem? (i := 23) rfl))) (mvT hZ (hw _ (List.mem_of_getElem? (i := 22) rfl))) (by decide) (backOf (W := 0) (rm4 l Z a0 hw [] b189 ss cc b126 b134 k126 k134 (3 : Int32) (9 : Int32) ([(.int (0 : Int32)), (.int (10 : Int32)), (.int (20 : Int32))] : List Value) ([(.int (own_e p0 (0 : Int32))), (.int (own_e p0 (1 : Int32))), (.int (own_e p0 (2 : Int32))), (.int (own_e p1 (0 : Int32))), (.int (own_e p1 (1 : Int32))), (.int (own_e p1 (2 : Int32))), (.int (own_e p2 (0 : Int32))), (.int (own_e p2 (1 : Int32))), (.int (own_e p2 (2 : Int32)))] : List Value) (own_e v204 cc) T197.heap n0 Z197 po197_1 po197_2 f198 f199 (hg205).2 (hg205).1) hZ (hw _ (List.mem_of_getElem? (i := 24) rfl)) (hw _ (List.mem_of_getElem? (i := 7) rfl)) (by decide) (by decide)) q206a q206c (g := (mkF m 447 #[.val (.int p0), .val (.int p1), .val (.int p2), .val (.int p3), .val (.int kk), .val (.int ss), .val (.int cc), .val (.ref b126), .val (.ref b134), .val (.ref b173), .val (.ref b189), .val (.int v204)] [(.int cc), (.int ss), (.ref b189)])) rfl (by rw [hml]; rfl) (Steps.refl _) (argsL := [(.int ss), (.int cc)]) (rest := []) (lenOf pd_0 rfl) rfl (by show 2 * 0 + _ ≤ _; exact Nat.le_of_eq rfl) (hb hby at_447) (fun _ _ => ⟨rfl, rfl, (by decide : 4 + 0 ≤ _), (by decide : 18 + 0 ≤ _)⟩)
        dsimp only [Pt.U, Pt.locs, Pt.cells, Pt.slots] at X206 l206 y206 z206 st206 hQ206
        replace X206 := own_cast X206 l206 y206 z206
        obtain ⟨rfl, N206q, eq206⟩ := hQ206
        have N206 := Fr.app N197 N206q
        refine Goes.via (S' := (T206.setTop (mkF m 450 #[.val (.int p0), .val (.int p1), .val (.int p2), .val (.int p3), .val (.int kk), .val (.int ss), .val (.int cc), .val (.ref b126), .val (.ref b134), .val (.ref b173), .val (.ref b189), .val (.int v204)] [(.int (own_e v204 cc))]))) (fun t k => st206.trans k) ?_
        refine Goes.via (S' := (T206.setTop (mkF m 452 #[.val (.int p0), .val (.int p1), .val (.int p2), .val (.int p3), .val (.int kk), .val (.int ss), .val (.int cc), .val (.ref b126), .val (.ref b134), .val (.ref b173), .val (.ref b189), .val (.int v204)] [(.int v204), (.int (own_e v204 cc))]))) (fun t k => XS.iload X206.here hx rfl (hb hby at_450) rfl k) ?_
        refine Goes.via (S' := (T206.setTop (mkF m 454 #[.val (.int p0), .val (.int p1), .val (.int p2), .val (.int p3), .val (.int kk), .val (.int ss), .val (.int cc), .val (.ref b126), .val (.ref b134), .val (.ref b173), .val (.ref b189), .val (.int v204)] [(.int cc), (.int v204), (.int (own_e v204 cc))]))) (fun t k => XS.iload X206.here hx rfl (hb hby at_452) rfl k) ?_
        obtain ⟨_, _, ⟨T207, L207, k207, n207⟩, -, X207, ⟨Lc207, hQ207, l207, y207, z207⟩, st207⟩ := Jvm.LawKit.callS X206 hx (y := (⟨"com/example/parsewright/parsewright/generator/ScannerAutomatonNextPinLaw", "e", "(II)I"⟩ : MethodName)) hown (mvT hZ (hw _ (List.mem_of_getElem? (i := 1) rfl))) (mvT hZ (hw _ (List.mem_of_getElem? (i := 2) rfl))) (mvT hZ (hw _ (List.mem_of_getElem? (i := 3) rfl))) (mvT hZ (hw _ (List.mem_of_getElem? (i := 4) rfl))) (by decide) (backOf (W := 1) (rm1 l Z a0 hw [] v204 cc T197.heap n0 Z197 ) hZ (hw _ (List.mem_of_getElem? (i := 4) rfl)) (hw _ (List.mem_of_getElem? (i := 3) rfl)) (by decide) (by decide)) (g := (mkF m 454 #[.val (.int p0), .val (.int p1), .val (.int p2), .val (.int p3), .val (.int kk), .val (.int ss), .val (.int cc), .val (.ref b126), .val (.ref b134), .val (.ref b173), .val (.ref b189), .val (.int v204)] [(.int cc), (.int v204), (.int (own_e v204 cc))])) rfl (by rw [hml]; rfl) (argsL := [(.int v204), (.int cc)]) (rest := [(.int (own_e v204 cc))]) (lenOf pd_0 rfl) rfl (by show 2 * 0 + _ ≤ _; exact Nat.le_of_eq rfl) (hb hby at_454) (fun _ _ => ⟨rfl, eq206, (by decide : 4 + 0 ≤ _), (by decide : 18 + 0 ≤ _)⟩)
        dsimp only [Pt.U, Pt.locs, Pt.cells, Pt.slots] at X207 l207 y207 z207 st207 hQ207
        replace X207 := own_cast X207 l207 y207 z207
        obtain ⟨rfl, N207q, eq207⟩ := hQ207
        have N207 := Fr.app N206 N207q
        refine Goes.via (S' := (T207.setTop (mkF m 457 #[.val (.int p0), .val (.int p1), .val (.int p2), .val (.int p3), .val (.int kk), .val (.int ss), .val (.int cc), .val (.ref b126), .val (.ref b134), .val (.ref b173), .val (.ref b189), .val (.int v204)] [(.int (own_e v204 cc)), (.int (own_e v204 cc))]))) (fun t k => st207 _ k) ?_
        refine Goes.via (S' := (T207.setTop (mkF m 460 #[.val (.int p0), .val (.int p1), .val (.int p2), .val (.int p3), .val (.int kk), .val (.int ss), .val (.int cc), .val (.ref b126), .val (.ref b134), .val (.ref b173), .val (.ref b189), .val (.int v204)] []))) (fun t k => XS.icmpNo X207.here hx rfl (hb hby at_457) rfl (teq rfl).2 k) ?_
        refine Goes.via (S' := (T207.setTop (mkF m 461 #[.val (.int p0), .val (.int p1), .val (.int p2), .val (.int p3), .val (.int kk), .val (.int ss), .val (.int cc), .val (.ref b126), .val (.ref b134), .val (.ref b173), .val (.ref b189), .val (.int v204)] [(.int (1 : Int32))]))) (fun t k => XS.iconst X207.here hx rfl (hb hby at_460) k) ?_
        refine Goes.via (S' := (T207.setTop (mkF m 465 #[.val (.int p0), .val (.int p1), .val (.int p2), .val (.int p3), .val (.int kk), .val (.int ss), .val (.int cc), .val (.ref b126), .val (.ref b134), .val (.ref b173), .val (.ref b189), .val (.int v204)] [(.int (1 : Int32))]))) (fun t k => XS.goto X207.here hx rfl (pc0 := 461) (pc' := 465) rfl (hb hby at_461) (by decide) (by decide) k) ?_
        exact own_ret X207 hx Bd.notSynchronized Bd.returns rfl (Or.inl ⟨rfl, by simp, _, rfl⟩) (hb hby at_465) eq207 ⟨rfl, N207⟩ (by decide) (by decide)
      · refine Goes.via (S' := (s₁.setTop (mkF m 255 #[.val (.int p0), .val (.int p1), .val (.int p2), .val (.int p3), .val (.int kk), .val (.int ss), .val (.int cc), .unset, .unset, .unset, .unset, .unset] []))) (fun t k => XS.icmpYes X0.here hx rfl (pc0 := 149) (pc' := 255) rfl (hb hby at_149) rfl (feq hc125).2 (by decide) (by decide) k) ?_
        refine Goes.via (S' := (s₁.setTop (mkF m 256 #[.val (.int p0), .val (.int p1), .val (.int p2), .val (.int p3), .val (.int kk), .val (.int ss), .val (.int cc), .unset, .unset, .unset, .unset, .unset] [(.int (4 : Int32))]))) (fun t k => XS.iconst X0.here hx rfl (hb hby at_255) k) ?_
        obtain ⟨T208, h208, k208, X208, e208, E208, A208, st208⟩ := newP X0 hx hZ (hw _ (List.mem_of_getElem? (i := 0) rfl)) e0 (g := (mkF m 256 #[.val (.int p0), .val (.int p1), .val (.int p2), .val (.int p3), .val (.int kk), .val (.int ss), .val (.int cc), .unset, .unset, .unset, .unset, .unset] [(.int (4 : Int32))])) rfl (hb hby at_256) rfl (by decide) (cap := 4) (by decide) (by decide) (by decide) (by decide)
        obtain ⟨b208, g208⟩ : ∃ z, z = h0.size := ⟨_, rfl⟩
        rw [← g208] at A208 st208
        have K208 : Keep h0 h208 [] := Keep.ext (Keep.refl h0 []) E208
        have Z208 : n0 ≤ h208.size := Nat.le_trans Z0 K208.1
        have g_b208 : n0 ≤ b208 := Nat.le_trans Z0 (Nat.le_of_eq g208.symm)
        have sz_b208 : h0.size ≤ b208 := Nat.le_trans ((Keep.refl h0 [])).1 (Nat.le_of_eq g208.symm)
        have f209 : Arv Z h208 b208 k208 .int (4 : Int32) [(.int (0 : Int32)), (.int (0 : Int32)), (.int (0 : Int32)), (.int (0 : Int32))] (.int (0 : Int32)) := (Arv.new A208 (by decide)).pad (pad_rep [] (.int (0 : Int32)) 4)
        refine Goes.via (S' := (T208.setTop (mkF m 258 #[.val (.int p0), .val (.int p1), .val (.int p2), .val (.int p3), .val (.int kk), .val (.int ss), .val (.int cc), .unset, .unset, .unset, .unset, .unset] [(.ref b208)]))) (fun t k => st208 _ k) ?_
        refine Goes.via (S' := (T208.setTop (mkF m 259 #[.val (.int p0), .val (.int p1), .val (.int p2), .val (.int p3), .val (.int kk), .val (.int ss), .val (.int cc), .unset, .unset, .unset, .unset, .unset] [(.ref b208), (.ref b208)]))) (fun t k => XS.dup X208.here hx rfl (hb hby at_258) rfl rfl k) ?_
        refine Goes.via (S' := (T208.setTop (mkF m 260 #[.val (.int p0), .val (.int p1), .val (.int p2), .val (.int p3), .val (.int kk), .val (.int ss), .val (.int cc), .unset, .unset, .unset, .unset, .unset] [(.int (0 : Int32)), (.ref b208), (.ref b208)]))) (fun t k => XS.iconst X208.here hx rfl (hb hby at_259) k) ?_
        refine Goes.via (S' := (T208.setTop (mkF m 261 #[.val (.int p0), .val (.int p1), .val (.int p2), .val (.int p3), .val (.int kk), .val (.int ss), .val (.int cc), .unset, .unset, .unset, .unset, .unset] [(.int (0 : Int32)), (.int (0 : Int32)), (.ref b208), (.ref b208)]))) (fun t k => XS.iconst X208.here hx rfl (hb hby at_260) k) ?_
        obtain ⟨cl210, Ar210, q210, S210, M210, Hs210, G210⟩ := id f209
        have hin210 : ¬ ((0 : Int32) < 0 ∨ cl210.slots.size ≤ ((0 : Int32)).toNatClampNeg) := inb_of S210 ⟨by decide, by decide⟩
        obtain ⟨T210, h210, X210, e210, W210, st210⟩ := stI X208 hx hZ e208 Ar210 (j := (0 : Int32)) hin210 (g := (mkF m 261 #[.val (.int p0), .val (.int p1), .val (.int p2), .val (.int p3), .val (.int kk), .val (.int ss), .val (.int cc), .unset, .unset, .unset, .unset, .unset] [(.int (0 : Int32)), (.int (0 : Int32)), (.ref b208), (.ref b208)])) rfl rfl (hb hby at_261)
        have f211 : Arv Z h210 b208 k208 .int (4 : Int32) [(.int (0 : Int32)), (.int (0 : Int32)), (.int (0 : Int32)), (.int (0 : Int32))] (.int (0 : Int32)) := Arv.set Ar210 q210 S210 M210 Hs210 G210 rfl W210 0 rfl (Nat.le_of_ble_eq_true rfl)
        have K210 : Keep h0 h210 [] := Keep.wr K208 W210 (Or.inr sz_b208)
        have Z210 : n0 ≤ h210.size := Nat.le_trans Z0 K210.1
        have N210 := Fr.snoc X210 N0 g_b208
        refine Goes.via (S' := (T210.setTop (mkF m 262 #[.val (.int p0), .val (.int p1), .val (.int p2), .val (.int p3), .val (.int kk), .val (.int ss), .val (.int cc), .unset, .unset, .unset, .unset, .unset] [(.ref b208)]))) (fun t k => st210 _ k) ?_
        refine Goes.via (S' := (T210.setTop (mkF m 263 #[.val (.int p0), .val (.int p1), .val (.int p2), .val (.int p3), .val (.int kk), .val (.int ss), .val (.int cc), .unset, .unset, .unset, .unset, .unset] [(.ref b208), (.ref b208)]))) (fun t k => XS.dup X210.here hx rfl (hb hby at_262) rfl rfl k) ?_
        refine Goes.via (S' := (T210.setTop (mkF m 264 #[.val (.int p0), .val (.int p1), .val (.int p2), .val (.int p3), .val (.int kk), .val (.int ss), .val (.int cc), .unset, .unset, .unset, .unset, .unset] [(.int (1 : Int32)), (.ref b208), (.ref b208)]))) (fun t k => XS.iconst X210.here hx rfl (hb hby at_263) k) ?_
        refine Goes.via (S' := (T210.setTop (mkF m 266 #[.val (.int p0), .val (.int p1), .val (.int p2), .val (.int p3), .val (.int kk), .val (.int ss), .val (.int cc), .unset, .unset, .unset, .unset, .unset] [(.int (10 : Int32)), (.int (1 : Int32)), (.ref b208), (.ref b208)]))) (fun t k => XS.bipush X210.here hx rfl (hb hby at_264) k) ?_
        obtain ⟨cl212, Ar212, q212, S212, M212, Hs212, G212⟩ := id f211
        have hin212 : ¬ ((1 : Int32) < 0 ∨ cl212.slots.size ≤ ((1 : Int32)).toNatClampNeg) := inb_of S212 ⟨by decide, by decide⟩
        obtain ⟨T212, h212, X212, e212, W212, st212⟩ := stI X210 hx hZ e210 Ar212 (j := (1 : Int32)) hin212 (g := (mkF m 266 #[.val (.int p0), .val (.int p1), .val (.int p2), .val (.int p3), .val (.int kk), .val (.int ss), .val (.int cc), .unset, .unset, .unset, .unset, .unset] [(.int (10 : Int32)), (.int (1 : Int32)), (.ref b208), (.ref b208)])) rfl rfl (hb hby at_266)
        have f213 : Arv Z h212 b208 k208 .int (4 : Int32) [(.int (0 : Int32)), (.int (10 : Int32)), (.int (0 : Int32)), (.int (0 : Int32))] (.int (0 : Int32)) := Arv.set Ar212 q212 S212 M212 Hs212 G212 rfl W212 1 rfl (Nat.le_of_ble_eq_true rfl)
        have K212 : Keep h0 h212 [] := Keep.wr K210 W212 (Or.inr sz_b208)
        have Z212 : n0 ≤ h212.size := Nat.le_trans Z0 K212.1
        have N212 := Fr.snoc X212 N210 g_b208
        refine Goes.via (S' := (T212.setTop (mkF m 267 #[.val (.int p0), .val (.int p1), .val (.int p2), .val (.int p3), .val (.int kk), .val (.int ss), .val (.int cc), .unset, .unset, .unset, .unset, .unset] [(.ref b208)]))) (fun t k => st212 _ k) ?_
        refine Goes.via (S' := (T212.setTop (mkF m 268 #[.val (.int p0), .val (.int p1), .val (.int p2), .val (.int p3), .val (.int kk), .val (.int ss), .val (.int cc), .unset, .unset, .unset, .unset, .unset] [(.ref b208), (.ref b208)]))) (fun t k => XS.dup X212.here hx rfl (hb hby at_267) rfl rfl k) ?_
        refine Goes.via (S' := (T212.setTop (mkF m 269 #[.val (.int p0), .val (.int p1), .val (.int p2), .val (.int p3), .val (.int kk), .val (.int ss), .val (.int cc), .unset, .unset, .unset, .unset, .unset] [(.int (2 : Int32)), (.ref b208), (.ref b208)]))) (fun t k => XS.iconst X212.here hx rfl (hb hby at_268) k) ?_
        refine Goes.via (S' := (T212.setTop (mkF m 271 #[.val (.int p0), .val (.int p1), .val (.int p2), .val (.int p3), .val (.int kk), .val (.int ss), .val (.int cc), .unset, .unset, .unset, .unset, .unset] [(.int (20 : Int32)), (.int (2 : Int32)), (.ref b208), (.ref b208)]))) (fun t k => XS.bipush X212.here hx rfl (hb hby at_269) k) ?_
        obtain ⟨cl214, Ar214, q214, S214, M214, Hs214, G214⟩ := id f213
        have hin214 : ¬ ((2 : Int32) < 0 ∨ cl214.slots.size ≤ ((2 : Int32)).toNatClampNeg) := inb_of S214 ⟨by decide, by decide⟩
        obtain ⟨T214, h214, X214, e214, W214, st214⟩ := stI X212 hx hZ e212 Ar214 (j := (2 : Int32)) hin214 (g := (mkF m 271 #[.val (.int p0), .val (.int p1), .val (.int p2), .val (.int p3), .val (.int kk), .val (.int ss), .val (.int cc), .unset, .unset, .unset, .unset, .unset] [(.int (20 : Int32)), (.int (2 : Int32)), (.ref b208), (.ref b208)])) rfl rfl (hb hby at_271)
        have f215 : Arv Z h214 b208 k208 .int (4 : Int32) [(.int (0 : Int32)), (.int (10 : Int32)), (.int (20 : Int32)), (.int (0 : Int32))] (.int (0 : Int32)) := Arv.set Ar214 q214 S214 M214 Hs214 G214 rfl W214 2 rfl (Nat.le_of_ble_eq_true rfl)
        have K214 : Keep h0 h214 [] := Keep.wr K212 W214 (Or.inr sz_b208)
        have Z214 : n0 ≤ h214.size := Nat.le_trans Z0 K214.1
        have N214 := Fr.snoc X214 N212 g_b208
        refine Goes.via (S' := (T214.setTop (mkF m 272 #[.val (.int p0), .val (.int p1), .val (.int p2), .val (.int p3), .val (.int kk), .val (.int ss), .val (.int cc), .unset, .unset, .unset, .unset, .unset] [(.ref b208)]))) (fun t k => st214 _ k) ?_
        refine Goes.via (S' := (T214.setTop (mkF m 273 #[.val (.int p0), .val (.int p1), .val (.int p2), .val (.int p3), .val (.int kk), .val (.int ss), .val (.int cc), .unset, .unset, .unset, .unset, .unset] [(.ref b208), (.ref b208)]))) (fun t k => XS.dup X214.here hx rfl (hb hby at_272) rfl rfl k) ?_
        refine Goes.via (S' := (T214.setTop (mkF m 274 #[.val (.int p0), .val (.int p1), .val (.int p2), .val (.int p3), .val (.int kk), .val (.int ss), .val (.int cc), .unset, .unset, .unset, .unset, .unset] [(.int (3 : Int32)), (.ref b208), (.ref b208)]))) (fun t k => XS.iconst X214.here hx rfl (hb hby at_273) k) ?_
        refine Goes.via (S' := (T214.setTop (mkF m 276 #[.val (.int p0), .val (.int p1), .val (.int p2), .val (.int p3), .val (.int kk), .val (.int ss), .val (.int cc), .unset, .unset, .unset, .unset, .unset] [(.int (30 : Int32)), (.int (3 : Int32)), (.ref b208), (.ref b208)]))) (fun t k => XS.bipush X214.here hx rfl (hb hby at_274) k) ?_
        obtain ⟨cl216, Ar216, q216, S216, M216, Hs216, G216⟩ := id f215
        have hin216 : ¬ ((3 : Int32) < 0 ∨ cl216.slots.size ≤ ((3 : Int32)).toNatClampNeg) := inb_of S216 ⟨by decide, by decide⟩
        obtain ⟨T216, h216, X216, e216, W216, st216⟩ := stI X214 hx hZ e214 Ar216 (j := (3 : Int32)) hin216 (g := (mkF m 276 #[.val (.int p0), .val (.int p1), .val (.int p2), .val (.int p3), .val (.int kk), .val (.int ss), .val (.int cc), .unset, .unset, .unset, .unset, .unset] [(.int (30 : Int32)), (.int (3 : Int32)), (.ref b208), (.ref b208)])) rfl rfl (hb hby at_276)
        have f217 : Arv Z h216 b208 k208 .int (4 : Int32) [(.int (0 : Int32)), (.int (10 : Int32)), (.int (20 : Int32)), (.int (30 : Int32))] (.int (0 : Int32)) := Arv.set Ar216 q216 S216 M216 Hs216 G216 rfl W216 3 rfl (Nat.le_of_ble_eq_true rfl)
        have K216 : Keep h0 h216 [] := Keep.wr K214 W216 (Or.inr sz_b208)
        have Z216 : n0 ≤ h216.size := Nat.le_trans Z0 K216.1
        have N216 := Fr.snoc X216 N214 g_b208
        refine Goes.via (S' := (T216.setTop (mkF m 277 #[.val (.int p0), .val (.int p1), .val (.int p2), .val (.int p3), .val (.int kk), .val (.int ss), .val (.int cc), .unset, .unset, .unset, .unset, .unset] [(.ref b208)]))) (fun t k => st216 _ k) ?_
        refine Goes.via (S' := (T216.setTop (mkF m 279 #[.val (.int p0), .val (.int p1), .val (.int p2), .val (.int p3), .val (.int kk), .val (.int ss), .val (.int cc), .val (.ref b208), .unset, .unset, .unset, .unset] []))) (fun t k => XS.astore X216.here hx rfl (hb hby at_277) rfl rfl (l' := #[.val (.int p0), .val (.int p1), .val (.int p2), .val (.int p3), .val (.int kk), .val (.int ss), .val (.int cc), .val (.ref b208), .unset, .unset, .unset, .unset]) rfl k) ?_
        refine Goes.via (S' := (T216.setTop (mkF m 281 #[.val (.int p0), .val (.int p1), .val (.int p2), .val (.int p3), .val (.int kk), .val (.int ss), .val (.int cc), .val (.ref b208), .unset, .unset, .unset, .unset] [(.int (12 : Int32))]))) (fun t k => XS.bipush X216.here hx rfl (hb hby at_279) k) ?_
        obtain ⟨T218, h218, k218, X218, e218, E218, A218, st218⟩ := newP X216 hx hZ (hw _ (List.mem_of_getElem? (i := 0) rfl)) e216 (g := (mkF m 281 #[.val (.int p0), .val (.int p1), .val (.int p2), .val (.int p3), .val (.int kk), .val (.int ss), .val (.int cc), .val (.ref b208), .unset, .unset, .unset, .unset] [(.int (12 : Int32))])) rfl (hb hby at_281) rfl (by decide) (cap := 12) (by decide) (by decide) (by decide) (by decide)
        obtain ⟨b218, g218⟩ : ∃ z, z = h216.size := ⟨_, rfl⟩
        rw [← g218] at A218 st218
        have f219 : Arv Z h218 b208 k208 .int (4 : Int32) [(.int (0 : Int32)), (.int (10 : Int32)), (.int (20 : Int32)), (.int (30 : Int32))] (.int (0 : Int32)) := f217.ext E218
        have K218 : Keep h0 h218 [] := Keep.ext K216 E218
        have Z218 : n0 ≤ h218.size := Nat.le_trans Z0 K218.1
        have g_b218 : n0 ≤ b218 := Nat.le_trans Z216 (Nat.le_of_eq g218.symm)
        have sz_b218 : h0.size ≤ b218 := Nat.le_trans (K216).1 (Nat.le_of_eq g218.symm)
        have ne_b208_b218 : b208 ≠ b218 := Nat.ne_of_lt (Nat.lt_of_lt_of_le f217.lt (Nat.le_of_eq g218.symm))
        have f220 : Arv Z h218 b218 k218 .int (12 : Int32) [(.int (0 : Int32)), (.int (0 : Int32)), (.int (0 : Int32)), (.int (0 : Int32)), (.int (0 : Int32)), (.int (0 : Int32)), (.int (0 : Int32)), (.int (0 : Int32)), (.int (0 : Int32)), (.int (0 : Int32)), (.int (0 : Int32)), (.int (0 : Int32))] (.int (0 : Int32)) := (Arv.new A218 (by decide)).pad (pad_rep [] (.int (0 : Int32)) 12)
        refine Goes.via (S' := (T218.setTop (mkF m 283 #[.val (.int p0), .val (.int p1), .val (.int p2), .val (.int p3), .val (.int kk), .val (.int ss), .val (.int cc), .val (.ref b208), .unset, .unset, .unset, .unset] [(.ref b218)]))) (fun t k => st218 _ k) ?_
        refine Goes.via (S' := (T218.setTop (mkF m 284 #[.val (.int p0), .val (.int p1), .val (.int p2), .val (.int p3), .val (.int kk), .val (.int ss), .val (.int cc), .val (.ref b208), .unset, .unset, .unset, .unset] [(.ref b218), (.ref b218)]))) (fun t k => XS.dup X218.here hx rfl (hb hby at_283) rfl rfl k) ?_
        refine Goes.via (S' := (T218.setTop (mkF m 285 #[.val (.int p0), .val (.int p1), .val (.int p2), .val (.int p3), .val (.int kk), .val (.int ss), .val (.int cc), .val (.ref b208), .unset, .unset, .unset, .unset] [(.int (0 : Int32)), (.ref b218), (.ref b218)]))) (fun t k => XS.iconst X218.here hx rfl (hb hby at_284) k) ?_
        refine Goes.via (S' := (T218.setTop (mkF m 286 #[.val (.int p0), .val (.int p1), .val (.int p2), .val (.int p3), .val (.int kk), .val (.int ss), .val (.int cc), .val (.ref b208), .unset, .unset, .unset, .unset] [(.int p0), (.int (0 : Int32)), (.ref b218), (.ref b218)]))) (fun t k => XS.iloadN X218.here hx rfl (hb hby at_285) rfl k) ?_
        refine Goes.via (S' := (T218.setTop (mkF m 287 #[.val (.int p0), .val (.int p1), .val (.int p2), .val (.int p3), .val (.int kk), .val (.int ss), .val (.int cc), .val (.ref b208), .unset, .unset, .unset, .unset] [(.int (0 : Int32)), (.int p0), (.int (0 : Int32)), (.ref b218), (.ref b218)]))) (fun t k => XS.iconst X218.here hx rfl (hb hby at_286) k) ?_
        obtain ⟨_, _, ⟨T221, L221, k221, n221⟩, -, X221, ⟨Lc221, hQ221, l221, y221, z221⟩, st221⟩ := Jvm.LawKit.callS X218 hx (y := (⟨"com/example/parsewright/parsewright/generator/ScannerAutomatonNextPinLaw", "e", "(II)I"⟩ : MethodName)) hown (mvT hZ (hw _ (List.mem_of_getElem? (i := 1) rfl))) (mvT hZ (hw _ (List.mem_of_getElem? (i := 2) rfl))) (mvT hZ (hw _ (List.mem_of_getElem? (i := 3) rfl))) (mvT hZ (hw _ (List.mem_of_getElem? (i := 4) rfl))) (by decide) (backOf (W := 3) (rm1 l Z a0 hw [] p0 (0 : Int32) h218 n0 Z218 ) hZ (hw _ (List.mem_of_getElem? (i := 4) rfl)) (hw _ (List.mem_of_getElem? (i := 3) rfl)) (by decide) (by decide)) (g := (mkF m 287 #[.val (.int p0), .val (.int p1), .val (.int p2), .val (.int p3), .val (.int kk), .val (.int ss), .val (.int cc), .val (.ref b208), .unset, .unset, .unset, .unset] [(.int (0 : Int32)), (.int p0), (.int (0 : Int32)), (.ref b218), (.ref b218)])) rfl (by rw [hml]; rfl) (argsL := [(.int p0), (.int (0 : Int32))]) (rest := [(.int (0 : Int32)), (.ref b218), (.ref b218)]) (lenOf pd_0 rfl) rfl (by show 2 * 0 + _ ≤ _; exact Nat.le_of_eq rfl) (hb hby at_287) (fun _ _ => ⟨rfl, e218, (by decide : 2 + 0 ≤ _), (by decide : 16 + 0 ≤ _)⟩)
        dsimp only [Pt.U, Pt.locs, Pt.cells, Pt.slots] at X221 l221 y221 z221 st221 hQ221
        replace X221 := own_cast X221 l221 y221 z221
        obtain ⟨rfl, N221q, eq221⟩ := hQ221
        have N221 := Fr.app N216 N221q
        refine Goes.via (S' := (T221.setTop (mkF m 290 #[.val (.int p0), .val (.int p1), .val (.int p2), .val (.int p3), .val (.int kk), .val (.int ss), .val (.int cc), .val (.ref b208), .unset, .unset, .unset, .unset] [(.int (own_e p0 (0 : Int32))), (.int (0 : Int32)), (.ref b218), (.ref b218)]))) (fun t k => st221 _ k) ?_
        obtain ⟨cl222, Ar222, q222, S222, M222, Hs222, G222⟩ := id f220
        have hin222 : ¬ ((0 : Int32) < 0 ∨ cl222.slots.size ≤ ((0 : Int32)).toNatClampNeg) := inb_of S222 ⟨by decide, by decide⟩
        obtain ⟨T222, h222, X222, e222, W222, st222⟩ := stI X221 hx hZ eq221 Ar222 (j := (0 : Int32)) hin222 (g := (mkF m 290 #[.val (.int p0), .val (.int p1), .val (.int p2), .val (.int p3), .val (.int kk), .val (.int ss), .val (.int cc), .val (.ref b208), .unset, .unset, .unset, .unset] [(.int (own_e p0 (0 : Int32))), (.int (0 : Int32)), (.ref b218), (.ref b218)])) rfl rfl (hb hby at_290)
        have f223 : Arv Z h222 b208 k208 .int (4 : Int32) [(.int (0 : Int32)), (.int (10 : Int32)), (.int (20 : Int32)), (.int (30 : Int32))] (.int (0 : Int32)) := f219.other W222 ne_b208_b218
        have f224 : Arv Z h222 b218 k218 .int (12 : Int32) [(.int (own_e p0 (0 : Int32))), (.int (0 : Int32)), (.int (0 : Int32)), (.int (0 : Int32)), (.int (0 : Int32)), (.int (0 : Int32)), (.int (0 : Int32)), (.int (0 : Int32)), (.int (0 : Int32)), (.int (0 : Int32)), (.int (0 : Int32)), (.int (0 : Int32))] (.int (0 : Int32)) := Arv.set Ar222 q222 S222 M222 Hs222 G222 rfl W222 0 rfl (Nat.le_of_ble_eq_true rfl)
        have K222 : Keep h0 h222 [] := Keep.wr K218 W222 (Or.inr sz_b218)
        have Z222 : n0 ≤ h222.size := Nat.le_trans Z0 K222.1
        have N222 := Fr.snoc X222 N221 g_b218
        refine Goes.via (S' := (T222.setTop (mkF m 291 #[.val (.int p0), .val (.int p1), .val (.int p2), .val (.int p3), .val (.int kk), .val (.int ss), .val (.int cc), .val (.ref b208), .unset, .unset, .unset, .unset] [(.ref b218)]))) (fun t k => st222 _ k) ?_
        refine Goes.via (S' := (T222.setTop (mkF m 292 #[.val (.int p0), .val (.int p1), .val (.int p2), .val (.int p3), .val (.int kk), .val (.int ss), .val (.int cc), .val (.ref b208), .unset, .unset, .unset, .unset] [(.ref b218), (.ref b218)]))) (fun t k => XS.dup X222.here hx rfl (hb hby at_291) rfl rfl k) ?_
        refine Goes.via (S' := (T222.setTop (mkF m 293 #[.val (.int p0), .val (.int p1), .val (.int p2), .val (.int p3), .val (.int kk), .val (.int ss), .val (.int cc), .val (.ref b208), .unset, .unset, .unset, .unset] [(.int (1 : Int32)), (.ref b218), (.ref b218)]))) (fun t k => XS.iconst X222.here hx rfl (hb hby at_292) k) ?_
        refine Goes.via (S' := (T222.setTop (mkF m 294 #[.val (.int p0), .val (.int p1), .val (.int p2), .val (.int p3), .val (.int kk), .val (.int ss), .val (.int cc), .val (.ref b208), .unset, .unset, .unset, .unset] [(.int p0), (.int (1 : Int32)), (.ref b218), (.ref b218)]))) (fun t k => XS.iloadN X222.here hx rfl (hb hby at_293) rfl k) ?_
        refine Goes.via (S' := (T222.setTop (mkF m 295 #[.val (.int p0), .val (.int p1), .val (.int p2), .val (.int p3), .val (.int kk), .val (.int ss), .val (.int cc), .val (.ref b208), .unset, .unset, .unset, .unset] [(.int (1 : Int32)), (.int p0), (.int (1 : Int32)), (.ref b218), (.ref b218)]))) (fun t k => XS.iconst X222.here hx rfl (hb hby at_294) k) ?_
        obtain ⟨_, _, ⟨T225, L225, k225, n225⟩, -, X225, ⟨Lc225, hQ225, l225, y225, z225⟩, st225⟩ := Jvm.LawKit.callS X222 hx (y := (⟨"com/example/parsewright/parsewright/generator/ScannerAutomatonNextPinLaw", "e", "(II)I"⟩ : MethodName)) hown (mvT hZ (hw _ (List.mem_of_getElem? (i := 1) rfl))) (mvT hZ (hw _ (List.mem_of_getElem? (i := 2) rfl))) (mvT hZ (hw _ (List.mem_of_getElem? (i := 3) rfl))) (mvT hZ (hw _ (List.mem_of_getElem? (i := 4) rfl))) (by decide) (backOf (W := 3) (rm1 l Z a0 hw [] p0 (1 : Int32) h222 n0 Z222 ) hZ (hw _ (List.mem_of_getElem? (i := 4) rfl)) (hw _ (List.mem_of_getElem? (i := 3) rfl)) (by decide) (by decide)) (g := (mkF m 295 #[.val (.int p0), .val (.int p1), .val (.int p2), .val (.int p3), .val (.int kk), .val (.int ss), .val (.int cc), .val (.ref b208), .unset, .unset, .unset, .unset] [(.int (1 : Int32)), (.int p0), (.int (1 : Int32)), (.ref b218), (.ref b218)])) rfl (by rw [hml]; rfl) (argsL := [(.int p0), (.int (1 : Int32))]) (rest := [(.int (1 : Int32)), (.ref b218), (.ref b218)]) (lenOf pd_0 rfl) rfl (by show 2 * 0 + _ ≤ _; exact Nat.le_of_eq rfl) (hb hby at_295) (fun _ _ => ⟨rfl, e222, (by decide : 2 + 0 ≤ _), (by decide : 16 + 0 ≤ _)⟩)
        dsimp only [Pt.U, Pt.locs, Pt.cells, Pt.slots] at X225 l225 y225 z225 st225 hQ225
        replace X225 := own_cast X225 l225 y225 z225
        obtain ⟨rfl, N225q, eq225⟩ := hQ225
        have N225 := Fr.app N222 N225q
        refine Goes.via (S' := (T225.setTop (mkF m 298 #[.val (.int p0), .val (.int p1), .val (.int p2), .val (.int p3), .val (.int kk), .val (.int ss), .val (.int cc), .val (.ref b208), .unset, .unset, .unset, .unset] [(.int (own_e p0 (1 : Int32))), (.int (1 : Int32)), (.ref b218), (.ref b218)]))) (fun t k => st225 _ k) ?_
        obtain ⟨cl226, Ar226, q226, S226, M226, Hs226, G226⟩ := id f224
        have hin226 : ¬ ((1 : Int32) < 0 ∨ cl226.slots.size ≤ ((1 : Int32)).toNatClampNeg) := inb_of S226 ⟨by decide, by decide⟩
        obtain ⟨T226, h226, X226, e226, W226, st226⟩ := stI X225 hx hZ eq225 Ar226 (j := (1 : Int32)) hin226 (g := (mkF m 298 #[.val (.int p0), .val (.int p1), .val (.int p2), .val (.int p3), .val (.int kk), .val (.int ss), .val (.int cc), .val (.ref b208), .unset, .unset, .unset, .unset] [(.int (own_e p0 (1 : Int32))), (.int (1 : Int32)), (.ref b218), (.ref b218)])) rfl rfl (hb hby at_298)
        have f227 : Arv Z h226 b208 k208 .int (4 : Int32) [(.int (0 : Int32)), (.int (10 : Int32)), (.int (20 : Int32)), (.int (30 : Int32))] (.int (0 : Int32)) := f223.other W226 ne_b208_b218
        have f228 : Arv Z h226 b218 k218 .int (12 : Int32) [(.int (own_e p0 (0 : Int32))), (.int (own_e p0 (1 : Int32))), (.int (0 : Int32)), (.int (0 : Int32)), (.int (0 : Int32)), (.int (0 : Int32)), (.int (0 : Int32)), (.int (0 : Int32)), (.int (0 : Int32)), (.int (0 : Int32)), (.int (0 : Int32)), (.int (0 : Int32))] (.int (0 : Int32)) := Arv.set Ar226 q226 S226 M226 Hs226 G226 rfl W226 1 rfl (Nat.le_of_ble_eq_true rfl)
        have K226 : Keep h0 h226 [] := Keep.wr K222 W226 (Or.inr sz_b218)
        have Z226 : n0 ≤ h226.size := Nat.le_trans Z0 K226.1
        have N226 := Fr.snoc X226 N225 g_b218
        refine Goes.via (S' := (T226.setTop (mkF m 299 #[.val (.int p0), .val (.int p1), .val (.int p2), .val (.int p3), .val (.int kk), .val (.int ss), .val (.int cc), .val (.ref b208), .unset, .unset, .unset, .unset] [(.ref b218)]))) (fun t k => st226 _ k) ?_
        refine Goes.via (S' := (T226.setTop (mkF m 300 #[.val (.int p0), .val (.int p1), .val (.int p2), .val (.int p3), .val (.int kk), .val (.int ss), .val (.int cc), .val (.ref b208), .unset, .unset, .unset, .unset] [(.ref b218), (.ref b218)]))) (fun t k => XS.dup X226.here hx rfl (hb hby at_299) rfl rfl k) ?_
        refine Goes.via (S' := (T226.setTop (mkF m 301 #[.val (.int p0), .val (.int p1), .val (.int p2), .val (.int p3), .val (.int kk), .val (.int ss), .val (.int cc), .val (.ref b208), .unset, .unset, .unset, .unset] [(.int (2 : Int32)), (.ref b218), (.ref b218)]))) (fun t k => XS.iconst X226.here hx rfl (hb hby at_300) k) ?_
        refine Goes.via (S' := (T226.setTop (mkF m 302 #[.val (.int p0), .val (.int p1), .val (.int p2), .val (.int p3), .val (.int kk), .val (.int ss), .val (.int cc), .val (.ref b208), .unset, .unset, .unset, .unset] [(.int p0), (.int (2 : Int32)), (.ref b218), (.ref b218)]))) (fun t k => XS.iloadN X226.here hx rfl (hb hby at_301) rfl k) ?_
        refine Goes.via (S' := (T226.setTop (mkF m 303 #[.val (.int p0), .val (.int p1), .val (.int p2), .val (.int p3), .val (.int kk), .val (.int ss), .val (.int cc), .val (.ref b208), .unset, .unset, .unset, .unset] [(.int (2 : Int32)), (.int p0), (.int (2 : Int32)), (.ref b218), (.ref b218)]))) (fun t k => XS.iconst X226.here hx rfl (hb hby at_302) k) ?_
        obtain ⟨_, _, ⟨T229, L229, k229, n229⟩, -, X229, ⟨Lc229, hQ229, l229, y229, z229⟩, st229⟩ := Jvm.LawKit.callS X226 hx (y := (⟨"com/example/parsewright/parsewright/generator/ScannerAutomatonNextPinLaw", "e", "(II)I"⟩ : MethodName)) hown (mvT hZ (hw _ (List.mem_of_getElem? (i := 1) rfl))) (mvT hZ (hw _ (List.mem_of_getElem? (i := 2) rfl))) (mvT hZ (hw _ (List.mem_of_getElem? (i := 3) rfl))) (mvT hZ (hw _ (List.mem_of_getElem? (i := 4) rfl))) (by decide) (backOf (W := 3) (rm1 l Z a0 hw [] p0 (2 : Int32) h226 n0 Z226 ) hZ (hw _ (List.mem_of_getElem? (i := 4) rfl)) (hw _ (List.mem_of_getElem? (i := 3) rfl)) (by decide) (by decide)) (g := (mkF m 303 #[.val (.int p0), .val (.int p1), .val (.int p2), .val (.int p3), .val (.int kk), .val (.int ss), .val (.int cc), .val (.ref b208), .unset, .unset, .unset, .unset] [(.int (2 : Int32)), (.int p0), (.int (2 : Int32)), (.ref b218), (.ref b218)])) rfl (by rw [hml]; rfl) (argsL := [(.int p0), (.int (2 : Int32))]) (rest := [(.int (2 : Int32)), (.ref b218), (.ref b218)]) (lenOf pd_0 rfl) rfl (by show 2 * 0 + _ ≤ _; exact Nat.le_of_eq rfl) (hb hby at_303) (fun _ _ => ⟨rfl, e226, (by decide : 2 + 0 ≤ _), (by decide : 16 + 0 ≤ _)⟩)
        dsimp only [Pt.U, Pt.locs, Pt.cells, Pt.slots] at X229 l229 y229 z229 st229 hQ229
        replace X229 := own_cast X229 l229 y229 z229
        obtain ⟨rfl, N229q, eq229⟩ := hQ229
        have N229 := Fr.app N226 N229q
        refine Goes.via (S' := (T229.setTop (mkF m 306 #[.val (.int p0), .val (.int p1), .val (.int p2), .val (.int p3), .val (.int kk), .val (.int ss), .val (.int cc), .val (.ref b208), .unset, .unset, .unset, .unset] [(.int (own_e p0 (2 : Int32))), (.int (2 : Int32)), (.ref b218), (.ref b218)]))) (fun t k => st229 _ k) ?_
        obtain ⟨cl230, Ar230, q230, S230, M230, Hs230, G230⟩ := id f228
        have hin230 : ¬ ((2 : Int32) < 0 ∨ cl230.slots.size ≤ ((2 : Int32)).toNatClampNeg) := inb_of S230 ⟨by decide, by decide⟩
        obtain ⟨T230, h230, X230, e230, W230, st230⟩ := stI X229 hx hZ eq229 Ar230 (j := (2 : Int32)) hin230 (g := (mkF m 306 #[.val (.int p0), .val (.int p1), .val (.int p2), .val (.int p3), .val (.int kk), .val (.int ss), .val (.int cc), .val (.ref b208), .unset, .unset, .unset, .unset] [(.int (own_e p0 (2 : Int32))), (.int (2 : Int32)), (.ref b218), (.ref b218)])) rfl rfl (hb hby at_306)
        have f231 : Arv Z h230 b208 k208 .int (4 : Int32) [(.int (0 : Int32)), (.int (10 : Int32)), (.int (20 : Int32)), (.int (30 : Int32))] (.int (0 : Int32)) := f227.other W230 ne_b208_b218
        have f232 : Arv Z h230 b218 k218 .int (12 : Int32) [(.int (own_e p0 (0 : Int32))), (.int (own_e p0 (1 : Int32))), (.int (own_e p0 (2 : Int32))), (.int (0 : Int32)), (.int (0 : Int32)), (.int (0 : Int32)), (.int (0 : Int32)), (.int (0 : Int32)), (.int (0 : Int32)), (.int (0 : Int32)), (.int (0 : Int32)), (.int (0 : Int32))] (.int (0 : Int32)) := Arv.set Ar230 q230 S230 M230 Hs230 G230 rfl W230 2 rfl (Nat.le_of_ble_eq_true rfl)
        have K230 : Keep h0 h230 [] := Keep.wr K226 W230 (Or.inr sz_b218)
        have Z230 : n0 ≤ h230.size := Nat.le_trans Z0 K230.1
        have N230 := Fr.snoc X230 N229 g_b218
        refine Goes.via (S' := (T230.setTop (mkF m 307 #[.val (.int p0), .val (.int p1), .val (.int p2), .val (.int p3), .val (.int kk), .val (.int ss), .val (.int cc), .val (.ref b208), .unset, .unset, .unset, .unset] [(.ref b218)]))) (fun t k => st230 _ k) ?_
        refine Goes.via (S' := (T230.setTop (mkF m 308 #[.val (.int p0), .val (.int p1), .val (.int p2), .val (.int p3), .val (.int kk), .val (.int ss), .val (.int cc), .val (.ref b208), .unset, .unset, .unset, .unset] [(.ref b218), (.ref b218)]))) (fun t k => XS.dup X230.here hx rfl (hb hby at_307) rfl rfl k) ?_
        refine Goes.via (S' := (T230.setTop (mkF m 309 #[.val (.int p0), .val (.int p1), .val (.int p2), .val (.int p3), .val (.int kk), .val (.int ss), .val (.int cc), .val (.ref b208), .unset, .unset, .unset, .unset] [(.int (3 : Int32)), (.ref b218), (.ref b218)]))) (fun t k => XS.iconst X230.here hx rfl (hb hby at_308) k) ?_
        refine Goes.via (S' := (T230.setTop (mkF m 310 #[.val (.int p0), .val (.int p1), .val (.int p2), .val (.int p3), .val (.int kk), .val (.int ss), .val (.int cc), .val (.ref b208), .unset, .unset, .unset, .unset] [(.int p0), (.int (3 : Int32)), (.ref b218), (.ref b218)]))) (fun t k => XS.iloadN X230.here hx rfl (hb hby at_309) rfl k) ?_
        refine Goes.via (S' := (T230.setTop (mkF m 311 #[.val (.int p0), .val (.int p1), .val (.int p2), .val (.int p3), .val (.int kk), .val (.int ss), .val (.int cc), .val (.ref b208), .unset, .unset, .unset, .unset] [(.int (3 : Int32)), (.int p0), (.int (3 : Int32)), (.ref b218), (.ref b218)]))) (fun t k => XS.iconst X230.here hx rfl (hb hby at_310) k) ?_
        obtain ⟨_, _, ⟨T233, L233, k233, n233⟩, -, X233, ⟨Lc233, hQ233, l233, y233, z233⟩, st233⟩ := Jvm.LawKit.callS X230 hx (y := (⟨"com/example/parsewright/parsewright/generator/ScannerAutomatonNextPinLaw", "e", "(II)I"⟩ : MethodName)) hown (mvT hZ (hw _ (List.mem_of_getElem? (i := 1) rfl))) (mvT hZ (hw _ (List.mem_of_getElem? (i := 2) rfl))) (mvT hZ (hw _ (List.mem_of_getElem? (i := 3) rfl))) (mvT hZ (hw _ (List.mem_of_getElem? (i := 4) rfl))) (by decide) (backOf (W := 3) (rm1 l Z a0 hw [] p0 (3 : Int32) h230 n0 Z230 ) hZ (hw _ (List.mem_of_getElem? (i := 4) rfl)) (hw _ (List.mem_of_getElem? (i := 3) rfl)) (by decide) (by decide)) (g := (mkF m 311 #[.val (.int p0), .val (.int p1), .val (.int p2), .val (.int p3), .val (.int kk), .val (.int ss), .val (.int cc), .val (.ref b208), .unset, .unset, .unset, .unset] [(.int (3 : Int32)), (.int p0), (.int (3 : Int32)), (.ref b218), (.ref b218)])) rfl (by rw [hml]; rfl) (argsL := [(.int p0), (.int (3 : Int32))]) (rest := [(.int (3 : Int32)), (.ref b218), (.ref b218)]) (lenOf pd_0 rfl) rfl (by show 2 * 0 + _ ≤ _; exact Nat.le_of_eq rfl) (hb hby at_311) (fun _ _ => ⟨rfl, e230, (by decide : 2 + 0 ≤ _), (by decide : 16 + 0 ≤ _)⟩)
        dsimp only [Pt.U, Pt.locs, Pt.cells, Pt.slots] at X233 l233 y233 z233 st233 hQ233
        replace X233 := own_cast X233 l233 y233 z233
        obtain ⟨rfl, N233q, eq233⟩ := hQ233
        have N233 := Fr.app N230 N233q
        refine Goes.via (S' := (T233.setTop (mkF m 314 #[.val (.int p0), .val (.int p1), .val (.int p2), .val (.int p3), .val (.int kk), .val (.int ss), .val (.int cc), .val (.ref b208), .unset, .unset, .unset, .unset] [(.int (own_e p0 (3 : Int32))), (.int (3 : Int32)), (.ref b218), (.ref b218)]))) (fun t k => st233 _ k) ?_
        obtain ⟨cl234, Ar234, q234, S234, M234, Hs234, G234⟩ := id f232
        have hin234 : ¬ ((3 : Int32) < 0 ∨ cl234.slots.size ≤ ((3 : Int32)).toNatClampNeg) := inb_of S234 ⟨by decide, by decide⟩
        obtain ⟨T234, h234, X234, e234, W234, st234⟩ := stI X233 hx hZ eq233 Ar234 (j := (3 : Int32)) hin234 (g := (mkF m 314 #[.val (.int p0), .val (.int p1), .val (.int p2), .val (.int p3), .val (.int kk), .val (.int ss), .val (.int cc), .val (.ref b208), .unset, .unset, .unset, .unset] [(.int (own_e p0 (3 : Int32))), (.int (3 : Int32)), (.ref b218), (.ref b218)])) rfl rfl (hb hby at_314)
        have f235 : Arv Z h234 b208 k208 .int (4 : Int32) [(.int (0 : Int32)), (.int (10 : Int32)), (.int (20 : Int32)), (.int (30 : Int32))] (.int (0 : Int32)) := f231.other W234 ne_b208_b218
        have f236 : Arv Z h234 b218 k218 .int (12 : Int32) [(.int (own_e p0 (0 : Int32))), (.int (own_e p0 (1 : Int32))), (.int (own_e p0 (2 : Int32))), (.int (own_e p0 (3 : Int32))), (.int (0 : Int32)), (.int (0 : Int32)), (.int (0 : Int32)), (.int (0 : Int32)), (.int (0 : Int32)), (.int (0 : Int32)), (.int (0 : Int32)), (.int (0 : Int32))] (.int (0 : Int32)) := Arv.set Ar234 q234 S234 M234 Hs234 G234 rfl W234 3 rfl (Nat.le_of_ble_eq_true rfl)
        have K234 : Keep h0 h234 [] := Keep.wr K230 W234 (Or.inr sz_b218)
        have Z234 : n0 ≤ h234.size := Nat.le_trans Z0 K234.1
        have N234 := Fr.snoc X234 N233 g_b218
        refine Goes.via (S' := (T234.setTop (mkF m 315 #[.val (.int p0), .val (.int p1), .val (.int p2), .val (.int p3), .val (.int kk), .val (.int ss), .val (.int cc), .val (.ref b208), .unset, .unset, .unset, .unset] [(.ref b218)]))) (fun t k => st234 _ k) ?_
        refine Goes.via (S' := (T234.setTop (mkF m 316 #[.val (.int p0), .val (.int p1), .val (.int p2), .val (.int p3), .val (.int kk), .val (.int ss), .val (.int cc), .val (.ref b208), .unset, .unset, .unset, .unset] [(.ref b218), (.ref b218)]))) (fun t k => XS.dup X234.here hx rfl (hb hby at_315) rfl rfl k) ?_
        refine Goes.via (S' := (T234.setTop (mkF m 317 #[.val (.int p0), .val (.int p1), .val (.int p2), .val (.int p3), .val (.int kk), .val (.int ss), .val (.int cc), .val (.ref b208), .unset, .unset, .unset, .unset] [(.int (4 : Int32)), (.ref b218), (.ref b218)]))) (fun t k => XS.iconst X234.here hx rfl (hb hby at_316) k) ?_
        refine Goes.via (S' := (T234.setTop (mkF m 318 #[.val (.int p0), .val (.int p1), .val (.int p2), .val (.int p3), .val (.int kk), .val (.int ss), .val (.int cc), .val (.ref b208), .unset, .unset, .unset, .unset] [(.int p1), (.int (4 : Int32)), (.ref b218), (.ref b218)]))) (fun t k => XS.iloadN X234.here hx rfl (hb hby at_317) rfl k) ?_
        refine Goes.via (S' := (T234.setTop (mkF m 319 #[.val (.int p0), .val (.int p1), .val (.int p2), .val (.int p3), .val (.int kk), .val (.int ss), .val (.int cc), .val (.ref b208), .unset, .unset, .unset, .unset] [(.int (0 : Int32)), (.int p1), (.int (4 : Int32)), (.ref b218), (.ref b218)]))) (fun t k => XS.iconst X234.here hx rfl (hb hby at_318) k) ?_
        obtain ⟨_, _, ⟨T237, L237, k237, n237⟩, -, X237, ⟨Lc237, hQ237, l237, y237, z237⟩, st237⟩ := Jvm.LawKit.callS X234 hx (y := (⟨"com/example/parsewright/parsewright/generator/ScannerAutomatonNextPinLaw", "e", "(II)I"⟩ : MethodName)) hown (mvT hZ (hw _ (List.mem_of_getElem? (i := 1) rfl))) (mvT hZ (hw _ (List.mem_of_getElem? (i := 2) rfl))) (mvT hZ (hw _ (List.mem_of_getElem? (i := 3) rfl))) (mvT hZ (hw _ (List.mem_of_getElem? (i := 4) rfl))) (by decide) (backOf (W := 3) (rm1 l Z a0 hw [] p1 (0 : Int32) h234 n0 Z234 ) hZ (hw _ (List.mem_of_getElem? (i := 4) rfl)) (hw _ (List.mem_of_getElem? (i := 3) rfl)) (by decide) (by decide)) (g := (mkF m 319 #[.val (.int p0), .val (.int p1), .val (.int p2), .val (.int p3), .val (.int kk), .val (.int ss), .val (.int cc), .val (.ref b208), .unset, .unset, .unset, .unset] [(.int (0 : Int32)), (.int p1), (.int (4 : Int32)), (.ref b218), (.ref b218)])) rfl (by rw [hml]; rfl) (argsL := [(.int p1), (.int (0 : Int32))]) (rest := [(.int (4 : Int32)), (.ref b218), (.ref b218)]) (lenOf pd_0 rfl) rfl (by show 2 * 0 + _ ≤ _; exact Nat.le_of_eq rfl) (hb hby at_319) (fun _ _ => ⟨rfl, e234, (by decide : 2 + 0 ≤ _), (by decide : 16 + 0 ≤ _)⟩)
        dsimp only [Pt.U, Pt.locs, Pt.cells, Pt.slots] at X237 l237 y237 z237 st237 hQ237
        replace X237 := own_cast X237 l237 y237 z237
        obtain ⟨rfl, N237q, eq237⟩ := hQ237
        have N237 := Fr.app N234 N237q
        refine Goes.via (S' := (T237.setTop (mkF m 322 #[.val (.int p0), .val (.int p1), .val (.int p2), .val (.int p3), .val (.int kk), .val (.int ss), .val (.int cc), .val (.ref b208), .unset, .unset, .unset, .unset] [(.int (own_e p1 (0 : Int32))), (.int (4 : Int32)), (.ref b218), (.ref b218)]))) (fun t k => st237 _ k) ?_
        obtain ⟨cl238, Ar238, q238, S238, M238, Hs238, G238⟩ := id f236
        have hin238 : ¬ ((4 : Int32) < 0 ∨ cl238.slots.size ≤ ((4 : Int32)).toNatClampNeg) := inb_of S238 ⟨by decide, by decide⟩
        obtain ⟨T238, h238, X238, e238, W238, st238⟩ := stI X237 hx hZ eq237 Ar238 (j := (4 : Int32)) hin238 (g := (mkF m 322 #[.val (.int p0), .val (.int p1), .val (.int p2), .val (.int p3), .val (.int kk), .val (.int ss), .val (.int cc), .val (.ref b208), .unset, .unset, .unset, .unset] [(.int (own_e p1 (0 : Int32))), (.int (4 : Int32)), (.ref b218), (.ref b218)])) rfl rfl (hb hby at_322)
        have f239 : Arv Z h238 b208 k208 .int (4 : Int32) [(.int (0 : Int32)), (.int (10 : Int32)), (.int (20 : Int32)), (.int (30 : Int32))] (.int (0 : Int32)) := f235.other W238 ne_b208_b218
        have f240 : Arv Z h238 b218 k218 .int (12 : Int32) [(.int (own_e p0 (0 : Int32))), (.int (own_e p0 (1 : Int32))), (.int (own_e p0 (2 : Int32))), (.int (own_e p0 (3 : Int32))), (.int (own_e p1 (0 : Int32))), (.int (0 : Int32)), (.int (0 : Int32)), (.int (0 : Int32)), (.int (0 : Int32)), (.int (0 : Int32)), (.int (0 : Int32)), (.int (0 : Int32))] (.int (0 : Int32)) := Arv.set Ar238 q238 S238 M238 Hs238 G238 rfl W238 4 rfl (Nat.le_of_ble_eq_true rfl)
        have K238 : Keep h0 h238 [] := Keep.wr K234 W238 (Or.inr sz_b218)
        have Z238 : n0 ≤ h238.size := Nat.le_trans Z0 K238.1
        have N238 := Fr.snoc X238 N237 g_b218
        refine Goes.via (S' := (T238.setTop (mkF m 323 #[.val (.int p0), .val (.int p1), .val (.int p2), .val (.int p3), .val (.int kk), .val (.int ss), .val (.int cc), .val (.ref b208), .unset, .unset, .unset, .unset] [(.ref b218)]))) (fun t k => st238 _ k) ?_
        refine Goes.via (S' := (T238.setTop (mkF m 324 #[.val (.int p0), .val (.int p1), .val (.int p2), .val (.int p3), .val (.int kk), .val (.int ss), .val (.int cc), .val (.ref b208), .unset, .unset, .unset, .unset] [(.ref b218), (.ref b218)]))) (fun t k => XS.dup X238.here hx rfl (hb hby at_323) rfl rfl k) ?_
        refine Goes.via (S' := (T238.setTop (mkF m 325 #[.val (.int p0), .val (.int p1), .val (.int p2), .val (.int p3), .val (.int kk), .val (.int ss), .val (.int cc), .val (.ref b208), .unset, .unset, .unset, .unset] [(.int (5 : Int32)), (.ref b218), (.ref b218)]))) (fun t k => XS.iconst X238.here hx rfl (hb hby at_324) k) ?_
        refine Goes.via (S' := (T238.setTop (mkF m 326 #[.val (.int p0), .val (.int p1), .val (.int p2), .val (.int p3), .val (.int kk), .val (.int ss), .val (.int cc), .val (.ref b208), .unset, .unset, .unset, .unset] [(.int p1), (.int (5 : Int32)), (.ref b218), (.ref b218)]))) (fun t k => XS.iloadN X238.here hx rfl (hb hby at_325) rfl k) ?_
        refine Goes.via (S' := (T238.setTop (mkF m 327 #[.val (.int p0), .val (.int p1), .val (.int p2), .val (.int p3), .val (.int kk), .val (.int ss), .val (.int cc), .val (.ref b208), .unset, .unset, .unset, .unset] [(.int (1 : Int32)), (.int p1), (.int (5 : Int32)), (.ref b218), (.ref b218)]))) (fun t k => XS.iconst X238.here hx rfl (hb hby at_326) k) ?_
        obtain ⟨_, _, ⟨T241, L241, k241, n241⟩, -, X241, ⟨Lc241, hQ241, l241, y241, z241⟩, st241⟩ := Jvm.LawKit.callS X238 hx (y := (⟨"com/example/parsewright/parsewright/generator/ScannerAutomatonNextPinLaw", "e", "(II)I"⟩ : MethodName)) hown (mvT hZ (hw _ (List.mem_of_getElem? (i := 1) rfl))) (mvT hZ (hw _ (List.mem_of_getElem? (i := 2) rfl))) (mvT hZ (hw _ (List.mem_of_getElem? (i := 3) rfl))) (mvT hZ (hw _ (List.mem_of_getElem? (i := 4) rfl))) (by decide) (backOf (W := 3) (rm1 l Z a0 hw [] p1 (1 : Int32) h238 n0 Z238 ) hZ (hw _ (List.mem_of_getElem? (i := 4) rfl)) (hw _ (List.mem_of_getElem? (i := 3) rfl)) (by decide) (by decide)) (g := (mkF m 327 #[.val (.int p0), .val (.int p1), .val (.int p2), .val (.int p3), .val (.int kk), .val (.int ss), .val (.int cc), .val (.ref b208), .unset, .unset, .unset, .unset] [(.int (1 : Int32)), (.int p1), (.int (5 : Int32)), (.ref b218), (.ref b218)])) rfl (by rw [hml]; rfl) (argsL := [(.int p1), (.int (1 : Int32))]) (rest := [(.int (5 : Int32)), (.ref b218), (.ref b218)]) (lenOf pd_0 rfl) rfl (by show 2 * 0 + _ ≤ _; exact Nat.le_of_eq rfl) (hb hby at_327) (fun _ _ => ⟨rfl, e238, (by decide : 2 + 0 ≤ _), (by decide : 16 + 0 ≤ _)⟩)
        dsimp only [Pt.U, Pt.locs, Pt.cells, Pt.slots] at X241 l241 y241 z241 st241 hQ241
        replace X241 := own_cast X241 l241 y241 z241
        obtain ⟨rfl, N241q, eq241⟩ := hQ241
        have N241 := Fr.app N238 N241q
        refine Goes.via (S' := (T241.setTop (mkF m 330 #[.val (.int p0), .val (.int p1), .val (.int p2), .val (.int p3), .val (.int kk), .val (.int ss), .val (.int cc), .val (.ref b208), .unset, .unset, .unset, .unset] [(.int (own_e p1 (1 : Int32))), (.int (5 : Int32)), (.ref b218), (.ref b218)]))) (fun t k => st241 _ k) ?_
        obtain ⟨cl242, Ar242, q242, S242, M242, Hs242, G242⟩ := id f240
        have hin242 : ¬ ((5 : Int32) < 0 ∨ cl242.slots.size ≤ ((5 : Int32)).toNatClampNeg) := inb_of S242 ⟨by decide, by decide⟩
        obtain ⟨T242, h242, X242, e242, W242, st242⟩ := stI X241 hx hZ eq241 Ar242 (j := (5 : Int32)) hin242 (g := (mkF m 330 #[.val (.int p0), .val (.int p1), .val (.int p2), .val (.int p3), .val (.int kk), .val (.int ss), .val (.int cc), .val (.ref b208), .unset, .unset, .unset, .unset] [(.int (own_e p1 (1 : Int32))), (.int (5 : Int32)), (.ref b218), (.ref b218)])) rfl rfl (hb hby at_330)
        have f243 : Arv Z h242 b208 k208 .int (4 : Int32) [(.int (0 : Int32)), (.int (10 : Int32)), (.int (20 : Int32)), (.int (30 : Int32))] (.int (0 : Int32)) := f239.other W242 ne_b208_b218
        have f244 : Arv Z h242 b218 k218 .int (12 : Int32) [(.int (own_e p0 (0 : Int32))), (.int (own_e p0 (1 : Int32))), (.int (own_e p0 (2 : Int32))), (.int (own_e p0 (3 : Int32))), (.int (own_e p1 (0 : Int32))), (.int (own_e p1 (1 : Int32))), (.int (0 : Int32)), (.int (0 : Int32)), (.int (0 : Int32)), (.int (0 : Int32)), (.int (0 : Int32)), (.int (0 : Int32))] (.int (0 : Int32)) := Arv.set Ar242 q242 S242 M242 Hs242 G242 rfl W242 5 rfl (Nat.le_of_ble_eq_true rfl)
        have K242 : Keep h0 h242 [] := Keep.wr K238 W242 (Or.inr sz_b218)
        have Z242 : n0 ≤ h242.size := Nat.le_trans Z0 K242.1
        have N242 := Fr.snoc X242 N241 g_b218
        refine Goes.via (S' := (T242.setTop (mkF m 331 #[.val (.int p0), .val (.int p1), .val (.int p2), .val (.int p3), .val (.int kk), .val (.int ss), .val (.int cc), .val (.ref b208), .unset, .unset, .unset, .unset] [(.ref b218)]))) (fun t k => st242 _ k) ?_
        refine Goes.via (S' := (T242.setTop (mkF m 332 #[.val (.int p0), .val (.int p1), .val (.int p2), .val (.int p3), .val (.int kk), .val (.int ss), .val (.int cc), .val (.ref b208), .unset, .unset, .unset, .unset] [(.ref b218), (.ref b218)]))) (fun t k => XS.dup X242.here hx rfl (hb hby at_331) rfl rfl k) ?_
        refine Goes.via (S' := (T242.setTop (mkF m 334 #[.val (.int p0), .val (.int p1), .val (.int p2), .val (.int p3), .val (.int kk), .val (.int ss), .val (.int cc), .val (.ref b208), .unset, .unset, .unset, .unset] [(.int (6 : Int32)), (.ref b218), (.ref b218)]))) (fun t k => XS.bipush X242.here hx rfl (hb hby at_332) k) ?_
        refine Goes.via (S' := (T242.setTop (mkF m 335 #[.val (.int p0), .val (.int p1), .val (.int p2), .val (.int p3), .val (.int kk), .val (.int ss), .val (.int cc), .val (.ref b208), .unset, .unset, .unset, .unset] [(.int p1), (.int (6 : Int32)), (.ref b218), (.ref b218)]))) (fun t k => XS.iloadN X242.here hx rfl (hb hby at_334) rfl k) ?_
        refine Goes.via (S' := (T242.setTop (mkF m 336 #[.val (.int p0), .val (.int p1), .val (.int p2), .val (.int p3), .val (.int kk), .val (.int ss), .val (.int cc), .val (.ref b208), .unset, .unset, .unset, .unset] [(.int (2 : Int32)), (.int p1), (.int (6 : Int32)), (.ref b218), (.ref b218)]))) (fun t k => XS.iconst X242.here hx rfl (hb hby at_335) k) ?_
        obtain ⟨_, _, ⟨T245, L245, k245, n245⟩, -, X245, ⟨Lc245, hQ245, l245, y245, z245⟩, st245⟩ := Jvm.LawKit.callS X242 hx (y := (⟨"com/example/parsewright/parsewright/generator/ScannerAutomatonNextPinLaw", "e", "(II)I"⟩ : MethodName)) hown (mvT hZ (hw _ (List.mem_of_getElem? (i := 1) rfl))) (mvT hZ (hw _ (List.mem_of_getElem? (i := 2) rfl))) (mvT hZ (hw _ (List.mem_of_getElem? (i := 3) rfl))) (mvT hZ (hw _ (List.mem_of_getElem? (i := 4) rfl))) (by decide) (backOf (W := 3) (rm1 l Z a0 hw [] p1 (2 : Int32) h242 n0 Z242 ) hZ (hw _ (List.mem_of_getElem? (i := 4) rfl)) (hw _ (List.mem_of_getElem? (i := 3) rfl)) (by decide) (by decide)) (g := (mkF m 336 #[.val (.int p0), .val (.int p1), .val (.int p2), .val (.int p3), .val (.int kk), .val (.int ss), .val (.int cc), .val (.ref b208), .unset, .unset, .unset, .unset] [(.int (2 : Int32)), (.int p1), (.int (6 : Int32)), (.ref b218), (.ref b218)])) rfl (by rw [hml]; rfl) (argsL := [(.int p1), (.int (2 : Int32))]) (rest := [(.int (6 : Int32)), (.ref b218), (.ref b218)]) (lenOf pd_0 rfl) rfl (by show 2 * 0 + _ ≤ _; exact Nat.le_of_eq rfl) (hb hby at_336) (fun _ _ => ⟨rfl, e242, (by decide : 2 + 0 ≤ _), (by decide : 16 + 0 ≤ _)⟩)
        dsimp only [Pt.U, Pt.locs, Pt.cells, Pt.slots] at X245 l245 y245 z245 st245 hQ245
        replace X245 := own_cast X245 l245 y245 z245
        obtain ⟨rfl, N245q, eq245⟩ := hQ245
        have N245 := Fr.app N242 N245q
        refine Goes.via (S' := (T245.setTop (mkF m 339 #[.val (.int p0), .val (.int p1), .val (.int p2), .val (.int p3), .val (.int kk), .val (.int ss), .val (.int cc), .val (.ref b208), .unset, .unset, .unset, .unset] [(.int (own_e p1 (2 : Int32))), (.int (6 : Int32)), (.ref b218), (.ref b218)]))) (fun t k => st245 _ k) ?_
        obtain ⟨cl246, Ar246, q246, S246, M246, Hs246, G246⟩ := id f244
        have hin246 : ¬ ((6 : Int32) < 0 ∨ cl246.slots.size ≤ ((6 : Int32)).toNatClampNeg) := inb_of S246 ⟨by decide, by decide⟩
        obtain ⟨T246, h246, X246, e246, W246, st246⟩ := stI X245 hx hZ eq245 Ar246 (j := (6 : Int32)) hin246 (g := (mkF m 339 #[.val (.int p0), .val (.int p1), .val (.int p2), .val (.int p3), .val (.int kk), .val (.int ss), .val (.int cc), .val (.ref b208), .unset, .unset, .unset, .unset] [(.int (own_e p1 (2 : Int32))), (.int (6 : Int32)), (.ref b218), (.ref b218)])) rfl rfl (hb hby at_339)
        have f247 : Arv Z h246 b208 k208 .int (4 : Int32) [(.int (0 : Int32)), (.int (10 : Int32)), (.int (20 : Int32)), (.int (30 : Int32))] (.int (0 : Int32)) := f243.other W246 ne_b208_b218
        have f248 : Arv Z h246 b218 k218 .int (12 : Int32) [(.int (own_e p0 (0 : Int32))), (.int (own_e p0 (1 : Int32))), (.int (own_e p0 (2 : Int32))), (.int (own_e p0 (3 : Int32))), (.int (own_e p1 (0 : Int32))), (.int (own_e p1 (1 : Int32))), (.int (own_e p1 (2 : Int32))), (.int (0 : Int32)), (.int (0 : Int32)), (.int (0 : Int32)), (.int (0 : Int32)), (.int (0 : Int32))] (.int (0 : Int32)) := Arv.set Ar246 q246 S246 M246 Hs246 G246 rfl W246 6 rfl (Nat.le_of_ble_eq_true rfl)
        have K246 : Keep h0 h246 [] := Keep.wr K242 W246 (Or.inr sz_b218)
        have Z246 : n0 ≤ h246.size := Nat.le_trans Z0 K246.1
        have N246 := Fr.snoc X246 N245 g_b218
        refine Goes.via (S' := (T246.setTop (mkF m 340 #[.val (.int p0), .val (.int p1), .val (.int p2), .val (.int p3), .val (.int kk), .val (.int ss), .val (.int cc), .val (.ref b208), .unset, .unset, .unset, .unset] [(.ref b218)]))) (fun t k => st246 _ k) ?_
        refine Goes.via (S' := (T246.setTop (mkF m 341 #[.val (.int p0), .val (.int p1), .val (.int p2), .val (.int p3), .val (.int kk), .val (.int ss), .val (.int cc), .val (.ref b208), .unset, .unset, .unset, .unset] [(.ref b218), (.ref b218)]))) (fun t k => XS.dup X246.here hx rfl (hb hby at_340) rfl rfl k) ?_
        refine Goes.via (S' := (T246.setTop (mkF m 343 #[.val (.int p0), .val (.int p1), .val (.int p2), .val (.int p3), .val (.int kk), .val (.int ss), .val (.int cc), .val (.ref b208), .unset, .unset, .unset, .unset] [(.int (7 : Int32)), (.ref b218), (.ref b218)]))) (fun t k => XS.bipush X246.here hx rfl (hb hby at_341) k) ?_
        refine Goes.via (S' := (T246.setTop (mkF m 344 #[.val (.int p0), .val (.int p1), .val (.int p2), .val (.int p3), .val (.int kk), .val (.int ss), .val (.int cc), .val (.ref b208), .unset, .unset, .unset, .unset] [(.int p1), (.int (7 : Int32)), (.ref b218), (.ref b218)]))) (fun t k => XS.iloadN X246.here hx rfl (hb hby at_343) rfl k) ?_
        refine Goes.via (S' := (T246.setTop (mkF m 345 #[.val (.int p0), .val (.int p1), .val (.int p2), .val (.int p3), .val (.int kk), .val (.int ss), .val (.int cc), .val (.ref b208), .unset, .unset, .unset, .unset] [(.int (3 : Int32)), (.int p1), (.int (7 : Int32)), (.ref b218), (.ref b218)]))) (fun t k => XS.iconst X246.here hx rfl (hb hby at_344) k) ?_
        obtain ⟨_, _, ⟨T249, L249, k249, n249⟩, -, X249, ⟨Lc249, hQ249, l249, y249, z249⟩, st249⟩ := Jvm.LawKit.callS X246 hx (y := (⟨"com/example/parsewright/parsewright/generator/ScannerAutomatonNextPinLaw", "e", "(II)I"⟩ : MethodName)) hown (mvT hZ (hw _ (List.mem_of_getElem? (i := 1) rfl))) (mvT hZ (hw _ (List.mem_of_getElem? (i := 2) rfl))) (mvT hZ (hw _ (List.mem_of_getElem? (i := 3) rfl))) (mvT hZ (hw _ (List.mem_of_getElem? (i := 4) rfl))) (by decide) (backOf (W := 3) (rm1 l Z a0 hw [] p1 (3 : Int32) h246 n0 Z246 ) hZ (hw _ (List.mem_of_getElem? (i := 4) rfl)) (hw _ (List.mem_of_getElem? (i := 3) rfl)) (by decide) (by decide)) (g := (mkF m 345 #[.val (.int p0), .val (.int p1), .val (.int p2), .val (.int p3), .val (.int kk), .val (.int ss), .val (.int cc), .val (.ref b208), .unset, .unset, .unset, .unset] [(.int (3 : Int32)), (.int p1), (.int (7 : Int32)), (.ref b218), (.ref b218)])) rfl (by rw [hml]; rfl) (argsL := [(.int p1), (.int (3 : Int32))]) (rest := [(.int (7 : Int32)), (.ref b218), (.ref b218)]) (lenOf pd_0 rfl) rfl (by show 2 * 0 + _ ≤ _; exact Nat.le_of_eq rfl) (hb hby at_345) (fun _ _ => ⟨rfl, e246, (by decide : 2 + 0 ≤ _), (by decide : 16 + 0 ≤ _)⟩)
        dsimp only [Pt.U, Pt.locs, Pt.cells, Pt.slots] at X249 l249 y249 z249 st249 hQ249
        replace X249 := own_cast X249 l249 y249 z249
        obtain ⟨rfl, N249q, eq249⟩ := hQ249
        have N249 := Fr.app N246 N249q
        refine Goes.via (S' := (T249.setTop (mkF m 348 #[.val (.int p0), .val (.int p1), .val (.int p2), .val (.int p3), .val (.int kk), .val (.int ss), .val (.int cc), .val (.ref b208), .unset, .unset, .unset, .unset] [(.int (own_e p1 (3 : Int32))), (.int (7 : Int32)), (.ref b218), (.ref b218)]))) (fun t k => st249 _ k) ?_
        obtain ⟨cl250, Ar250, q250, S250, M250, Hs250, G250⟩ := id f248
        have hin250 : ¬ ((7 : Int32) < 0 ∨ cl250.slots.size ≤ ((7 : Int32)).toNatClampNeg) := inb_of S250 ⟨by decide, by decide⟩
        obtain ⟨T250, h250, X250, e250, W250, st250⟩ := stI X249 hx hZ eq249 Ar250 (j := (7 : Int32)) hin250 (g := (mkF m 348 #[.val (.int p0), .val (.int p1), .val (.int p2), .val (.int p3), .val (.int kk), .val (.int ss), .val (.int cc), .val (.ref b208), .unset, .unset, .unset, .unset] [(.int (own_e p1 (3 : Int32))), (.int (7 : Int32)), (.ref b218), (.ref b218)])) rfl rfl (hb hby at_348)
        have f251 : Arv Z h250 b208 k208 .int (4 : Int32) [(.int (0 : Int32)), (.int (10 : Int32)), (.int (20 : Int32)), (.int (30 : Int32))] (.int (0 : Int32)) := f247.other W250 ne_b208_b218
        have f252 : Arv Z h250 b218 k218 .int (12 : Int32) [(.int (own_e p0 (0 : Int32))), (.int (own_e p0 (1 : Int32))), (.int (own_e p0 (2 : Int32))), (.int (own_e p0 (3 : Int32))), (.int (own_e p1 (0 : Int32))), (.int (own_e p1 (1 : Int32))), (.int (own_e p1 (2 : Int32))), (.int (own_e p1 (3 : Int32))), (.int (0 : Int32)), (.int (0 : Int32)), (.int (0 : Int32)), (.int (0 : Int32))] (.int (0 : Int32)) := Arv.set Ar250 q250 S250 M250 Hs250 G250 rfl W250 7 rfl (Nat.le_of_ble_eq_true rfl)
        have K250 : Keep h0 h250 [] := Keep.wr K246 W250 (Or.inr sz_b218)
        have Z250 : n0 ≤ h250.size := Nat.le_trans Z0 K250.1
        have N250 := Fr.snoc X250 N249 g_b218
        refine Goes.via (S' := (T250.setTop (mkF m 349 #[.val (.int p0), .val (.int p1), .val (.int p2), .val (.int p3), .val (.int kk), .val (.int ss), .val (.int cc), .val (.ref b208), .unset, .unset, .unset, .unset] [(.ref b218)]))) (fun t k => st250 _ k) ?_
        refine Goes.via (S' := (T250.setTop (mkF m 350 #[.val (.int p0), .val (.int p1), .val (.int p2), .val (.int p3), .val (.int kk), .val (.int ss), .val (.int cc), .val (.ref b208), .unset, .unset, .unset, .unset] [(.ref b218), (.ref b218)]))) (fun t k => XS.dup X250.here hx rfl (hb hby at_349) rfl rfl k) ?_
        refine Goes.via (S' := (T250.setTop (mkF m 352 #[.val (.int p0), .val (.int p1), .val (.int p2), .val (.int p3), .val (.int kk), .val (.int ss), .val (.int cc), .val (.ref b208), .unset, .unset, .unset, .unset] [(.int (8 : Int32)), (.ref b218), (.ref b218)]))) (fun t k => XS.bipush X250.here hx rfl (hb hby at_350) k) ?_
        refine Goes.via (S' := (T250.setTop (mkF m 353 #[.val (.int p0), .val (.int p1), .val (.int p2), .val (.int p3), .val (.int kk), .val (.int ss), .val (.int cc), .val (.ref b208), .unset, .unset, .unset, .unset] [(.int p2), (.int (8 : Int32)), (.ref b218), (.ref b218)]))) (fun t k => XS.iloadN X250.here hx rfl (hb hby at_352) rfl k) ?_
        refine Goes.via (S' := (T250.setTop (mkF m 354 #[.val (.int p0), .val (.int p1), .val (.int p2), .val (.int p3), .val (.int kk), .val (.int ss), .val (.int cc), .val (.ref b208), .unset, .unset, .unset, .unset] [(.int (0 : Int32)), (.int p2), (.int (8 : Int32)), (.ref b218), (.ref b218)]))) (fun t k => XS.iconst X250.here hx rfl (hb hby at_353) k) ?_
        obtain ⟨_, _, ⟨T253, L253, k253, n253⟩, -, X253, ⟨Lc253, hQ253, l253, y253, z253⟩, st253⟩ := Jvm.LawKit.callS X250 hx (y := (⟨"com/example/parsewright/parsewright/generator/ScannerAutomatonNextPinLaw", "e", "(II)I"⟩ : MethodName)) hown (mvT hZ (hw _ (List.mem_of_getElem? (i := 1) rfl))) (mvT hZ (hw _ (List.mem_of_getElem? (i := 2) rfl))) (mvT hZ (hw _ (List.mem_of_getElem? (i := 3) rfl))) (mvT hZ (hw _ (List.mem_of_getElem? (i := 4) rfl))) (by decide) (backOf (W := 3) (rm1 l Z a0 hw [] p2 (0 : Int32) h250 n0 Z250 ) hZ (hw _ (List.mem_of_getElem? (i := 4) rfl)) (hw _ (List.mem_of_getElem? (i := 3) rfl)) (by decide) (by decide)) (g := (mkF m 354 #[.val (.int p0), .val (.int p1), .val (.int p2), .val (.int p3), .val (.int kk), .val (.int ss), .val (.int cc), .val (.ref b208), .unset, .unset, .unset, .unset] [(.int (0 : Int32)), (.int p2), (.int (8 : Int32)), (.ref b218), (.ref b218)])) rfl (by rw [hml]; rfl) (argsL := [(.int p2), (.int (0 : Int32))]) (rest := [(.int (8 : Int32)), (.ref b218), (.ref b218)]) (lenOf pd_0 rfl) rfl (by show 2 * 0 + _ ≤ _; exact Nat.le_of_eq rfl) (hb hby at_354) (fun _ _ => ⟨rfl, e250, (by decide : 2 + 0 ≤ _), (by decide : 16 + 0 ≤ _)⟩)
        dsimp only [Pt.U, Pt.locs, Pt.cells, Pt.slots] at X253 l253 y253 z253 st253 hQ253
        replace X253 := own_cast X253 l253 y253 z253
        obtain ⟨rfl, N253q, eq253⟩ := hQ253
        have N253 := Fr.app N250 N253q
        refine Goes.via (S' := (T253.setTop (mkF m 357 #[.val (.int p0), .val (.int p1), .val (.int p2), .val (.int p3), .val (.int kk), .val (.int ss), .val (.int cc), .val (.ref b208), .unset, .unset, .unset, .unset] [(.int (own_e p2 (0 : Int32))), (.int (8 : Int32)), (.ref b218), (.ref b218)]))) (fun t k => st253 _ k) ?_
        obtain ⟨cl254, Ar254, q254, S254, M254, Hs254, G254⟩ := id f252
        have hin254 : ¬ ((8 : Int32) < 0 ∨ cl254.slots.size ≤ ((8 : Int32)).toNatClampNeg) := inb_of S254 ⟨by decide, by decide⟩
        obtain ⟨T254, h254, X254, e254, W254, st254⟩ := stI X253 hx hZ eq253 Ar254 (j := (8 : Int32)) hin254 (g := (mkF m 357 #[.val (.int p0), .val (.int p1), .val (.int p2), .val (.int p3), .val (.int kk), .val (.int ss), .val (.int cc), .val (.ref b208), .unset, .unset, .unset, .unset] [(.int (own_e p2 (0 : Int32))), (.int (8 : Int32)), (.ref b218), (.ref b218)])) rfl rfl (hb hby at_357)
        have f255 : Arv Z h254 b208 k208 .int (4 : Int32) [(.int (0 : Int32)), (.int (10 : Int32)), (.int (20 : Int32)), (.int (30 : Int32))] (.int (0 : Int32)) := f251.other W254 ne_b208_b218
        have f256 : Arv Z h254 b218 k218 .int (12 : Int32) [(.int (own_e p0 (0 : Int32))), (.int (own_e p0 (1 : Int32))), (.int (own_e p0 (2 : Int32))), (.int (own_e p0 (3 : Int32))), (.int (own_e p1 (0 : Int32))), (.int (own_e p1 (1 : Int32))), (.int (own_e p1 (2 : Int32))), (.int (own_e p1 (3 : Int32))), (.int (own_e p2 (0 : Int32))), (.int (0 : Int32)), (.int (0 : Int32)), (.int (0 : Int32))] (.int (0 : Int32)) := Arv.set Ar254 q254 S254 M254 Hs254 G254 rfl W254 8 rfl (Nat.le_of_ble_eq_true rfl)
        have K254 : Keep h0 h254 [] := Keep.wr K250 W254 (Or.inr sz_b218)
        have Z254 : n0 ≤ h254.size := Nat.le_trans Z0 K254.1
        have N254 := Fr.snoc X254 N253 g_b218
        refine Goes.via (S' := (T254.setTop (mkF m 358 #[.val (.int p0), .val (.int p1), .val (.int p2), .val (.int p3), .val (.int kk), .val (.int ss), .val (.int cc), .val (.ref b208), .unset, .unset, .unset, .unset] [(.ref b218)]))) (fun t k => st254 _ k) ?_
        refine Goes.via (S' := (T254.setTop (mkF m 359 #[.val (.int p0), .val (.int p1), .val (.int p2), .val (.int p3), .val (.int kk), .val (.int ss), .val (.int cc), .val (.ref b208), .unset, .unset, .unset, .unset] [(.ref b218), (.ref b218)]))) (fun t k => XS.dup X254.here hx rfl (hb hby at_358) rfl rfl k) ?_
        refine Goes.via (S' := (T254.setTop (mkF m 361 #[.val (.int p0), .val (.int p1), .val (.int p2), .val (.int p3), .val (.int kk), .val (.int ss), .val (.int cc), .val (.ref b208), .unset, .unset, .unset, .unset] [(.int (9 : Int32)), (.ref b218), (.ref b218)]))) (fun t k => XS.bipush X254.here hx rfl (hb hby at_359) k) ?_
        refine Goes.via (S' := (T254.setTop (mkF m 362 #[.val (.int p0), .val (.int p1), .val (.int p2), .val (.int p3), .val (.int kk), .val (.int ss), .val (.int cc), .val (.ref b208), .unset, .unset, .unset, .unset] [(.int p2), (.int (9 : Int32)), (.ref b218), (.ref b218)]))) (fun t k => XS.iloadN X254.here hx rfl (hb hby at_361) rfl k) ?_
        refine Goes.via (S' := (T254.setTop (mkF m 363 #[.val (.int p0), .val (.int p1), .val (.int p2), .val (.int p3), .val (.int kk), .val (.int ss), .val (.int cc), .val (.ref b208), .unset, .unset, .unset, .unset] [(.int (1 : Int32)), (.int p2), (.int (9 : Int32)), (.ref b218), (.ref b218)]))) (fun t k => XS.iconst X254.here hx rfl (hb hby at_362) k) ?_
        obtain ⟨_, _, ⟨T257, L257, k257, n257⟩, -, X257, ⟨Lc257, hQ257, l257, y257, z257⟩, st257⟩ := Jvm.LawKit.callS X254 hx (y := (⟨"com/example/parsewright/parsewright/generator/ScannerAutomatonNextPinLaw", "e", "(II)I"⟩ : MethodName)) hown (mvT hZ (hw _ (List.mem_of_getElem? (i := 1) rfl))) (mvT hZ (hw _ (List.mem_of_getElem? (i := 2) rfl))) (mvT hZ (hw _ (List.mem_of_getElem? (i := 3) rfl))) (mvT hZ (hw _ (List.mem_of_getElem? (i := 4) rfl))) (by decide) (backOf (W := 3) (rm1 l Z a0 hw [] p2 (1 : Int32) h254 n0 Z254 ) hZ (hw _ (List.mem_of_getElem? (i := 4) rfl)) (hw _ (List.mem_of_getElem? (i := 3) rfl)) (by decide) (by decide)) (g := (mkF m 363 #[.val (.int p0), .val (.int p1), .val (.int p2), .val (.int p3), .val (.int kk), .val (.int ss), .val (.int cc), .val (.ref b208), .unset, .unset, .unset, .unset] [(.int (1 : Int32)), (.int p2), (.int (9 : Int32)), (.ref b218), (.ref b218)])) rfl (by rw [hml]; rfl) (argsL := [(.int p2), (.int (1 : Int32))]) (rest := [(.int (9 : Int32)), (.ref b218), (.ref b218)]) (lenOf pd_0 rfl) rfl (by show 2 * 0 + _ ≤ _; exact Nat.le_of_eq rfl) (hb hby at_363) (fun _ _ => ⟨rfl, e254, (by decide : 2 + 0 ≤ _), (by decide : 16 + 0 ≤ _)⟩)
        dsimp only [Pt.U, Pt.locs, Pt.cells, Pt.slots] at X257 l257 y257 z257 st257 hQ257
        replace X257 := own_cast X257 l257 y257 z257
        obtain ⟨rfl, N257q, eq257⟩ := hQ257
        have N257 := Fr.app N254 N257q
        refine Goes.via (S' := (T257.setTop (mkF m 366 #[.val (.int p0), .val (.int p1), .val (.int p2), .val (.int p3), .val (.int kk), .val (.int ss), .val (.int cc), .val (.ref b208), .unset, .unset, .unset, .unset] [(.int (own_e p2 (1 : Int32))), (.int (9 : Int32)), (.ref b218), (.ref b218)]))) (fun t k => st257 _ k) ?_
        obtain ⟨cl258, Ar258, q258, S258, M258, Hs258, G258⟩ := id f256
        have hin258 : ¬ ((9 : Int32) < 0 ∨ cl258.slots.size ≤ ((9 : Int32)).toNatClampNeg) := inb_of S258 ⟨by decide, by decide⟩
        obtain ⟨T258, h258, X258, e258, W258, st258⟩ := stI X257 hx hZ eq257 Ar258 (j := (9 : Int32)) hin258 (g := (mkF m 366 #[.val (.int p0), .val (.int p1), .val (.int p2), .val (.int p3), .val (.int kk), .val (.int ss), .val (.int cc), .val (.ref b208), .unset, .unset, .unset, .unset] [(.int (own_e p2 (1 : Int32))), (.int (9 : Int32)), (.ref b218), (.ref b218)])) rfl rfl (hb hby at_366)
        have f259 : Arv Z h258 b208 k208 .int (4 : Int32) [(.int (0 : Int32)), (.int (10 : Int32)), (.int (20 : Int32)), (.int (30 : Int32))] (.int (0 : Int32)) := f255.other W258 ne_b208_b218
        have f260 : Arv Z h258 b218 k218 .int (12 : Int32) [(.int (own_e p0 (0 : Int32))), (.int (own_e p0 (1 : Int32))), (.int (own_e p0 (2 : Int32))), (.int (own_e p0 (3 : Int32))), (.int (own_e p1 (0 : Int32))), (.int (own_e p1 (1 : Int32))), (.int (own_e p1 (2 : Int32))), (.int (own_e p1 (3 : Int32))), (.int (own_e p2 (0 : Int32))), (.int (own_e p2 (1 : Int32))), (.int (0 : Int32)), (.int (0 : Int32))] (.int (0 : Int32)) := Arv.set Ar258 q258 S258 M258 Hs258 G258 rfl W258 9 rfl (Nat.le_of_ble_eq_true rfl)
        have K258 : Keep h0 h258 [] := Keep.wr K254 W258 (Or.inr sz_b218)
        have Z258 : n0 ≤ h258.size := Nat.le_trans Z0 K258.1
        have N258 := Fr.snoc X258 N257 g_b218
        refine Goes.via (S' := (T258.setTop (mkF m 367 #[.val (.int p0), .val (.int p1), .val (.int p2), .val (.int p3), .val (.int kk), .val (.int ss), .val (.int cc), .val (.ref b208), .unset, .unset, .unset, .unset] [(.ref b218)]))) (fun t k => st258 _ k) ?_
        refine Goes.via (S' := (T258.setTop (mkF m 368 #[.val (.int p0), .val (.int p1), .val (.int p2), .val (.int p3), .val (.int kk), .val (.int ss), .val (.int cc), .val (.ref b208), .unset, .unset, .unset, .unset] [(.ref b218), (.ref b218)]))) (fun t k => XS.dup X258.here hx rfl (hb hby at_367) rfl rfl k) ?_
        refine Goes.via (S' := (T258.setTop (mkF m 370 #[.val (.int p0), .val (.int p1), .val (.int p2), .val (.int p3), .val (.int kk), .val (.int ss), .val (.int cc), .val (.ref b208), .unset, .unset, .unset, .unset] [(.int (10 : Int32)), (.ref b218), (.ref b218)]))) (fun t k => XS.bipush X258.here hx rfl (hb hby at_368) k) ?_
        refine Goes.via (S' := (T258.setTop (mkF m 371 #[.val (.int p0), .val (.int p1), .val (.int p2), .val (.int p3), .val (.int kk), .val (.int ss), .val (.int cc), .val (.ref b208), .unset, .unset, .unset, .unset] [(.int p2), (.int (10 : Int32)), (.ref b218), (.ref b218)]))) (fun t k => XS.iloadN X258.here hx rfl (hb hby at_370) rfl k) ?_
        refine Goes.via (S' := (T258.setTop (mkF m 372 #[.val (.int p0), .val (.int p1), .val (.int p2), .val (.int p3), .val (.int kk), .val (.int ss), .val (.int cc), .val (.ref b208), .unset, .unset, .unset, .unset] [(.int (2 : Int32)), (.int p2), (.int (10 : Int32)), (.ref b218), (.ref b218)]))) (fun t k => XS.iconst X258.here hx rfl (hb hby at_371) k) ?_
        obtain ⟨_, _, ⟨T261, L261, k261, n261⟩, -, X261, ⟨Lc261, hQ261, l261, y261, z261⟩, st261⟩ := Jvm.LawKit.callS X258 hx (y := (⟨"com/example/parsewright/parsewright/generator/ScannerAutomatonNextPinLaw", "e", "(II)I"⟩ : MethodName)) hown (mvT hZ (hw _ (List.mem_of_getElem? (i := 1) rfl))) (mvT hZ (hw _ (List.mem_of_getElem? (i := 2) rfl))) (mvT hZ (hw _ (List.mem_of_getElem? (i := 3) rfl))) (mvT hZ (hw _ (List.mem_of_getElem? (i := 4) rfl))) (by decide) (backOf (W := 3) (rm1 l Z a0 hw [] p2 (2 : Int32) h258 n0 Z258 ) hZ (hw _ (List.mem_of_getElem? (i := 4) rfl)) (hw _ (List.mem_of_getElem? (i := 3) rfl)) (by decide) (by decide)) (g := (mkF m 372 #[.val (.int p0), .val (.int p1), .val (.int p2), .val (.int p3), .val (.int kk), .val (.int ss), .val (.int cc), .val (.ref b208), .unset, .unset, .unset, .unset] [(.int (2 : Int32)), (.int p2), (.int (10 : Int32)), (.ref b218), (.ref b218)])) rfl (by rw [hml]; rfl) (argsL := [(.int p2), (.int (2 : Int32))]) (rest := [(.int (10 : Int32)), (.ref b218), (.ref b218)]) (lenOf pd_0 rfl) rfl (by show 2 * 0 + _ ≤ _; exact Nat.le_of_eq rfl) (hb hby at_372) (fun _ _ => ⟨rfl, e258, (by decide : 2 + 0 ≤ _), (by decide : 16 + 0 ≤ _)⟩)
        dsimp only [Pt.U, Pt.locs, Pt.cells, Pt.slots] at X261 l261 y261 z261 st261 hQ261
        replace X261 := own_cast X261 l261 y261 z261
        obtain ⟨rfl, N261q, eq261⟩ := hQ261
        have N261 := Fr.app N258 N261q
        refine Goes.via (S' := (T261.setTop (mkF m 375 #[.val (.int p0), .val (.int p1), .val (.int p2), .val (.int p3), .val (.int kk), .val (.int ss), .val (.int cc), .val (.ref b208), .unset, .unset, .unset, .unset] [(.int (own_e p2 (2 : Int32))), (.int (10 : Int32)), (.ref b218), (.ref b218)]))) (fun t k => st261 _ k) ?_
        obtain ⟨cl262, Ar262, q262, S262, M262, Hs262, G262⟩ := id f260
        have hin262 : ¬ ((10 : Int32) < 0 ∨ cl262.slots.size ≤ ((10 : Int32)).toNatClampNeg) := inb_of S262 ⟨by decide, by decide⟩
        obtain ⟨T262, h262, X262, e262, W262, st262⟩ := stI X261 hx hZ eq261 Ar262 (j := (10 : Int32)) hin262 (g := (mkF m 375 #[.val (.int p0), .val (.int p1), .val (.int p2), .val (.int p3), .val (.int kk), .val (.int ss), .val (.int cc), .val (.ref b208), .unset, .unset, .unset, .unset] [(.int (own_e p2 (2 : Int32))), (.int (10 : Int32)), (.ref b218), (.ref b218)])) rfl rfl (hb hby at_375)
        have f263 : Arv Z h262 b208 k208 .int (4 : Int32) [(.int (0 : Int32)), (.int (10 : Int32)), (.int (20 : Int32)), (.int (30 : Int32))] (.int (0 : Int32)) := f259.other W262 ne_b208_b218
        have f264 : Arv Z h262 b218 k218 .int (12 : Int32) [(.int (own_e p0 (0 : Int32))), (.int (own_e p0 (1 : Int32))), (.int (own_e p0 (2 : Int32))), (.int (own_e p0 (3 : Int32))), (.int (own_e p1 (0 : Int32))), (.int (own_e p1 (1 : Int32))), (.int (own_e p1 (2 : Int32))), (.int (own_e p1 (3 : Int32))), (.int (own_e p2 (0 : Int32))), (.int (own_e p2 (1 : Int32))), (.int (own_e p2 (2 : Int32))), (.int (0 : Int32))] (.int (0 : Int32)) := Arv.set Ar262 q262 S262 M262 Hs262 G262 rfl W262 10 rfl (Nat.le_of_ble_eq_true rfl)
        have K262 : Keep h0 h262 [] := Keep.wr K258 W262 (Or.inr sz_b218)
        have Z262 : n0 ≤ h262.size := Nat.le_trans Z0 K262.1
        have N262 := Fr.snoc X262 N261 g_b218
        refine Goes.via (S' := (T262.setTop (mkF m 376 #[.val (.int p0), .val (.int p1), .val (.int p2), .val (.int p3), .val (.int kk), .val (.int ss), .val (.int cc), .val (.ref b208), .unset, .unset, .unset, .unset] [(.ref b218)]))) (fun t k => st262 _ k) ?_
        refine Goes.via (S' := (T262.setTop (mkF m 377 #[.val (.int p0), .val (.int p1), .val (.int p2), .val (.int p3), .val (.int kk), .val (.int ss), .val (.int cc), .val (.ref b208), .unset, .unset, .unset, .unset] [(.ref b218), (.ref b218)]))) (fun t k => XS.dup X262.here hx rfl (hb hby at_376) rfl rfl k) ?_
        refine Goes.via (S' := (T262.setTop (mkF m 379 #[.val (.int p0), .val (.int p1), .val (.int p2), .val (.int p3), .val (.int kk), .val (.int ss), .val (.int cc), .val (.ref b208), .unset, .unset, .unset, .unset] [(.int (11 : Int32)), (.ref b218), (.ref b218)]))) (fun t k => XS.bipush X262.here hx rfl (hb hby at_377) k) ?_
        refine Goes.via (S' := (T262.setTop (mkF m 380 #[.val (.int p0), .val (.int p1), .val (.int p2), .val (.int p3), .val (.int kk), .val (.int ss), .val (.int cc), .val (.ref b208), .unset, .unset, .unset, .unset] [(.int p2), (.int (11 : Int32)), (.ref b218), (.ref b218)]))) (fun t k => XS.iloadN X262.here hx rfl (hb hby at_379) rfl k) ?_
        refine Goes.via (S' := (T262.setTop (mkF m 381 #[.val (.int p0), .val (.int p1), .val (.int p2), .val (.int p3), .val (.int kk), .val (.int ss), .val (.int cc), .val (.ref b208), .unset, .unset, .unset, .unset] [(.int (3 : Int32)), (.int p2), (.int (11 : Int32)), (.ref b218), (.ref b218)]))) (fun t k => XS.iconst X262.here hx rfl (hb hby at_380) k) ?_
        obtain ⟨_, _, ⟨T265, L265, k265, n265⟩, -, X265, ⟨Lc265, hQ265, l265, y265, z265⟩, st265⟩ := Jvm.LawKit.callS X262 hx (y := (⟨"com/example/parsewright/parsewright/generator/ScannerAutomatonNextPinLaw", "e", "(II)I"⟩ : MethodName)) hown (mvT hZ (hw _ (List.mem_of_getElem? (i := 1) rfl))) (mvT hZ (hw _ (List.mem_of_getElem? (i := 2) rfl))) (mvT hZ (hw _ (List.mem_of_getElem? (i := 3) rfl))) (mvT hZ (hw _ (List.mem_of_getElem? (i := 4) rfl))) (by decide) (backOf (W := 3) (rm1 l Z a0 hw [] p2 (3 : Int32) h262 n0 Z262 ) hZ (hw _ (List.mem_of_getElem? (i := 4) rfl)) (hw _ (List.mem_of_getElem? (i := 3) rfl)) (by decide) (by decide)) (g := (mkF m 381 #[.val (.int p0), .val (.int p1), .val (.int p2), .val (.int p3), .val (.int kk), .val (.int ss), .val (.int cc), .val (.ref b208), .unset, .unset, .unset, .unset] [(.int (3 : Int32)), (.int p2), (.int (11 : Int32)), (.ref b218), (.ref b218)])) rfl (by rw [hml]; rfl) (argsL := [(.int p2), (.int (3 : Int32))]) (rest := [(.int (11 : Int32)), (.ref b218), (.ref b218)]) (lenOf pd_0 rfl) rfl (by show 2 * 0 + _ ≤ _; exact Nat.le_of_eq rfl) (hb hby at_381) (fun _ _ => ⟨rfl, e262, (by decide : 2 + 0 ≤ _), (by decide : 16 + 0 ≤ _)⟩)
        dsimp only [Pt.U, Pt.locs, Pt.cells, Pt.slots] at X265 l265 y265 z265 st265 hQ265
        replace X265 := own_cast X265 l265 y265 z265
        obtain ⟨rfl, N265q, eq265⟩ := hQ265
        have N265 := Fr.app N262 N265q
        refine Goes.via (S' := (T265.setTop (mkF m 384 #[.val (.int p0), .val (.int p1), .val (.int p2), .val (.int p3), .val (.int kk), .val (.int ss), .val (.int cc), .val (.ref b208), .unset, .unset, .unset, .unset] [(.int (own_e p2 (3 : Int32))), (.int (11 : Int32)), (.ref b218), (.ref b218)]))) (fun t k => st265 _ k) ?_
        obtain ⟨cl266, Ar266, q266, S266, M266, Hs266, G266⟩ := id f264
        have hin266 : ¬ ((11 : Int32) < 0 ∨ cl266.slots.size ≤ ((11 : Int32)).toNatClampNeg) := inb_of S266 ⟨by decide, by decide⟩
        obtain ⟨T266, h266, X266, e266, W266, st266⟩ := stI X265 hx hZ eq265 Ar266 (j := (11 : Int32)) hin266 (g := (mkF m 384 #[.val (.int p0), .val (.int p1), .val (.int p2), .val (.int p3), .val (.int kk), .val (.int ss), .val (.int cc), .val (.ref b208), .unset, .unset, .unset, .unset] [(.int (own_e p2 (3 : Int32))), (.int (11 : Int32)), (.ref b218), (.ref b218)])) rfl rfl (hb hby at_384)
        have f267 : Arv Z h266 b208 k208 .int (4 : Int32) [(.int (0 : Int32)), (.int (10 : Int32)), (.int (20 : Int32)), (.int (30 : Int32))] (.int (0 : Int32)) := f263.other W266 ne_b208_b218
        have f268 : Arv Z h266 b218 k218 .int (12 : Int32) [(.int (own_e p0 (0 : Int32))), (.int (own_e p0 (1 : Int32))), (.int (own_e p0 (2 : Int32))), (.int (own_e p0 (3 : Int32))), (.int (own_e p1 (0 : Int32))), (.int (own_e p1 (1 : Int32))), (.int (own_e p1 (2 : Int32))), (.int (own_e p1 (3 : Int32))), (.int (own_e p2 (0 : Int32))), (.int (own_e p2 (1 : Int32))), (.int (own_e p2 (2 : Int32))), (.int (own_e p2 (3 : Int32)))] (.int (0 : Int32)) := Arv.set Ar266 q266 S266 M266 Hs266 G266 rfl W266 11 rfl (Nat.le_of_ble_eq_true rfl)
        have K266 : Keep h0 h266 [] := Keep.wr K262 W266 (Or.inr sz_b218)
        have Z266 : n0 ≤ h266.size := Nat.le_trans Z0 K266.1
        have N266 := Fr.snoc X266 N265 g_b218
        refine Goes.via (S' := (T266.setTop (mkF m 385 #[.val (.int p0), .val (.int p1), .val (.int p2), .val (.int p3), .val (.int kk), .val (.int ss), .val (.int cc), .val (.ref b208), .unset, .unset, .unset, .unset] [(.ref b218)]))) (fun t k => st266 _ k) ?_
        refine Goes.via (S' := (T266.setTop (mkF m 387 #[.val (.int p0), .val (.int p1), .val (.int p2), .val (.int p3), .val (.int kk), .val (.int ss), .val (.int cc), .val (.ref b208), .val (.ref b218), .unset, .unset, .unset] []))) (fun t k => XS.astore X266.here hx rfl (hb hby at_385) rfl rfl (l' := #[.val (.int p0), .val (.int p1), .val (.int p2), .val (.int p3), .val (.int kk), .val (.int ss), .val (.int cc), .val (.ref b208), .val (.ref b218), .unset, .unset, .unset]) rfl k) ?_
        refine Goes.via (S' := (T266.setTop (mkF m 388 #[.val (.int p0), .val (.int p1), .val (.int p2), .val (.int p3), .val (.int kk), .val (.int ss), .val (.int cc), .val (.ref b208), .val (.ref b218), .unset, .unset, .unset] [(.int (3 : Int32))]))) (fun t k => XS.iconst X266.here hx rfl (hb hby at_387) k) ?_
        obtain ⟨T269, h269, k269, X269, e269, E269, A269, st269⟩ := newP X266 hx hZ (hw _ (List.mem_of_getElem? (i := 0) rfl)) e266 (g := (mkF m 388 #[.val (.int p0), .val (.int p1), .val (.int p2), .val (.int p3), .val (.int kk), .val (.int ss), .val (.int cc), .val (.ref b208), .val (.ref b218), .unset, .unset, .unset] [(.int (3 : Int32))])) rfl (hb hby at_388) rfl (by decide) (cap := 3) (by decide) (by decide) (by decide) (by decide)
        obtain ⟨b269, g269⟩ : ∃ z, z = h266.size := ⟨_, rfl⟩
        rw [← g269] at A269 st269
        have f270 : Arv Z h269 b208 k208 .int (4 : Int32) [(.int (0 : Int32)), (.int (10 : Int32)), (.int (20 : Int32)), (.int (30 : Int32))] (.int (0 : Int32)) := f267.ext E269
        have f271 : Arv Z h269 b218 k218 .int (12 : Int32) [(.int (own_e p0 (0 : Int32))), (.int (own_e p0 (1 : Int32))), (.int (own_e p0 (2 : Int32))), (.int (own_e p0 (3 : Int32))), (.int (own_e p1 (0 : Int32))), (.int (own_e p1 (1 : Int32))), (.int (own_e p1 (2 : Int32))), (.int (own_e p1 (3 : Int32))), (.int (own_e p2 (0 : Int32))), (.int (own_e p2 (1 : Int32))), (.int (own_e p2 (2 : Int32))), (.int (own_e p2 (3 : Int32)))] (.int (0 : Int32)) := f268.ext E269
        have K269 : Keep h0 h269 [] := Keep.ext K266 E269
        have Z269 : n0 ≤ h269.size := Nat.le_trans Z0 K269.1
        have g_b269 : n0 ≤ b269 := Nat.le_trans Z266 (Nat.le_of_eq g269.symm)
        have sz_b269 : h0.size ≤ b269 := Nat.le_trans (K266).1 (Nat.le_of_eq g269.symm)
        have ne_b208_b269 : b208 ≠ b269 := Nat.ne_of_lt (Nat.lt_of_lt_of_le f267.lt (Nat.le_of_eq g269.symm))
        have ne_b218_b269 : b218 ≠ b269 := Nat.ne_of_lt (Nat.lt_of_lt_of_le f268.lt (Nat.le_of_eq g269.symm))
        have f272 : Arv Z h269 b269 k269 .int (3 : Int32) [(.int (0 : Int32)), (.int (0 : Int32)), (.int (0 : Int32))] (.int (0 : Int32)) := (Arv.new A269 (by decide)).pad (pad_rep [] (.int (0 : Int32)) 3)
        refine Goes.via (S' := (T269.setTop (mkF m 390 #[.val (.int p0), .val (.int p1), .val (.int p2), .val (.int p3), .val (.int kk), .val (.int ss), .val (.int cc), .val (.ref b208), .val (.ref b218), .unset, .unset, .unset] [(.ref b269)]))) (fun t k => st269 _ k) ?_
        refine Goes.via (S' := (T269.setTop (mkF m 391 #[.val (.int p0), .val (.int p1), .val (.int p2), .val (.int p3), .val (.int kk), .val (.int ss), .val (.int cc), .val (.ref b208), .val (.ref b218), .unset, .unset, .unset] [(.ref b269), (.ref b269)]))) (fun t k => XS.dup X269.here hx rfl (hb hby at_390) rfl rfl k) ?_
        refine Goes.via (S' := (T269.setTop (mkF m 392 #[.val (.int p0), .val (.int p1), .val (.int p2), .val (.int p3), .val (.int kk), .val (.int ss), .val (.int cc), .val (.ref b208), .val (.ref b218), .unset, .unset, .unset] [(.int (0 : Int32)), (.ref b269), (.ref b269)]))) (fun t k => XS.iconst X269.here hx rfl (hb hby at_391) k) ?_
        refine Goes.via (S' := (T269.setTop (mkF m 393 #[.val (.int p0), .val (.int p1), .val (.int p2), .val (.int p3), .val (.int kk), .val (.int ss), .val (.int cc), .val (.ref b208), .val (.ref b218), .unset, .unset, .unset] [(.int (-1 : Int32)), (.int (0 : Int32)), (.ref b269), (.ref b269)]))) (fun t k => XS.iconst X269.here hx rfl (hb hby at_392) k) ?_
        obtain ⟨cl273, Ar273, q273, S273, M273, Hs273, G273⟩ := id f272
        have hin273 : ¬ ((0 : Int32) < 0 ∨ cl273.slots.size ≤ ((0 : Int32)).toNatClampNeg) := inb_of S273 ⟨by decide, by decide⟩
        obtain ⟨T273, h273, X273, e273, W273, st273⟩ := stI X269 hx hZ e269 Ar273 (j := (0 : Int32)) hin273 (g := (mkF m 393 #[.val (.int p0), .val (.int p1), .val (.int p2), .val (.int p3), .val (.int kk), .val (.int ss), .val (.int cc), .val (.ref b208), .val (.ref b218), .unset, .unset, .unset] [(.int (-1 : Int32)), (.int (0 : Int32)), (.ref b269), (.ref b269)])) rfl rfl (hb hby at_393)
        have f274 : Arv Z h273 b208 k208 .int (4 : Int32) [(.int (0 : Int32)), (.int (10 : Int32)), (.int (20 : Int32)), (.int (30 : Int32))] (.int (0 : Int32)) := f270.other W273 ne_b208_b269
        have f275 : Arv Z h273 b218 k218 .int (12 : Int32) [(.int (own_e p0 (0 : Int32))), (.int (own_e p0 (1 : Int32))), (.int (own_e p0 (2 : Int32))), (.int (own_e p0 (3 : Int32))), (.int (own_e p1 (0 : Int32))), (.int (own_e p1 (1 : Int32))), (.int (own_e p1 (2 : Int32))), (.int (own_e p1 (3 : Int32))), (.int (own_e p2 (0 : Int32))), (.int (own_e p2 (1 : Int32))), (.int (own_e p2 (2 : Int32))), (.int (own_e p2 (3 : Int32)))] (.int (0 : Int32)) := f271.other W273 ne_b218_b269
        have f276 : Arv Z h273 b269 k269 .int (3 : Int32) [(.int (-1 : Int32)), (.int (0 : Int32)), (.int (0 : Int32))] (.int (0 : Int32)) := Arv.set Ar273 q273 S273 M273 Hs273 G273 rfl W273 0 rfl (Nat.le_of_ble_eq_true rfl)
        have K273 : Keep h0 h273 [] := Keep.wr K269 W273 (Or.inr sz_b269)
        have Z273 : n0 ≤ h273.size := Nat.le_trans Z0 K273.1
        have N273 := Fr.snoc X273 N266 g_b269
        refine Goes.via (S' := (T273.setTop (mkF m 394 #[.val (.int p0), .val (.int p1), .val (.int p2), .val (.int p3), .val (.int kk), .val (.int ss), .val (.int cc), .val (.ref b208), .val (.ref b218), .unset, .unset, .unset] [(.ref b269)]))) (fun t k => st273 _ k) ?_
        refine Goes.via (S' := (T273.setTop (mkF m 395 #[.val (.int p0), .val (.int p1), .val (.int p2), .val (.int p3), .val (.int kk), .val (.int ss), .val (.int cc), .val (.ref b208), .val (.ref b218), .unset, .unset, .unset] [(.ref b269), (.ref b269)]))) (fun t k => XS.dup X273.here hx rfl (hb hby at_394) rfl rfl k) ?_
        refine Goes.via (S' := (T273.setTop (mkF m 396 #[.val (.int p0), .val (.int p1), .val (.int p2), .val (.int p3), .val (.int kk), .val (.int ss), .val (.int cc), .val (.ref b208), .val (.ref b218), .unset, .unset, .unset] [(.int (1 : Int32)), (.ref b269), (.ref b269)]))) (fun t k => XS.iconst X273.here hx rfl (hb hby at_395) k) ?_
        refine Goes.via (S' := (T273.setTop (mkF m 397 #[.val (.int p0), .val (.int p1), .val (.int p2), .val (.int p3), .val (.int kk), .val (.int ss), .val (.int cc), .val (.ref b208), .val (.ref b218), .unset, .unset, .unset] [(.int (0 : Int32)), (.int (1 : Int32)), (.ref b269), (.ref b269)]))) (fun t k => XS.iconst X273.here hx rfl (hb hby at_396) k) ?_
        obtain ⟨cl277, Ar277, q277, S277, M277, Hs277, G277⟩ := id f276
        have hin277 : ¬ ((1 : Int32) < 0 ∨ cl277.slots.size ≤ ((1 : Int32)).toNatClampNeg) := inb_of S277 ⟨by decide, by decide⟩
        obtain ⟨T277, h277, X277, e277, W277, st277⟩ := stI X273 hx hZ e273 Ar277 (j := (1 : Int32)) hin277 (g := (mkF m 397 #[.val (.int p0), .val (.int p1), .val (.int p2), .val (.int p3), .val (.int kk), .val (.int ss), .val (.int cc), .val (.ref b208), .val (.ref b218), .unset, .unset, .unset] [(.int (0 : Int32)), (.int (1 : Int32)), (.ref b269), (.ref b269)])) rfl rfl (hb hby at_397)
        have f278 : Arv Z h277 b208 k208 .int (4 : Int32) [(.int (0 : Int32)), (.int (10 : Int32)), (.int (20 : Int32)), (.int (30 : Int32))] (.int (0 : Int32)) := f274.other W277 ne_b208_b269
        have f279 : Arv Z h277 b218 k218 .int (12 : Int32) [(.int (own_e p0 (0 : Int32))), (.int (own_e p0 (1 : Int32))), (.int (own_e p0 (2 : Int32))), (.int (own_e p0 (3 : Int32))), (.int (own_e p1 (0 : Int32))), (.int (own_e p1 (1 : Int32))), (.int (own_e p1 (2 : Int32))), (.int (own_e p1 (3 : Int32))), (.int (own_e p2 (0 : Int32))), (.int (own_e p2 (1 : Int32))), (.int (own_e p2 (2 : Int32))), (.int (own_e p2 (3 : Int32)))] (.int (0 : Int32)) := f275.other W277 ne_b218_b269
        have f280 : Arv Z h277 b269 k269 .int (3 : Int32) [(.int (-1 : Int32)), (.int (0 : Int32)), (.int (0 : Int32))] (.int (0 : Int32)) := Arv.set Ar277 q277 S277 M277 Hs277 G277 rfl W277 1 rfl (Nat.le_of_ble_eq_true rfl)
        have K277 : Keep h0 h277 [] := Keep.wr K273 W277 (Or.inr sz_b269)
        have Z277 : n0 ≤ h277.size := Nat.le_trans Z0 K277.1
        have N277 := Fr.snoc X277 N273 g_b269
        refine Goes.via (S' := (T277.setTop (mkF m 398 #[.val (.int p0), .val (.int p1), .val (.int p2), .val (.int p3), .val (.int kk), .val (.int ss), .val (.int cc), .val (.ref b208), .val (.ref b218), .unset, .unset, .unset] [(.ref b269)]))) (fun t k => st277 _ k) ?_
        refine Goes.via (S' := (T277.setTop (mkF m 399 #[.val (.int p0), .val (.int p1), .val (.int p2), .val (.int p3), .val (.int kk), .val (.int ss), .val (.int cc), .val (.ref b208), .val (.ref b218), .unset, .unset, .unset] [(.ref b269), (.ref b269)]))) (fun t k => XS.dup X277.here hx rfl (hb hby at_398) rfl rfl k) ?_
        refine Goes.via (S' := (T277.setTop (mkF m 400 #[.val (.int p0), .val (.int p1), .val (.int p2), .val (.int p3), .val (.int kk), .val (.int ss), .val (.int cc), .val (.ref b208), .val (.ref b218), .unset, .unset, .unset] [(.int (2 : Int32)), (.ref b269), (.ref b269)]))) (fun t k => XS.iconst X277.here hx rfl (hb hby at_399) k) ?_
        refine Goes.via (S' := (T277.setTop (mkF m 401 #[.val (.int p0), .val (.int p1), .val (.int p2), .val (.int p3), .val (.int kk), .val (.int ss), .val (.int cc), .val (.ref b208), .val (.ref b218), .unset, .unset, .unset] [(.int (1 : Int32)), (.int (2 : Int32)), (.ref b269), (.ref b269)]))) (fun t k => XS.iconst X277.here hx rfl (hb hby at_400) k) ?_
        obtain ⟨cl281, Ar281, q281, S281, M281, Hs281, G281⟩ := id f280
        have hin281 : ¬ ((2 : Int32) < 0 ∨ cl281.slots.size ≤ ((2 : Int32)).toNatClampNeg) := inb_of S281 ⟨by decide, by decide⟩
        obtain ⟨T281, h281, X281, e281, W281, st281⟩ := stI X277 hx hZ e277 Ar281 (j := (2 : Int32)) hin281 (g := (mkF m 401 #[.val (.int p0), .val (.int p1), .val (.int p2), .val (.int p3), .val (.int kk), .val (.int ss), .val (.int cc), .val (.ref b208), .val (.ref b218), .unset, .unset, .unset] [(.int (1 : Int32)), (.int (2 : Int32)), (.ref b269), (.ref b269)])) rfl rfl (hb hby at_401)
        have f282 : Arv Z h281 b208 k208 .int (4 : Int32) [(.int (0 : Int32)), (.int (10 : Int32)), (.int (20 : Int32)), (.int (30 : Int32))] (.int (0 : Int32)) := f278.other W281 ne_b208_b269
        have f283 : Arv Z h281 b218 k218 .int (12 : Int32) [(.int (own_e p0 (0 : Int32))), (.int (own_e p0 (1 : Int32))), (.int (own_e p0 (2 : Int32))), (.int (own_e p0 (3 : Int32))), (.int (own_e p1 (0 : Int32))), (.int (own_e p1 (1 : Int32))), (.int (own_e p1 (2 : Int32))), (.int (own_e p1 (3 : Int32))), (.int (own_e p2 (0 : Int32))), (.int (own_e p2 (1 : Int32))), (.int (own_e p2 (2 : Int32))), (.int (own_e p2 (3 : Int32)))] (.int (0 : Int32)) := f279.other W281 ne_b218_b269
        have f284 : Arv Z h281 b269 k269 .int (3 : Int32) [(.int (-1 : Int32)), (.int (0 : Int32)), (.int (1 : Int32))] (.int (0 : Int32)) := Arv.set Ar281 q281 S281 M281 Hs281 G281 rfl W281 2 rfl (Nat.le_of_ble_eq_true rfl)
        have K281 : Keep h0 h281 [] := Keep.wr K277 W281 (Or.inr sz_b269)
        have Z281 : n0 ≤ h281.size := Nat.le_trans Z0 K281.1
        have N281 := Fr.snoc X281 N277 g_b269
        refine Goes.via (S' := (T281.setTop (mkF m 402 #[.val (.int p0), .val (.int p1), .val (.int p2), .val (.int p3), .val (.int kk), .val (.int ss), .val (.int cc), .val (.ref b208), .val (.ref b218), .unset, .unset, .unset] [(.ref b269)]))) (fun t k => st281 _ k) ?_
        refine Goes.via (S' := (T281.setTop (mkF m 404 #[.val (.int p0), .val (.int p1), .val (.int p2), .val (.int p3), .val (.int kk), .val (.int ss), .val (.int cc), .val (.ref b208), .val (.ref b218), .val (.ref b269), .unset, .unset] []))) (fun t k => XS.astore X281.here hx rfl (hb hby at_402) rfl rfl (l' := #[.val (.int p0), .val (.int p1), .val (.int p2), .val (.int p3), .val (.int kk), .val (.int ss), .val (.int cc), .val (.ref b208), .val (.ref b218), .val (.ref b269), .unset, .unset]) rfl k) ?_
        obtain ⟨T285, h285, X285, e285, E285, A285, D285, -, st285⟩ := newO X281 hx hZ hown (hw _ (List.mem_of_getElem? (i := 5) rfl)) (hw _ (List.mem_of_getElem? (i := 6) rfl)) (hw _ (List.mem_of_getElem? (i := 7) rfl)) e281 (g := (mkF m 404 #[.val (.int p0), .val (.int p1), .val (.int p2), .val (.int p3), .val (.int kk), .val (.int ss), .val (.int cc), .val (.ref b208), .val (.ref b218), .val (.ref b269), .unset, .unset] [])) rfl (hb hby at_404) (by decide) (by decide)
        obtain ⟨b285, g285⟩ : ∃ z, z = h281.size := ⟨_, rfl⟩
        rw [← g285] at A285 D285 st285
        have f286 : Arv Z h285 b208 k208 .int (4 : Int32) [(.int (0 : Int32)), (.int (10 : Int32)), (.int (20 : Int32)), (.int (30 : Int32))] (.int (0 : Int32)) := f282.ext E285
        have f287 : Arv Z h285 b218 k218 .int (12 : Int32) [(.int (own_e p0 (0 : Int32))), (.int (own_e p0 (1 : Int32))), (.int (own_e p0 (2 : Int32))), (.int (own_e p0 (3 : Int32))), (.int (own_e p1 (0 : Int32))), (.int (own_e p1 (1 : Int32))), (.int (own_e p1 (2 : Int32))), (.int (own_e p1 (3 : Int32))), (.int (own_e p2 (0 : Int32))), (.int (own_e p2 (1 : Int32))), (.int (own_e p2 (2 : Int32))), (.int (own_e p2 (3 : Int32)))] (.int (0 : Int32)) := f283.ext E285
        have f288 : Arv Z h285 b269 k269 .int (3 : Int32) [(.int (-1 : Int32)), (.int (0 : Int32)), (.int (1 : Int32))] (.int (0 : Int32)) := f284.ext E285
        have K285 : Keep h0 h285 [] := Keep.ext K281 E285
        have Z285 : n0 ≤ h285.size := Nat.le_trans Z0 K285.1
        have g_b285 : n0 ≤ b285 := Nat.le_trans Z281 (Nat.le_of_eq g285.symm)
        have sz_b285 : h0.size ≤ b285 := Nat.le_trans (K281).1 (Nat.le_of_eq g285.symm)
        have ne_b208_b285 : b208 ≠ b285 := Nat.ne_of_lt (Nat.lt_of_lt_of_le f282.lt (Nat.le_of_eq g285.symm))
        have ne_b218_b285 : b218 ≠ b285 := Nat.ne_of_lt (Nat.lt_of_lt_of_le f283.lt (Nat.le_of_eq g285.symm))
        have ne_b269_b285 : b269 ≠ b285 := Nat.ne_of_lt (Nat.lt_of_lt_of_le f284.lt (Nat.le_of_eq g285.symm))
        have f289 : Exa Z h285 b285 "com/example/parsewright/parsewright/generator/ScannerAutomaton" := A285
        have f290 : Fld Z h285 b285 "com/example/parsewright/parsewright/generator/ScannerAutomaton" "classStarts" "[I" .null := D285 (Or.inr (hw _ (List.mem_of_getElem? (i := 15) rfl))) (ty := (.array .int)) (by decide)
        have f291 : Fld Z h285 b285 "com/example/parsewright/parsewright/generator/ScannerAutomaton" "transitions" "[I" .null := D285 (Or.inr (hw _ (List.mem_of_getElem? (i := 17) rfl))) (ty := (.array .int)) (by decide)
        have f292 : Fld Z h285 b285 "com/example/parsewright/parsewright/generator/ScannerAutomaton" "accepts" "[I" .null := D285 (Or.inr (hw _ (List.mem_of_getElem? (i := 19) rfl))) (ty := (.array .int)) (by decide)
        refine Goes.via (S' := (T285.setTop (mkF m 407 #[.val (.int p0), .val (.int p1), .val (.int p2), .val (.int p3), .val (.int kk), .val (.int ss), .val (.int cc), .val (.ref b208), .val (.ref b218), .val (.ref b269), .unset, .unset] [(.ref b285)]))) (fun t k => st285 _ k) ?_
        refine Goes.via (S' := (T285.setTop (mkF m 408 #[.val (.int p0), .val (.int p1), .val (.int p2), .val (.int p3), .val (.int kk), .val (.int ss), .val (.int cc), .val (.ref b208), .val (.ref b218), .val (.ref b269), .unset, .unset] [(.ref b285), (.ref b285)]))) (fun t k => XS.dup X285.here hx rfl (hb hby at_407) rfl rfl k) ?_
        refine Goes.via (S' := (T285.setTop (mkF m 410 #[.val (.int p0), .val (.int p1), .val (.int p2), .val (.int p3), .val (.int kk), .val (.int ss), .val (.int cc), .val (.ref b208), .val (.ref b218), .val (.ref b269), .unset, .unset] [(.ref b208), (.ref b285), (.ref b285)]))) (fun t k => XS.aload X285.here hx rfl (hb hby at_408) rfl rfl k) ?_
        refine Goes.via (S' := (T285.setTop (mkF m 412 #[.val (.int p0), .val (.int p1), .val (.int p2), .val (.int p3), .val (.int kk), .val (.int ss), .val (.int cc), .val (.ref b208), .val (.ref b218), .val (.ref b269), .unset, .unset] [(.ref b218), (.ref b208), (.ref b285), (.ref b285)]))) (fun t k => XS.aload X285.here hx rfl (hb hby at_410) rfl rfl k) ?_
        refine Goes.via (S' := (T285.setTop (mkF m 414 #[.val (.int p0), .val (.int p1), .val (.int p2), .val (.int p3), .val (.int kk), .val (.int ss), .val (.int cc), .val (.ref b208), .val (.ref b218), .val (.ref b269), .unset, .unset] [(.ref b269), (.ref b218), (.ref b208), (.ref b285), (.ref b285)]))) (fun t k => XS.aload X285.here hx rfl (hb hby at_412) rfl rfl k) ?_
        obtain ⟨_, _, ⟨T293, L293, k293, n293⟩, -, X293, ⟨Lc293, hQ293, l293, y293, z293⟩, st293⟩ := X285.specialBack hx (y := (⟨"com/example/parsewright/parsewright/generator/ScannerAutomaton", "<init>", "([I[I[I)V"⟩ : MethodName)) rfl hown (mvT hZ (hw _ (List.mem_of_getElem? (i := 8) rfl))) (mvT hZ (hw _ (List.mem_of_getElem? (i := 9) rfl))) (mvT hZ (hw _ (List.mem_of_getElem? (i := 10) rfl))) (by decide) (backOf (W := 1) (rm2 l Z a0 hw [] b285 b208 b218 b269 .null .null .null h285 n0 Z285 f289 f290 f291 f292 g_b285) hZ (hw _ (List.mem_of_getElem? (i := 10) rfl)) (hw _ (List.mem_of_getElem? (i := 7) rfl)) (by decide) (by decide)) (g := (mkF m 414 #[.val (.int p0), .val (.int p1), .val (.int p2), .val (.int p3), .val (.int kk), .val (.int ss), .val (.int cc), .val (.ref b208), .val (.ref b218), .val (.ref b269), .unset, .unset] [(.ref b269), (.ref b218), (.ref b208), (.ref b285), (.ref b285)])) rfl (by rw [hml]; rfl) (Steps.refl _) (a := b285) (argsL := [(.ref b208), (.ref b218), (.ref b269)]) (rest := [(.ref b285)]) (lenOf pd_1 rfl) rfl (by show 2 * 0 + _ ≤ _; exact Nat.le_of_eq rfl) (hb hby at_414) (fun _ _ => ⟨rfl, e285, (by decide : 4 + 0 ≤ _), (by decide : 22 + 0 ≤ _)⟩)
        dsimp only [Pt.U, Pt.locs, Pt.cells, Pt.slots] at X293 l293 y293 z293 st293 hQ293
        replace X293 := own_cast X293 l293 y293 z293
        obtain ⟨rfl, N293q, K293q, po293_0, po293_1, po293_2, po293_3⟩ := hQ293
        have N293 := Fr.app N281 N293q
        have f294 : Arv Z T293.heap b208 k208 .int (4 : Int32) [(.int (0 : Int32)), (.int (10 : Int32)), (.int (20 : Int32)), (.int (30 : Int32))] (.int (0 : Int32)) := f286.keep K293q (ninS ne_b208_b285 nin0)
        have f295 : Arv Z T293.heap b218 k218 .int (12 : Int32) [(.int (own_e p0 (0 : Int32))), (.int (own_e p0 (1 : Int32))), (.int (own_e p0 (2 : Int32))), (.int (own_e p0 (3 : Int32))), (.int (own_e p1 (0 : Int32))), (.int (own_e p1 (1 : Int32))), (.int (own_e p1 (2 : Int32))), (.int (own_e p1 (3 : Int32))), (.int (own_e p2 (0 : Int32))), (.int (own_e p2 (1 : Int32))), (.int (own_e p2 (2 : Int32))), (.int (own_e p2 (3 : Int32)))] (.int (0 : Int32)) := f287.keep K293q (ninS ne_b218_b285 nin0)
        have f296 : Arv Z T293.heap b269 k269 .int (3 : Int32) [(.int (-1 : Int32)), (.int (0 : Int32)), (.int (1 : Int32))] (.int (0 : Int32)) := f288.keep K293q (ninS ne_b269_b285 nin0)
        have f297 : Exa Z T293.heap b285 "com/example/parsewright/parsewright/generator/ScannerAutomaton" := f289.keep K293q
        have K293 : Keep h0 T293.heap [] := Keep.trans K285 K293q (allS (Or.inr sz_b285) all0)
        have Z293 : n0 ≤ T293.heap.size := Nat.le_trans Z0 K293.1
        refine Goes.via (S' := (T293.setTop (mkF m 417 #[.val (.int p0), .val (.int p1), .val (.int p2), .val (.int p3), .val (.int kk), .val (.int ss), .val (.int cc), .val (.ref b208), .val (.ref b218), .val (.ref b269), .unset, .unset] [(.ref b285)]))) (fun t k => st293.trans k) ?_
        refine Goes.via (S' := (T293.setTop (mkF m 419 #[.val (.int p0), .val (.int p1), .val (.int p2), .val (.int p3), .val (.int kk), .val (.int ss), .val (.int cc), .val (.ref b208), .val (.ref b218), .val (.ref b269), .val (.ref b285), .unset] []))) (fun t k => XS.astore X293.here hx rfl (hb hby at_417) rfl rfl (l' := #[.val (.int p0), .val (.int p1), .val (.int p2), .val (.int p3), .val (.int kk), .val (.int ss), .val (.int cc), .val (.ref b208), .val (.ref b218), .val (.ref b269), .val (.ref b285), .unset]) rfl k) ?_
        refine Goes.via (S' := (T293.setTop (mkF m 421 #[.val (.int p0), .val (.int p1), .val (.int p2), .val (.int p3), .val (.int kk), .val (.int ss), .val (.int cc), .val (.ref b208), .val (.ref b218), .val (.ref b269), .val (.ref b285), .unset] [(.int ss)]))) (fun t k => XS.iload X293.here hx rfl (hb hby at_419) rfl k) ?_
        obtain ⟨v300, hv300⟩ : ∃ z : Int32, z = ((if (ss = (0 : Int32)) then p0 else (if (ss = (1 : Int32)) then p1 else p2))) := ⟨_, rfl⟩
        refine Goes.via (S' := (T293.setTop (mkF m 439 #[.val (.int p0), .val (.int p1), .val (.int p2), .val (.int p3), .val (.int kk), .val (.int ss), .val (.int cc), .val (.ref b208), .val (.ref b218), .val (.ref b269), .val (.ref b285), .unset] [(.int v300)]))) (fun t k => ?_) ?_
        · by_cases hc298 : (ss = (0 : Int32))
          · refine XS.ifNo X293.here hx rfl (hb hby at_421) rfl ((if0 _ _).trans (teq hc298).2) ?_
            show Steps p.tables e below (T293.setTop (mkF m 424 #[.val (.int p0), .val (.int p1), .val (.int p2), .val (.int p3), .val (.int kk), .val (.int ss), .val (.int cc), .val (.ref b208), .val (.ref b218), .val (.ref b269), .val (.ref b285), .unset] [])) _
            refine XS.iloadN X293.here hx rfl (hb hby at_424) rfl ?_
            show Steps p.tables e below (T293.setTop (mkF m 425 #[.val (.int p0), .val (.int p1), .val (.int p2), .val (.int p3), .val (.int kk), .val (.int ss), .val (.int cc), .val (.ref b208), .val (.ref b218), .val (.ref b269), .val (.ref b285), .unset] [(.int p0)])) _
            refine XS.goto X293.here hx rfl (pc0 := 425) (pc' := 439) rfl (hb hby at_425) (by decide) (by decide) ?_
            show Steps p.tables e below (T293.setTop (mkF m 439 #[.val (.int p0), .val (.int p1), .val (.int p2), .val (.int p3), .val (.int kk), .val (.int ss), .val (.int cc), .val (.ref b208), .val (.ref b218), .val (.ref b269), .val (.ref b285), .unset] [(.int p0)])) _
            have q_v300 : v300 = p0 := by rw [hv300, if_pos hc298]
            rw [q_v300] at k
            exact k
          · refine XS.ifYes X293.here hx rfl (pc0 := 421) (pc' := 428) rfl (hb hby at_421) rfl ((if0 _ _).trans (feq hc298).2) (by decide) (by decide) ?_
            show Steps p.tables e below (T293.setTop (mkF m 428 #[.val (.int p0), .val (.int p1), .val (.int p2), .val (.int p3), .val (.int kk), .val (.int ss), .val (.int cc), .val (.ref b208), .val (.ref b218), .val (.ref b269), .val (.ref b285), .unset] [])) _
            refine XS.iload X293.here hx rfl (hb hby at_428) rfl ?_
            show Steps p.tables e below (T293.setTop (mkF m 430 #[.val (.int p0), .val (.int p1), .val (.int p2), .val (.int p3), .val (.int kk), .val (.int ss), .val (.int cc), .val (.ref b208), .val (.ref b218), .val (.ref b269), .val (.ref b285), .unset] [(.int ss)])) _
            refine XS.iconst X293.here hx rfl (hb hby at_430) ?_
            show Steps p.tables e below (T293.setTop (mkF m 431 #[.val (.int p0), .val (.int p1), .val (.int p2), .val (.int p3), .val (.int kk), .val (.int ss), .val (.int cc), .val (.ref b208), .val (.ref b218), .val (.ref b269), .val (.ref b285), .unset] [(.int (1 : Int32)), (.int ss)])) _
            by_cases hc299 : (ss = (1 : Int32))
            · refine XS.icmpNo X293.here hx rfl (hb hby at_431) rfl (teq hc299).2 ?_
              show Steps p.tables e below (T293.setTop (mkF m 434 #[.val (.int p0), .val (.int p1), .val (.int p2), .val (.int p3), .val (.int kk), .val (.int ss), .val (.int cc), .val (.ref b208), .val (.ref b218), .val (.ref b269), .val (.ref b285), .unset] [])) _
              refine XS.iloadN X293.here hx rfl (hb hby at_434) rfl ?_
              show Steps p.tables e below (T293.setTop (mkF m 435 #[.val (.int p0), .val (.int p1), .val (.int p2), .val (.int p3), .val (.int kk), .val (.int ss), .val (.int cc), .val (.ref b208), .val (.ref b218), .val (.ref b269), .val (.ref b285), .unset] [(.int p1)])) _
              refine XS.goto X293.here hx rfl (pc0 := 435) (pc' := 439) rfl (hb hby at_435) (by decide) (by decide) ?_
              show Steps p.tables e below (T293.setTop (mkF m 439 #[.val (.int p0), .val (.int p1), .val (.int p2), .val (.int p3), .val (.int kk), .val (.int ss), .val (.int cc), .val (.ref b208), .val (.ref b218), .val (.ref b269), .val (.ref b285), .unset] [(.int p1)])) _
              have q_v300 : v300 = p1 := by rw [hv300, if_neg hc298, if_pos hc299]
              rw [q_v300] at k
              exact k
            · refine XS.icmpYes X293.here hx rfl (pc0 := 431) (pc' := 438) rfl (hb hby at_431) rfl (feq hc299).2 (by decide) (by decide) ?_
              show Steps p.tables e below (T293.setTop (mkF m 438 #[.val (.int p0), .val (.int p1), .val (.int p2), .val (.int p3), .val (.int kk), .val (.int ss), .val (.int cc), .val (.ref b208), .val (.ref b218), .val (.ref b269), .val (.ref b285), .unset] [])) _
              refine XS.iloadN X293.here hx rfl (hb hby at_438) rfl ?_
              show Steps p.tables e below (T293.setTop (mkF m 439 #[.val (.int p0), .val (.int p1), .val (.int p2), .val (.int p3), .val (.int kk), .val (.int ss), .val (.int cc), .val (.ref b208), .val (.ref b218), .val (.ref b269), .val (.ref b285), .unset] [(.int p2)])) _
              have q_v300 : v300 = p2 := by rw [hv300, if_neg hc298, if_neg hc299]
              rw [q_v300] at k
              exact k
        refine Goes.via (S' := (T293.setTop (mkF m 441 #[.val (.int p0), .val (.int p1), .val (.int p2), .val (.int p3), .val (.int kk), .val (.int ss), .val (.int cc), .val (.ref b208), .val (.ref b218), .val (.ref b269), .val (.ref b285), .val (.int v300)] []))) (fun t k => XS.istore X293.here hx rfl (hb hby at_439) rfl (l' := #[.val (.int p0), .val (.int p1), .val (.int p2), .val (.int p3), .val (.int kk), .val (.int ss), .val (.int cc), .val (.ref b208), .val (.ref b218), .val (.ref b269), .val (.ref b285), .val (.int v300)]) rfl k) ?_
        refine Goes.via (S' := (T293.setTop (mkF m 443 #[.val (.int p0), .val (.int p1), .val (.int p2), .val (.int p3), .val (.int kk), .val (.int ss), .val (.int cc), .val (.ref b208), .val (.ref b218), .val (.ref b269), .val (.ref b285), .val (.int v300)] [(.ref b285)]))) (fun t k => XS.aload X293.here hx rfl (hb hby at_441) rfl rfl k) ?_
        refine Goes.via (S' := (T293.setTop (mkF m 445 #[.val (.int p0), .val (.int p1), .val (.int p2), .val (.int p3), .val (.int kk), .val (.int ss), .val (.int cc), .val (.ref b208), .val (.ref b218), .val (.ref b269), .val (.ref b285), .val (.int v300)] [(.int ss), (.ref b285)]))) (fun t k => XS.iload X293.here hx rfl (hb hby at_443) rfl k) ?_
        refine Goes.via (S' := (T293.setTop (mkF m 447 #[.val (.int p0), .val (.int p1), .val (.int p2), .val (.int p3), .val (.int kk), .val (.int ss), .val (.int cc), .val (.ref b208), .val (.ref b218), .val (.ref b269), .val (.ref b285), .val (.int v300)] [(.int cc), (.int ss), (.ref b285)]))) (fun t k => XS.iload X293.here hx rfl (hb hby at_445) rfl k) ?_
        have hg301 := own_get4 ss cc p0 p1 p2 v300 (own_s h_ss) (own_c4 h_cc (own_k4 h_kk hc1 hc56 hc125)) hv300
        obtain ⟨cq302, kq302, q302a, q302b, q302c⟩ := isOf hZ rfl po293_0
        obtain ⟨_, _, ⟨T302, L302, k302, n302⟩, -, X302, ⟨Lc302, hQ302, l302, y302, z302⟩, st302⟩ := X293.virtualBack hx (y := (⟨"com/example/parsewright/parsewright/generator/ScannerAutomaton", "next", "(II)I"⟩ : MethodName)) (z := (⟨"com/example/parsewright/parsewright/generator/ScannerAutomaton", "next", "(II)I"⟩ : MethodName)) hown (mvT hZ (hw _ (List.mem_of_getElem? (i := 20) rfl))) (mvT hZ (hw _ (List.mem_of_getElem? (i := 21) rfl))) (notFace_of_selects (args := #[]) (mvT hZ (hw _ (List.mem_of_getElem? (i := 23) rfl)))) (mvT hZ (hw _ (List.mem_of_getElem? (i := 23) rfl))) (mvT hZ (hw _ (List.mem_of_getElem? (i := 22) rfl))) (by decide) (backOf (W := 0) (rm4 l Z a0 hw [] b285 ss cc b208 b218 k208 k218 (4 : Int32) (12 : Int32) ([(.int (0 : Int32)), (.int (10 : Int32)), (.int (20 : Int32)), (.int (30 : Int32))] : List Value) ([(.int (own_e p0 (0 : Int32))), (.int (own_e p0 (1 : Int32))), (.int (own_e p0 (2 : Int32))), (.int (own_e p0 (3 : Int32))), (.int (own_e p1 (0 : Int32))), (.int (own_e p1 (1 : Int32))), (.int (own_e p1 (2 : Int32))), (.int (own_e p1 (3 : Int32))), (.int (own_e p2 (0 : Int32))), (.int (own_e p2 (1 : Int32))), (.int (own_e p2 (2 : Int32))), (.int (own_e p2 (3 : Int32)))] : List Value) (own_e v300 cc) T293.heap n0 Z293 po293_1 po293_2 f294 f295 (hg301).2 (hg301).1) hZ (hw _ (List.mem_of_getElem? (i := 24) rfl)) (hw _ (List.mem_of_getElem? (i := 7) rfl)) (by decide) (by decide)) q302a q302c (g := (mkF m 447 #[.val (.int p0), .val (.int p1), .val (.int p2), .val (.int p3), .val (.int kk), .val (.int ss), .val (.int cc), .val (.ref b208), .val (.ref b218), .val (.ref b269), .val (.ref b285), .val (.int v300)] [(.int cc), (.int ss), (.ref b285)])) rfl (by rw [hml]; rfl) (Steps.refl _) (argsL := [(.int ss), (.int cc)]) (rest := []) (lenOf pd_0 rfl) rfl (by show 2 * 0 + _ ≤ _; exact Nat.le_of_eq rfl) (hb hby at_447) (fun _ _ => ⟨rfl, rfl, (by decide : 4 + 0 ≤ _), (by decide : 22 + 0 ≤ _)⟩)
        dsimp only [Pt.U, Pt.locs, Pt.cells, Pt.slots] at X302 l302 y302 z302 st302 hQ302
        replace X302 := own_cast X302 l302 y302 z302
        obtain ⟨rfl, N302q, eq302⟩ := hQ302
        have N302 := Fr.app N293 N302q
        refine Goes.via (S' := (T302.setTop (mkF m 450 #[.val (.int p0), .val (.int p1), .val (.int p2), .val (.int p3), .val (.int kk), .val (.int ss), .val (.int cc), .val (.ref b208), .val (.ref b218), .val (.ref b269), .val (.ref b285), .val (.int v300)] [(.int (own_e v300 cc))]))) (fun t k => st302.trans k) ?_
        refine Goes.via (S' := (T302.setTop (mkF m 452 #[.val (.int p0), .val (.int p1), .val (.int p2), .val (.int p3), .val (.int kk), .val (.int ss), .val (.int cc), .val (.ref b208), .val (.ref b218), .val (.ref b269), .val (.ref b285), .val (.int v300)] [(.int v300), (.int (own_e v300 cc))]))) (fun t k => XS.iload X302.here hx rfl (hb hby at_450) rfl k) ?_
        refine Goes.via (S' := (T302.setTop (mkF m 454 #[.val (.int p0), .val (.int p1), .val (.int p2), .val (.int p3), .val (.int kk), .val (.int ss), .val (.int cc), .val (.ref b208), .val (.ref b218), .val (.ref b269), .val (.ref b285), .val (.int v300)] [(.int cc), (.int v300), (.int (own_e v300 cc))]))) (fun t k => XS.iload X302.here hx rfl (hb hby at_452) rfl k) ?_
        obtain ⟨_, _, ⟨T303, L303, k303, n303⟩, -, X303, ⟨Lc303, hQ303, l303, y303, z303⟩, st303⟩ := Jvm.LawKit.callS X302 hx (y := (⟨"com/example/parsewright/parsewright/generator/ScannerAutomatonNextPinLaw", "e", "(II)I"⟩ : MethodName)) hown (mvT hZ (hw _ (List.mem_of_getElem? (i := 1) rfl))) (mvT hZ (hw _ (List.mem_of_getElem? (i := 2) rfl))) (mvT hZ (hw _ (List.mem_of_getElem? (i := 3) rfl))) (mvT hZ (hw _ (List.mem_of_getElem? (i := 4) rfl))) (by decide) (backOf (W := 1) (rm1 l Z a0 hw [] v300 cc T293.heap n0 Z293 ) hZ (hw _ (List.mem_of_getElem? (i := 4) rfl)) (hw _ (List.mem_of_getElem? (i := 3) rfl)) (by decide) (by decide)) (g := (mkF m 454 #[.val (.int p0), .val (.int p1), .val (.int p2), .val (.int p3), .val (.int kk), .val (.int ss), .val (.int cc), .val (.ref b208), .val (.ref b218), .val (.ref b269), .val (.ref b285), .val (.int v300)] [(.int cc), (.int v300), (.int (own_e v300 cc))])) rfl (by rw [hml]; rfl) (argsL := [(.int v300), (.int cc)]) (rest := [(.int (own_e v300 cc))]) (lenOf pd_0 rfl) rfl (by show 2 * 0 + _ ≤ _; exact Nat.le_of_eq rfl) (hb hby at_454) (fun _ _ => ⟨rfl, eq302, (by decide : 4 + 0 ≤ _), (by decide : 22 + 0 ≤ _)⟩)
        dsimp only [Pt.U, Pt.locs, Pt.cells, Pt.slots] at X303 l303 y303 z303 st303 hQ303
        replace X303 := own_cast X303 l303 y303 z303
        obtain ⟨rfl, N303q, eq303⟩ := hQ303
        have N303 := Fr.app N302 N303q
        refine Goes.via (S' := (T303.setTop (mkF m 457 #[.val (.int p0), .val (.int p1), .val (.int p2), .val (.int p3), .val (.int kk), .val (.int ss), .val (.int cc), .val (.ref b208), .val (.ref b218), .val (.ref b269), .val (.ref b285), .val (.int v300)] [(.int (own_e v300 cc)), (.int (own_e v300 cc))]))) (fun t k => st303 _ k) ?_
        refine Goes.via (S' := (T303.setTop (mkF m 460 #[.val (.int p0), .val (.int p1), .val (.int p2), .val (.int p3), .val (.int kk), .val (.int ss), .val (.int cc), .val (.ref b208), .val (.ref b218), .val (.ref b269), .val (.ref b285), .val (.int v300)] []))) (fun t k => XS.icmpNo X303.here hx rfl (hb hby at_457) rfl (teq rfl).2 k) ?_
        refine Goes.via (S' := (T303.setTop (mkF m 461 #[.val (.int p0), .val (.int p1), .val (.int p2), .val (.int p3), .val (.int kk), .val (.int ss), .val (.int cc), .val (.ref b208), .val (.ref b218), .val (.ref b269), .val (.ref b285), .val (.int v300)] [(.int (1 : Int32))]))) (fun t k => XS.iconst X303.here hx rfl (hb hby at_460) k) ?_
        refine Goes.via (S' := (T303.setTop (mkF m 465 #[.val (.int p0), .val (.int p1), .val (.int p2), .val (.int p3), .val (.int kk), .val (.int ss), .val (.int cc), .val (.ref b208), .val (.ref b218), .val (.ref b269), .val (.ref b285), .val (.int v300)] [(.int (1 : Int32))]))) (fun t k => XS.goto X303.here hx rfl (pc0 := 461) (pc' := 465) rfl (hb hby at_461) (by decide) (by decide) k) ?_
        exact own_ret X303 hx Bd.notSynchronized Bd.returns rfl (Or.inl ⟨rfl, by simp, _, rfl⟩) (hb hby at_465) eq303 ⟨rfl, N303⟩ (by decide) (by decide)
set_option maxRecDepth 65536 in
set_option maxHeartbeats 40000000 in
theorem comes_1 {Post : Tables → Env → Array Value → State → Outcome → State → Prop} (hpost : ∀ tb e args s v u, (limb_1_1.after args s (.returned v) u = true ∧ limb_1_2.after args s (.returned v) u = true ∧ True) → FrameEnd s (.returned v) u (Jvm.fieldLocs frame_1_writes args s ++ Jvm.arrayLocs frame_1_arrays args s ++ Jvm.staticLocs frame_1_statics s) 16 128 → Post tb e args s (.returned v) u) :
    ArmFor flags0 classFile x code maxLocals ret World_1 tables_1 room_1 Calls_1 rest_1 Pre_1 Post := by
  intro l hfl _ _ p e ha hc hk s m args below hf hA hF happ hP
  obtain ⟨hcalls, hrest, hpre⟩ := hP
  obtain ⟨-, -, -, hnamed, -, -, -, hat⟩ := (Spec.applies_iff hf).mp happ
  obtain ⟨hg, hn⟩ := and_e (Cond.before_iff.mp (show (Jvm.Cond.and given_1 narrow_1).before args s = true from hpre))
  obtain ⟨g1, g2⟩ := and_e hg
  obtain ⟨g3, g4⟩ := and_e g2
  obtain ⟨g5, g6⟩ := and_e g4
  obtain ⟨g7, g8⟩ := and_e g6
  obtain ⟨w0, w1, w2, w3, rfl⟩ : ∃ w0 w1 w2 w3 : Value, args = #[w0, w1, w2, w3] := by
    have hs : args.size = 4 := by simpa [Cond.value, given_1] using g1
    obtain ⟨L⟩ := args
    match L, hs with
    | [w0, w1, w2, w3], _ => exact ⟨w0, w1, w2, w3, rfl⟩
  have hw := fun d (hd : d ∈ tables_1) => atoms_spec (ws := Jvm.Cond.code x code maxLocals ret :: tables_1) hat d (List.mem_cons_of_mem _ hd)
  have hfit : Fit s := fun {y c} hc i hi => by
    obtain ⟨ha, rfl⟩ := Array.getElem?_eq_some_iff.mp hc
    have q := List.all_eq_true.mp ((Array.all_eq_true_iff_forall_mem.mp hF) _ (Array.getElem_mem ha)) i (List.mem_range.mpr hi)
    simpa [Array.getElem?_eq_getElem hi] using q
  obtain ⟨i0, ei0⟩ := is_v g3
  obtain rfl : w0 = (.int i0) := Option.some.inj ei0
  obtain ⟨i1, ei1⟩ := is_v g5
  obtain rfl : w1 = (.int i1) := Option.some.inj ei1
  obtain ⟨i2, ei2⟩ := is_v g7
  obtain rfl : w2 = (.int i2) := Option.some.inj ei2
  obtain ⟨i3, ei3⟩ := is_v g8
  obtain rfl : w3 = (.int i3) := Option.some.inj ei3
  obtain ⟨n, o, h1, h2, h3, _, L, rfl, ⟨rfl, N⟩, hq⟩ := rm0 l s _ hw tables_1 i0 i1 i2 i3  s.heap s.heap.size (Nat.le_refl _)  p e ha hc hk s m _ below hf ((Spec.applies_iff_loose hf).mp happ).1 ⟨rfl, State.Warmed39.refl s, rfl⟩ trivial
  refine ⟨n, _, h1, h2, h3, hpost _ _ _ _ _ _ ⟨Cond.after_iff.mpr rfl, Cond.after_iff.mpr (eq_i res_at (Term.int_eval (1)) rfl), trivial⟩ ⟨hq.1, hq.2.1, (hq.2.2.sift fun y hy => Or.inr (N y hy)).mono (by decide) (by decide)⟩⟩
theorem main_1_1 : Claimed_1_1 := comes_1 fun _ _ _ _ _ _ h hF => ⟨h.1, hF⟩
theorem main_1_2 : Claimed_1_2 := comes_1 fun _ _ _ _ _ _ h hF => ⟨h.2.1, hF⟩
end Jvm.Pilot.@@N@@
namespace Jvm.Pilot.@@N@@
open Jvm Jvm.ClassFile Sem Op Lib Jvm.Free Jvm.Stand Jvm.Pilot.@@N@@.Jvm.D
/-! MADE BY PROGRAM (witnessworld.py) out of the Statement's table words and the real class files: 9 classes; the members and pool entries that the words name. The judged class is class 1, her method 2. -/
namespace start1
open Jvm.ClassFile
def u (s : String) : CpInfo := .utf8 (stringToUtf16 s)
/-- a pool by its gaps: so many unusable entries, then the entry; so many at the end -/
def gap : Nat → List CpInfo → List CpInfo
  | 0, r => r
  | n + 1, r => .unusable :: gap n r
def poolList (es : List (Nat × CpInfo)) (last : Nat) : List CpInfo := es.foldr (fun e r => gap e.1 (e.2 :: r)) (gap last [])
def pool (es : List (Nat × CpInfo)) (last : Nat) : Array CpInfo := ⟨poolList es last⟩
def fileOf (pool : Array CpInfo) (this : Nat) (attrs : Array Attribute := #[]) (ms : Array MethodInfo := #[]) (fl : Nat := 33) (sup : Nat := 0) (ifs : Array Nat := #[]) (fds : Array FieldInfo := #[]) : ClassFile where
  minorVersion := 0
  majorVersion := 65
  constantPool := pool
  accessFlags := fl
  thisClass := this
  superClass := sup
  interfaces := ifs
  fields := fds
  methods := ms
  attributes := attrs
def plain (name : String) (sup : Option ClassId) : Class where
  name := name
  kind := .ordinary
  loader := none
  accessFlags := 33
  super := sup
  interfaces := #[]
  cf := none
  fields := #[]
  methods := #[]
  instanceTypes := #[]
  staticTypes := #[]
  resolved := #[]
  callSites := []
  init := .initialized
  statics := none
  mirror := none

def pool0 : Array CpInfo := pool [(5, u "<init>"), (0, u "()V"), (1, .class_ 10), (1, u "java/lang/Object")] 113

def k0c0 : Code := { maxStack := 0, maxLocals := 1, code := object_method_1_code, exceptionTable := #[], attributes := #[] }
def k0m0 : Method := { name := "<init>", desc := "()V", sig := { parameters := [], returnType := none }, accessFlags := 1, code := some k0c0 }
/-- java/lang/Object -/
def k0 : Class := { plain "java/lang/Object" none with
  accessFlags := 33
  interfaces := #[]
  cf := some (fileOf pool0 8 #[] #[{ accessFlags := 1, nameIndex := 5, descriptorIndex := 6, attributes := #[] }] 33 0 #[] #[])
  fields := #[]
  methods := #[k0m0]
  instanceTypes := #[]
  staticTypes := #[]
  resolved := Array.replicate 124 none
  statics := none }

def pool1 : Array CpInfo := pool [(2, .class_ 4), (1, u "java/lang/Object"), (0, u "<init>"), (0, u "()V"), (0, .methodref 8 9), (0, .class_ 10), (0, .nameAndType 11 12), (0, u "com/example/parsewright/parsewright/generator/ScannerAutomatonNextPinLaw"), (0, u "e"), (0, u "(II)I"), (0, .class_ 14), (0, u "com/example/parsewright/parsewright/generator/ScannerAutomaton"), (0, .methodref 13 16), (0, .nameAndType 5 17), (0, u "([I[I[I)V"), (0, .methodref 13 19), (0, .nameAndType 20 12), (0, u "next"), (2, u "law"), (0, u "(IIII)Z")] 5

def k1m0 : Method := { name := "<init>", desc := "()V", sig := { parameters := [], returnType := none }, accessFlags := 1, code := none }
def k1c1 : Code := { maxStack := 3, maxLocals := 2, code := method_2_code, exceptionTable := #[], attributes := #[] }
def k1m1 : Method := { name := "e", desc := "(II)I", sig := { parameters := [.int, .int], returnType := some .int }, accessFlags := 10, code := some k1c1 }
def k1c2 : Code := { maxStack := 5, maxLocals := 12, code := code, exceptionTable := #[], attributes := #[] }
def k1m2 : Method := { name := "law", desc := "(IIII)Z", sig := { parameters := [.int, .int, .int, .int], returnType := some .boolean }, accessFlags := 9, code := some k1c2 }
/-- com/example/parsewright/parsewright/generator/ScannerAutomatonNextPinLaw -/
def k1 : Class := { plain "com/example/parsewright/parsewright/generator/ScannerAutomatonNextPinLaw" (some 0) with
  accessFlags := 49
  interfaces := #[]
  cf := some (fileOf pool1 8 #[] #[{ accessFlags := 1, nameIndex := 5, descriptorIndex := 6, attributes := #[] }, { accessFlags := 10, nameIndex := 11, descriptorIndex := 12, attributes := #[] }, { accessFlags := 9, nameIndex := 23, descriptorIndex := 24, attributes := #[] }] 49 2 #[] #[])
  fields := #[]
  methods := #[k1m0, k1m1, k1m2]
  instanceTypes := #[]
  staticTypes := #[]
  resolved := Array.replicate 30 none
  statics := none }

def pool2 : Array CpInfo := pool [(1, .methodref 2 3), (0, .class_ 4), (0, .nameAndType 5 6), (0, u "java/lang/Object"), (0, u "<init>"), (0, u "()V"), (0, .fieldref 8 9), (0, .class_ 10), (0, .nameAndType 11 12), (0, u "com/example/parsewright/parsewright/generator/ScannerAutomaton"), (0, u "classStarts"), (0, u "[I"), (0, .fieldref 8 14), (0, .nameAndType 15 12), (0, u "transitions"), (0, .fieldref 8 17), (0, .nameAndType 18 12), (0, u "accepts"), (26, u "([I[I[I)V"), (4, .class_ 51), (0, u "com/example/parsewright/parsewright/generator/ScannerAutomaton$Partition"), (51, .class_ 105), (1, u "com/example/parsewright/parsewright/generator/ScannerAutomaton$MovesInto"), (25, u "next"), (26, u "(II)I")] 79

def k2c0 : Code := { maxStack := 2, maxLocals := 4, code := prog_47_method_1_code, exceptionTable := #[], attributes := #[] }
def k2m0 : Method := { name := "<init>", desc := "([I[I[I)V", sig := { parameters := [(.array .int), (.array .int), (.array .int)], returnType := none }, accessFlags := 0, code := some k2c0 }
def k2c1 : Code := { maxStack := 3, maxLocals := 3, code := prog_47_method_5_code, exceptionTable := #[], attributes := #[] }
def k2m1 : Method := { name := "next", desc := "(II)I", sig := { parameters := [.int, .int], returnType := some .int }, accessFlags := 0, code := some k2c1 }
/-- com/example/parsewright/parsewright/generator/ScannerAutomaton -/
def k2 : Class := { plain "com/example/parsewright/parsewright/generator/ScannerAutomaton" (some 0) with
  accessFlags := 48
  interfaces := #[]
  cf := some (fileOf pool2 8 #[.nestMembers #[50, 103]] #[{ accessFlags := 0, nameIndex := 5, descriptorIndex := 45, attributes := #[] }, { accessFlags := 0, nameIndex := 131, descriptorIndex := 158, attributes := #[] }] 48 2 #[] #[{ accessFlags := 18, nameIndex := 11, descriptorIndex := 12, attributes := #[] }, { accessFlags := 18, nameIndex := 15, descriptorIndex := 12, attributes := #[] }, { accessFlags := 18, nameIndex := 18, descriptorIndex := 12, attributes := #[] }])
  fields := #[{ name := "classStarts", type := (.array .int), accessFlags := 18, slot := 0, constantValue := 0 }, { name := "transitions", type := (.array .int), accessFlags := 18, slot := 1, constantValue := 0 }, { name := "accepts", type := (.array .int), accessFlags := 18, slot := 2, constantValue := 0 }]
  methods := #[k2m0, k2m1]
  instanceTypes := #[(.array .int), (.array .int), (.array .int)]
  staticTypes := #[]
  resolved := Array.replicate 238 none
  statics := none }

def pool3 : Array CpInfo := pool [(1, u "java/lang/Cloneable"), (0, .class_ 1), (0, u "java/lang/Object"), (0, .class_ 3)] 3

/-- java/lang/Cloneable -/
def k3 : Class := { plain "java/lang/Cloneable" (some 0) with
  accessFlags := 1537
  interfaces := #[]
  cf := some (fileOf pool3 2 #[] #[] 1537 4 #[] #[])
  fields := #[]
  methods := #[]
  instanceTypes := #[]
  staticTypes := #[]
  resolved := Array.replicate 8 none
  statics := none }

def pool4 : Array CpInfo := pool [(1, u "java/io/Serializable"), (0, .class_ 1), (0, u "java/lang/Object"), (0, .class_ 3)] 3

/-- java/io/Serializable -/
def k4 : Class := { plain "java/io/Serializable" (some 0) with
  accessFlags := 1537
  interfaces := #[]
  cf := some (fileOf pool4 2 #[] #[] 1537 4 #[] #[])
  fields := #[]
  methods := #[]
  instanceTypes := #[]
  staticTypes := #[]
  resolved := Array.replicate 8 none
  statics := none }

/-- the primitive byte -/
def k5 : Class := { plain "byte" none with kind := .primitive 'B', accessFlags := 0x411 }
/-- [B -/
def k6 : Class := { plain "[B" (some 0) with kind := .array 5 .byte, interfaces := #[3, 4], accessFlags := 1041 }

/-- the primitive int -/
def k7 : Class := { plain "int" none with kind := .primitive 'I', accessFlags := 0x411 }
/-- [I -/
def k8 : Class := { plain "[I" (some 0) with kind := .array 7 .int, interfaces := #[3, 4], accessFlags := 1041 }

def heap : Heap := #[]
def classes : Array Class := #[k0, k1, k2, k3, k4, k5, k6, k7, k8]
def interned : List (Array UInt16 × Addr) := []
def slotsUsed : Nat := 0
def theMethod : MethodId := ⟨1, 2⟩
def args0 : Array Value := #[.int 5, .int 5, .int 5, .int 5]
def aboutOver (below : List Frame) : State where
  vm := { classes := classes, interned := interned.toArray }
  heap := heap
  slotsUsed := slotsUsed
  threads := #[{ frames := .invoking theMethod args0 :: below }]
def below0 : List Frame := [.native { method := ⟨0, 0⟩, args := #[] }]
def about1 : State := aboutOver below0
def p0 : Program := .bare "" "" ""
def e0 : Env := launch0.env 0 0 0
theorem w_frames : about1.frames = Frame.invoking theMethod args0 :: below0 := rfl
set_option maxRecDepth 65536 in
theorem w_args : argsFit about1.vm theMethod args0 = true := by decide +kernel
set_option maxRecDepth 65536 in
theorem w_heap : heapFits about1 = true := by decide +kernel
set_option maxRecDepth 65536 in
theorem w_runnable : about1.curStatus? = some .runnable := by decide +kernel
set_option maxRecDepth 65536 in
theorem w_alone : about1.alone = true := by decide +kernel
set_option maxRecDepth 65536 in
theorem w_named : about1.methodNamed? x = some theMethod := by decide +kernel
set_option maxRecDepth 65536 in
theorem w_hears : about1.hears theMethod below0 = true := by decide +kernel
set_option maxRecDepth 65536 in
theorem w_ripe : about1.ripe theMethod args0 below0 = true := by decide +kernel
theorem w_running : about1.status = .running := rfl
set_option maxRecDepth 65536 in
theorem w_room : about1.hasRoom e0.platform room_1 = true :=
  launch0.hasRoom_least _ room_1 (by decide +kernel) (by decide +kernel) (by decide +kernel) (by decide +kernel) (by decide +kernel) (by decide +kernel)
theorem allAtoms_all (ts : List Jvm.Cond) (a : Array Jvm.Value) (st : Jvm.State) : (allAtoms ts).before a st = ts.all (fun c => c.before a st) := by
  induction ts with
  | nil => rfl
  | cons c t ih =>
    show (Jvm.Cond.and c (allAtoms t)).before a st = _
    rw [Jvm.Cond.before_and, ih, List.all_cons]
def words1 : List Jvm.Cond := Jvm.Cond.code x code maxLocals ret :: tables_1
/-- a 'code' word, met by the world's own term for the bytes: nothing is compared byte by byte -/
theorem code_word {y : MethodName} {bytes : ByteArray} {mx : Nat} {rt : Option FieldType} {a : Array Value} {s : State} {m : MethodId} {meth : Method} {c : Code} (h1 : s.methodNamed? y = some m) (h2 : s.vm.method? m = some meth) (h3 : meth.code = some c) (h4 : c.code = bytes)
    (h5 : (c.maxLocals == mx && c.exceptionTable.isEmpty && decide (c.maxStack ≤ mostOperands) && decide (meth.sig.returnType = rt) && !meth.locks && decide (parseMethodDescriptor y.desc = some meth.sig)) = true) : (Jvm.Cond.code y bytes mx rt).before a s = true := by
  simp only [Bool.and_eq_true, beq_iff_eq, Bool.not_eq_true', decide_eq_true_eq] at h5
  obtain ⟨⟨⟨⟨⟨g1, g2⟩, g3⟩, g4⟩, g5⟩, g6⟩ := h5
  simp [Cond.before, Cond.holds, Cond.value, h1, h2, h3, h4, g1, g2, g3, g4, g5, g6]
def isCode : Jvm.Cond → Bool
  | .code _ _ _ _ => true
  | _ => false
theorem all_split {L : List Jvm.Cond} {P : Jvm.Cond → Bool} (h1 : L.all (fun c => isCode c || P c) = true) (h2 : ∀ c ∈ L.filter isCode, P c = true) : L.all P = true := by
  refine List.all_eq_true.mpr fun c hc => ?_
  have h := List.all_eq_true.mp h1 c hc
  rcases Bool.eq_false_or_eq_true (isCode c) with hi | hi
  · exact h2 c (List.mem_filter.mpr ⟨hc, hi⟩)
  · simpa [hi] using h
set_option maxRecDepth 65536 in
theorem w_c0 : (Jvm.Cond.code x code maxLocals ret).before args0 about1 = true := code_word (m := ⟨1, 2⟩) (meth := k1m2) (c := k1c2) (by decide +kernel) rfl rfl rfl (by decide +kernel)
set_option maxRecDepth 65536 in
theorem w_c1 : (Jvm.Cond.code ({ cls := "com/example/parsewright/parsewright/generator/ScannerAutomatonNextPinLaw", name := "e", desc := "(II)I" } : Jvm.MethodName) method_2_code (2 : Nat) (Option.some Jvm.ClassFile.FieldType.int)).before args0 about1 = true := code_word (m := ⟨1, 1⟩) (meth := k1m1) (c := k1c1) (by decide +kernel) rfl rfl rfl (by decide +kernel)
set_option maxRecDepth 65536 in
theorem w_c2 : (Jvm.Cond.code ({ cls := "com/example/parsewright/parsewright/generator/ScannerAutomaton", name := "<init>", desc := "([I[I[I)V" } : Jvm.MethodName) prog_47_method_1_code (4 : Nat) (Option.none : Option Jvm.ClassFile.FieldType)).before args0 about1 = true := code_word (m := ⟨2, 0⟩) (meth := k2m0) (c := k2c0) (by decide +kernel) rfl rfl rfl (by decide +kernel)
set_option maxRecDepth 65536 in
theorem w_c3 : (Jvm.Cond.code ({ cls := "java/lang/Object", name := "<init>", desc := "()V" } : Jvm.MethodName) object_method_1_code (1 : Nat) (Option.none : Option Jvm.ClassFile.FieldType)).before args0 about1 = true := code_word (m := ⟨0, 0⟩) (meth := k0m0) (c := k0c0) (by decide +kernel) rfl rfl rfl (by decide +kernel)
set_option maxRecDepth 65536 in
theorem w_c4 : (Jvm.Cond.code ({ cls := "com/example/parsewright/parsewright/generator/ScannerAutomaton", name := "next", desc := "(II)I" } : Jvm.MethodName) prog_47_method_5_code (3 : Nat) (Option.some Jvm.ClassFile.FieldType.int)).before args0 about1 = true := code_word (m := ⟨2, 1⟩) (meth := k2m1) (c := k2c1) (by decide +kernel) rfl rfl rfl (by decide +kernel)
def codes1 : List Jvm.Cond := [Jvm.Cond.code x code maxLocals ret, Jvm.Cond.code ({ cls := "com/example/parsewright/parsewright/generator/ScannerAutomatonNextPinLaw", name := "e", desc := "(II)I" } : Jvm.MethodName) method_2_code (2 : Nat) (Option.some Jvm.ClassFile.FieldType.int), Jvm.Cond.code ({ cls := "com/example/parsewright/parsewright/generator/ScannerAutomaton", name := "<init>", desc := "([I[I[I)V" } : Jvm.MethodName) prog_47_method_1_code (4 : Nat) (Option.none : Option Jvm.ClassFile.FieldType), Jvm.Cond.code ({ cls := "java/lang/Object", name := "<init>", desc := "()V" } : Jvm.MethodName) object_method_1_code (1 : Nat) (Option.none : Option Jvm.ClassFile.FieldType), Jvm.Cond.code ({ cls := "com/example/parsewright/parsewright/generator/ScannerAutomaton", name := "next", desc := "(II)I" } : Jvm.MethodName) prog_47_method_5_code (3 : Nat) (Option.some Jvm.ClassFile.FieldType.int)]
set_option maxRecDepth 65536 in
theorem codes_eq : words1.filter isCode = codes1 := rfl
theorem w_codes : ∀ c ∈ words1.filter isCode, c.before args0 about1 = true := by
  rw [codes_eq]
  intro c hc
  simp only [codes1, List.mem_cons, List.not_mem_nil, or_false] at hc
  rcases hc with rfl | rfl | rfl | rfl | rfl
  · exact w_c0
  · exact w_c1
  · exact w_c2
  · exact w_c3
  · exact w_c4
set_option maxRecDepth 65536 in
theorem w_t1 : (words1.take 24).all (fun c => isCode c || c.before args0 about1) = true := by decide +kernel
set_option maxRecDepth 65536 in
theorem w_t2 : (words1.drop 24).all (fun c => isCode c || c.before args0 about1) = true := by decide +kernel
theorem w_tables : (allAtoms (Jvm.Cond.code x code maxLocals ret :: tables_1)).before args0 about1 = true := by
  rw [allAtoms_all]
  show words1.all (fun c => c.before args0 about1) = true
  refine all_split ?_ w_codes
  rw [← List.take_append_drop 24 words1, List.all_append, w_t1, w_t2]
  rfl
set_option maxRecDepth 65536 in
theorem w_case : (Jvm.Cond.and given_1 narrow_1).before args0 about1 = true := by decide +kernel
theorem w_applies : (headSpec (Jvm.Cond.code x code maxLocals ret :: tables_1) room_1).applies x e0.platform about1 = true :=
  (Spec.applies_iff w_frames).mpr ⟨w_running, w_runnable, w_alone, w_named, w_hears, w_ripe, w_room, w_tables⟩
theorem atStart : AtStart classFile x code maxLocals ret World_1 tables_1 room_1 Calls_1 rest_1 Pre_1 launch0 p0 e0 about1 theMethod args0 below0 :=
  ⟨lists_1, trivial, launch0.admits_env _ _ _, launch0.least_env, fairChoices_fair.cas, fairChoices_fair.clock, w_frames, w_args, w_heap, w_applies, trivial, trivial, w_case⟩
end start1
theorem witness_1 : WitnessClaimed_1 := ⟨start1.p0, start1.e0, start1.about1, start1.theMethod, start1.args0, start1.below0, start1.atStart⟩
end Jvm.Pilot.@@N@@
