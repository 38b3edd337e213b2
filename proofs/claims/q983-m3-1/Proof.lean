import JvmDerived
import JvmDerived.Pilot.@@N@@Statement
import JvmDerived.Pilot.@@N@@Code
set_option linter.unusedVariables false
set_option linter.unusedSimpArgs false
@@BLOCK:NumsL.lean.txt@@
namespace Jvm.Pilot.@@N@@
open Jvm Jvm.ClassFile Sem Op Lib Jvm.Free Jvm.Stand Jvm.LawKit Jvm.RoadKit Bundle Jvm.Pilot.@@N@@.Jvm.D
section Own
variable {p : Program} {l : Launch} {e : Env} {R : Room} {s : State} {m : MethodId} {args : Array Value} {below : List Frame} {meth : Method} {c : Code} {T : State} {locs : List Loc} {cells slots : Nat} {Z : State} {h h' : Heap}
/-- the run goes on from S to a state of which F holds -/
def Goes (tb : Tables) (e : Env) (below : List Frame) (F : State → Prop) (S : State) : Prop := ∃ t, Steps tb e below S t ∧ F t
theorem Goes.via {tb : Tables} {F : State → Prop} {S S' : State} (q : ∀ t, Steps tb e below S' t → Steps tb e below S t) (g : Goes tb e below F S') : Goes tb e below F S := by
  obtain ⟨t, a, b⟩ := g
  exact ⟨t, q t a, b⟩
/-- what a body leaves -/
def Fin (s : State) (below : List Frame) (Q : Option Value → Heap → List Loc → Prop) (C S : Nat) (t : State) : Prop := ∃ o, t.status = .running ∧ Ended t below o ∧ ∃ v L, o = .returned v ∧ Q v t.heap L ∧ FrameEnd s o t L C S
theorem own_start {tb : Tables} {Q : Option Value → Heap → List Loc → Prop} {C S : Nat} {S0 : State} (g : Goes tb e below (Fin s below Q C S) S0) : ∃ s₂ o, Steps tb e below S0 s₂ ∧ s₂.status = .running ∧ Ended s₂ below o ∧ ∃ v L, o = .returned v ∧ Q v s₂.heap L ∧ FrameEnd s o s₂ L C S := by
  obtain ⟨t, a, o, b, d, r⟩ := g
  exact ⟨t, o, a, b, d, r⟩
theorem own_ret (X : Stand p l e R s m args below meth c T locs cells slots) (hx : p.tables.exec = Jvm.exec) {pc : Nat} {Ls : Array Slot} {w : Value} {t : FieldType} {i : Instr} {rest : List Value} (hlk : meth.locks = false) (hret : meth.sig.returnType = some t) (hn : narrow t w = w)
    (hi : (i = .ireturn ∧ (t = .int ∨ t = .boolean ∨ t = .byte ∨ t = .char ∨ t = .short) ∧ ∃ z, w = .int z) ∨ (i = .lreturn ∧ t = .long ∧ ∃ z, w = .long z) ∨ (i = .dreturn ∧ t = .double ∧ ∃ z, w = .double z) ∨ (i = .freturn ∧ t = .float ∧ ∃ z, w = .float z) ∨ (i = .areturn ∧ t.isReference = true ∧ w.isRef = true))
    (hd : decode c.code pc = .ok (i, 1)) {Q : Option Value → Heap → List Loc → Prop} {C S : Nat} (eT : T.heap = h) (hQ : Q (some w) h locs) (hc : cells ≤ C) (hs : slots ≤ S) : Goes p.tables e below (Fin s below Q C S) (T.setTop (mkF m pc Ls (w :: rest))) := by
  obtain ⟨fs, hr, hrun, hended, hW, hsame⟩ := X.leave (v := some w) (fun q => by rw [hret] at q; cases q) hlk
  exact ⟨_, retOut X hx hret hn hi hd hr, _, hrun, hended, _, _, rfl, (by show Q (some w) T.heap locs; rw [eT]; exact hQ), ⟨_, rfl⟩, hW, hsame.mono hc hs⟩
theorem own_retV (X : Stand p l e R s m args below meth c T locs cells slots) (hx : p.tables.exec = Jvm.exec) {pc : Nat} {Ls : Array Slot} (hlk : meth.locks = false) (hret : meth.sig.returnType = none)
    (hd : decode c.code pc = .ok (.return_, 1)) {Q : Option Value → Heap → List Loc → Prop} {C S : Nat} (eT : T.heap = h) (hQ : Q none h locs) (hc : cells ≤ C) (hs : slots ≤ S) : Goes p.tables e below (Fin s below Q C S) (T.setTop (mkF m pc Ls [])) := by
  obtain ⟨fs, hr, hrun, hended, hW, hsame⟩ := X.leave (v := none) (fun _ => rfl) hlk
  exact ⟨_, X.returnOut hx hret hd hr, _, hrun, hended, _, _, rfl, (by show Q none T.heap locs; rw [eT]; exact hQ), ⟨_, rfl⟩, hW, hsame.mono hc hs⟩
theorem own_b1 {P : Prop} [Decidable P] {v : Int32} (hv : v = if P then 1 else 0) (q : P) : ¬ v = 0 := by rw [hv, if_pos q]; decide
theorem own_b0 {P : Prop} [Decidable P] {v : Int32} (hv : v = if P then 1 else 0) (q : ¬ P) : v = 0 := by rw [hv, if_neg q]
theorem own_beq {P P' : Prop} [Decidable P] [Decidable P'] {v v' : Int32} (hv : v = if P then 1 else 0) (hv' : v' = if P' then 1 else 0) (q : P ↔ P') : v = v' := by rw [hv, hv']; simp [q]
theorem own_nb {P : Prop} [Decidable P] {v : Int32} (hv : v = if P then 1 else 0) : narrow .boolean (.int v) = .int v := by rw [hv]; split <;> rfl
theorem own_nb2 {P : Prop} [Decidable P] {v : Int32} (hv : v = if P then 1 else 0) : nar .boolean v = v := by rw [hv]; split <;> rfl
theorem own_lt {x y : Int64} (q : x < y) : lcmpW x y < 0 := (lw_lt x y).mpr q
theorem own_nlt {x y : Int64} (q : ¬ x < y) : ¬ lcmpW x y < 0 := fun r => q ((lw_lt x y).mp r)
theorem own_gt {x y : Int64} (q : y < x) : 0 < lcmpW x y := (lw_gt x y).mpr q
theorem own_ngt {x y : Int64} (q : ¬ y < x) : ¬ 0 < lcmpW x y := fun r => q ((lw_gt x y).mp r)
theorem own_eq {x y : Int64} (q : x = y) : lcmpW x y = 0 := (lw_eq x y).mpr q
theorem own_neq {x y : Int64} (q : ¬ x = y) : ¬ lcmpW x y = 0 := fun r => q ((lw_eq x y).mp r)
theorem own_staKeep {C n d : String} {v : Value} {ws : List Addr} (F : Sta Z h C n d v) (K : Keep h h' ws) (q : ∀ x ∈ ws, ∀ cc : Cell, h[x]? = some cc → cc.vm.isStatics = false) : Sta Z h' C n d v := by
  obtain ⟨cf, i, k, f, st, cell, h1, h2, h3, h4, h5, h6, h7⟩ := F
  exact ⟨cf, i, k, f, st, cell, h1, h2, h3, h4, K.2.1 st cell h5 (fun r => by rw [q st r cell h5] at h6; cases h6), h6, h7⟩
theorem own_nst {a : Addr} {C : String} (F : Exa Z h a C) : ∀ cc : Cell, h[a]? = some cc → cc.vm.isStatics = false := fun cc q => by
  obtain ⟨c1, k, h1, -, -, h4, -⟩ := F
  cases h1.symm.trans q
  exact h4
theorem own_nstV {a : Addr} {k : ClassId} {ty : FieldType} {n : Int32} {vs : List Value} {dv : Value} (F : Arv Z h a k ty n vs dv) : ∀ cc : Cell, h[a]? = some cc → cc.vm.isStatics = false := fun cc q => by
  obtain ⟨c1, A, -⟩ := F
  cases A.1.symm.trans q
  exact A.plain
theorem own_fval {a : Addr} {C n d : String} {v w : Value} (q : v = w) (F : Fld Z h a C n d v) : Fld Z h a C n d w := q ▸ F
theorem own_exS {a0 : Array Value} {C n d K : String} (q : (Cond.exactly (Term.static C n d) K).value a0 Z none Z [] = some true) (wi : (Cond.initialized C).before a0 Z = true) (wl : (Cond.laysStatic C n d).before a0 Z = true) : ∃ a, Sta Z Z.heap C n d (.ref a) ∧ Exa Z Z.heap a K ∧ (Term.static C n d).eval a0 Z none [] Z = some (.ref a) := by
  obtain ⟨a, c', cell, k, e1, -⟩ := Cond.exactly_spec (Cond.before_iff.mpr q)
  exact ⟨a, Sta.start e1 (Or.inr ⟨wi, wl⟩), Exa.start e1 q, e1⟩
theorem own_eqI {a0 : Array Value} {t : Term} {k : Int32} (q : (Cond.eq t (Term.int k)).value a0 Z none Z [] = some true) : t.eval a0 Z none [] Z = some (.int k) := by
  simp only [Cond.value] at q
  split at q <;> simp_all [Term.int_eval]
theorem own_fldI {a0 : Array Value} {t : Term} {O n d : String} {k : Int32} {a : Addr} (ev : t.eval a0 Z none [] Z = some (.ref a)) (q : (Cond.eq (Term.field t O n d) (Term.int k)).value a0 Z none Z [] = some true) : Fld Z Z.heap a O n d (.int k) := by
  have r : (Term.field t O n d).eval a0 Z none [] Z = some (.int k) := own_eqI q
  refine Fld.start ?_
  simpa [Term.eval, ev] using r
theorem own_intne {x y : Int32} (q : ¬ x = y) : Value.int x ≠ Value.int y := fun r => q (Value.int.inj r)
theorem own_fldN {a0 : Array Value} {t : Term} {O n d : String} {a : Addr} (ev : t.eval a0 Z none [] Z = some (.ref a)) (q : (Cond.eq (Term.field t O n d) Term.null).value a0 Z none Z [] = some true) : Fld Z Z.heap a O n d .null := by
  have r : (Term.field t O n d).eval a0 Z none [] Z = some .null := by
    have e0 : Term.null.eval a0 Z none [] Z = some .null := rfl
    simp only [Cond.value, e0] at q
    split at q <;> simp_all
  refine Fld.start ?_
  simpa [Term.eval, ev] using r
theorem own_nz {x : Int32} (q : x = 0 ∨ x = 1) : narrow .boolean (.int x) = .int x := by rcases q with rfl | rfl <;> rfl
theorem own_fz {x : Int32} (q : x = 0 ∨ x = 1) : fits .boolean (.int x) = true := by rcases q with rfl | rfl <;> rfl
theorem own_b01 {P : Prop} [Decidable P] {v : Int32} (hv : v = if P then 1 else 0) : v = 0 ∨ v = 1 := by rw [hv]; split <;> simp
theorem own_narR {C : String} {v : Value} (q : v.isRef = true) : narrow (.object C) v = v := by rcases ref_cases q with r | ⟨_, r⟩ <;> rw [r] <;> rfl
theorem own_fitR {C : String} {v : Value} (q : v.isRef = true) : fits (.object C) v = true := by rcases ref_cases q with r | ⟨_, r⟩ <;> rw [r] <;> rfl
theorem own_lenAt {a0 : Array Value} {t : Term} {k : Int32} {a : Addr} {cl : Cell} (ev : t.eval a0 Z none [] Z = some (.ref a)) (hA : Z.arrayAt? a = some cl) (q : (Term.length t).eval a0 Z none [] Z = some (.int k)) : cl.slots.size < 2 ^ 31 ∧ cl.slots.size.toInt32 = k := by
  by_cases hl : cl.slots.size < 2 ^ 31
  · rw [len_f ev hA hl] at q
    exact ⟨hl, Value.int.inj (Option.some.inj q)⟩
  · simp [Term.eval, ev, hA, hl] at q
theorem own_cast {L L' : List Loc} {k k' n n' : Nat} (X : Stand p l e R s m args below meth c T L k n) (q1 : L = L') (q2 : k = k') (q3 : n = n') : Stand p l e R s m args below meth c T L' k' n' := by
  subst q1 q2 q3
  exact X
theorem own_selP {a0 as' : Array Value} {y : MethodName} {n : Nat} (hZ : Z.Warmed39 s.vm) (wi : (Cond.instantiable y.cls n).before a0 Z = true) (wp : (Cond.privateMethod y).before a0 Z = true) (wm : (Cond.instanceMethod y).before a0 Z = true) (hy : y.cls ≠ "java/lang/invoke/MethodHandle" ∧ y.cls ≠ "java/lang/invoke/VarHandle") : (Cond.selects y.cls y y).before as' s = true := by
  obtain ⟨c, k, h1, h2, -, h4, -⟩ := Cond.instantiable_spec (mvT (args := as') hZ wi)
  simp only [Bool.or_eq_false_iff] at h4
  exact selects_self_of_private h1 h2 h4.1 (Cond.privateMethod_at (mvP (args := as') hZ wp)) (mvT hZ wm) hy
end Own
def own_enc : Nat → Nat → List Nat
  | 0, u => [35 + u]
  | f + 1, u => if u < 32 then [35 + u] else (93 + u % 32) :: own_enc f (u / 32)
def own_puts : List Value → Nat → List Nat → List Value
  | vs, _, [] => vs
  | vs, c, d :: ds => own_puts (vs.set c (.int (Int32.ofNat d))) (c + 1) ds
def own_z (a : Int32) : Nat := ((a <<< ((1 : Int32) &&& 31)) ^^^ (a >>> ((31 : Int32) &&& 31))).toUInt32.toNat
theorem own_enc_pos : ∀ (f u : Nat), 1 ≤ (own_enc f u).length
  | 0, _ => Nat.le_refl _
  | f + 1, u => by unfold own_enc; split <;> simp
theorem own_enc_len : ∀ (f u : Nat), (own_enc f u).length ≤ f + 1
  | 0, _ => Nat.le_refl _
  | f + 1, u => by
    unfold own_enc
    split
    · simp
    · have := own_enc_len f (u / 32)
      simp only [List.length_cons]
      omega
theorem own_enc_get : ∀ (f u i : Nat), i < (own_enc f u).length → (own_enc f u).getD i 0 = if i + 1 = (own_enc f u).length then 35 + u / 32 ^ i else 93 + (u / 32 ^ i) % 32
  | 0, u, i, h => by
    have : i = 0 := by simpa [own_enc] using h
    subst this
    simp [own_enc]
  | f + 1, u, i, h => by
    unfold own_enc at h ⊢
    split
    · rename_i q
      rw [if_pos q] at h
      have : i = 0 := by simpa using h
      subst this
      simp
    · rename_i q
      rw [if_neg q] at h
      cases i with
      | zero =>
        have := own_enc_pos f (u / 32)
        simp only [List.getD_cons_zero, List.length_cons, Nat.pow_zero, Nat.div_one]
        rw [if_neg (by omega)]
      | succ i =>
        have h' : i < (own_enc f (u / 32)).length := by simpa using h
        have ih := own_enc_get f (u / 32) i h'
        simp only [List.getD_cons_succ, List.length_cons]
        rw [ih, Nat.div_div_eq_div_mul, show 32 * 32 ^ i = 32 ^ (i + 1) from by rw [Nat.pow_succ, Nat.mul_comm]]
        simp only [Nat.add_right_cancel_iff]
theorem own_enc_last : ∀ (f u i : Nat), u < 32 ^ (f + 1) → i + 1 = (own_enc f u).length → u / 32 ^ i < 32
  | 0, u, i, h, e => by
    have : i = 0 := by simpa [own_enc] using e
    subst this
    simpa using h
  | f + 1, u, i, h, e => by
    unfold own_enc at e
    split at e
    · rename_i q
      have : i = 0 := by simpa using e
      subst this
      simpa using q
    · cases i with
      | zero =>
        have := own_enc_pos f (u / 32)
        simp only [List.length_cons] at e
        omega
      | succ i =>
        have e' : i + 1 = (own_enc f (u / 32)).length := by simpa using e
        have := own_enc_last f (u / 32) i (by rw [Nat.div_lt_iff_lt_mul (by decide), ← Nat.pow_succ]; exact h) e'
        rw [Nat.div_div_eq_div_mul, show 32 * 32 ^ i = 32 ^ (i + 1) from by rw [Nat.pow_succ, Nat.mul_comm]] at this
        exact this
theorem own_enc_small (f u i : Nat) (h : u < 32 ^ (f + 1)) (hi : i < (own_enc f u).length) : (own_enc f u).getD i 0 < 128 := by
  rw [own_enc_get f u i hi]
  split
  · rename_i q
    have := own_enc_last f u i h q
    omega
  · omega
theorem own_puts_len : ∀ (ds : List Nat) (vs : List Value) (c : Nat), (own_puts vs c ds).length = vs.length
  | [], _, _ => rfl
  | d :: ds, vs, c => by unfold own_puts; rw [own_puts_len ds, List.length_set]
theorem own_puts_old : ∀ (ds : List Nat) (vs : List Value) (c j : Nat) (dv : Value), j < c → (own_puts vs c ds).getD j dv = vs.getD j dv
  | [], _, _, _, _, _ => rfl
  | d :: ds, vs, c, j, dv, h => by
    unfold own_puts
    rw [own_puts_old ds _ (c + 1) j dv (by omega)]
    simp only [List.getD_eq_getElem?_getD]
    rw [List.getElem?_set_ne (by omega)]
theorem own_puts_new : ∀ (ds : List Nat) (vs : List Value) (c i : Nat) (dv : Value), i < ds.length → c + ds.length ≤ vs.length → (own_puts vs c ds).getD (c + i) dv = .int (Int32.ofNat (ds.getD i 0))
  | [], _, _, _, _, h, _ => by cases h
  | d :: ds, vs, c, i, dv, h, hl => by
    unfold own_puts
    simp only [List.length_cons] at h hl
    cases i with
    | zero =>
      show (own_puts (vs.set c (.int (Int32.ofNat d))) (c + 1) ds).getD c dv = _
      rw [own_puts_old ds _ (c + 1) c dv (by omega)]
      simp only [List.getD_eq_getElem?_getD, List.getD_cons_zero]
      rw [List.getElem?_set_self (by omega)]
      rfl
    | succ i =>
      have := own_puts_new ds (vs.set c (.int (Int32.ofNat d))) (c + 1) i dv (by omega) (by rw [List.length_set]; omega)
      rw [show c + (i + 1) = c + 1 + i from by omega, this, List.getD_cons_succ]
theorem own_nat {d : Nat} (h : d < 2147483648) : (Int32.ofNat d).toInt = d := Int32.toInt_ofNat_small (by omega)
theorem own_clamp {d : Nat} (h : d < 2147483648) : (Int32.ofNat d).toNatClampNeg = d := by
  simp only [Int32.toNatClampNeg, own_nat h]
  rfl
theorem own_unat (r : Int32) : (r.toInt = r.toUInt32.toNat ∧ r.toUInt32.toNat < 2147483648) ∨ (r.toInt = (r.toUInt32.toNat : Int) - 4294967296 ∧ 2147483648 ≤ r.toUInt32.toNat) := by
  have h1 : r.toInt = r.toBitVec.toInt := rfl
  have h2 : r.toUInt32.toNat = r.toBitVec.toNat := rfl
  have h3 := r.toBitVec.isLt
  rw [h1, h2, BitVec.toInt_eq_toNat_bmod, Int.bmod_def]
  split <;> omega
theorem own_i2c {x : Int32} (h0 : 0 ≤ x.toInt) (h1 : x.toInt < 65536) : x.toUInt32.toUInt16.toUInt32.toInt32 = x := by
  have hu := own_unat x
  have hl := x.toUInt32.toNat_lt
  apply Int32.toBitVec_inj.mp
  apply BitVec.eq_of_toNat_eq
  show x.toUInt32.toUInt16.toUInt32.toNat = x.toUInt32.toNat
  rw [UInt16.toNat_toUInt32, UInt32.toNat_toUInt16]
  omega
theorem own_i2b {x : Int32} (h0 : 0 ≤ x.toInt) (h1 : x.toInt < 128) : x.toInt8.toInt32 = x := by
  rw [← Int32.toInt_inj, Int8.toInt_toInt32, Int32.toInt_toInt8, Int.bmod_def]
  split <;> omega
def own_ch (c : Int32) : Int32 := (c &&& (255 : Int32)).toUInt32.toUInt16.toUInt32.toInt32
theorem own_ch_small {d : Nat} (h : d < 128) : own_ch (Int32.ofNat d) = Int32.ofNat d := by
  have e := own_nat (d := d) (by omega)
  have m := Jvm.Kit.i32_mask (Int32.ofNat d) 255 (k := 8) (by decide) (by decide)
  have q : (Int32.ofNat d &&& (255 : Int32)) = Int32.ofNat d := by rw [← Int32.toInt_inj, m, e]; omega
  unfold own_ch
  rw [q, own_i2c (by omega) (by omega)]
theorem own_chN (c : Int32) : narrow .char (.int (own_ch c)) = .int (own_ch c) := by
  have m := Jvm.Kit.i32_mask c 255 (k := 8) (by decide) (by decide)
  have q : own_ch c = (c &&& (255 : Int32)) := own_i2c (by omega) (by omega)
  show Value.int ((own_ch c).toUInt32.toUInt16.toUInt32.toInt32) = _
  rw [q, own_i2c (by omega) (by omega)]
theorem own_sb {x : Int32} {d : Nat} (e : x.toInt = d) (h : d < 128) : nar .byte ((x.toUInt32.toUInt16.toUInt32.toInt32).toInt8.toInt32) = Int32.ofNat d := by
  have en := own_nat (d := d) (by omega)
  have q : x = Int32.ofNat d := by rw [← Int32.toInt_inj, e, en]
  show ((x.toUInt32.toUInt16.toUInt32.toInt32).toInt8.toInt32).toInt8.toInt32 = _
  rw [own_i2c (by omega) (by omega), own_i2b (x := x) (by omega) (by omega), own_i2b (x := x) (by omega) (by omega), q]
theorem own_sc {x : Int32} {d : Nat} (e : x.toInt = d) (h : d < 128) : ¬ (255 : Int32) < (x.toUInt32.toUInt16.toUInt32.toInt32) := by
  rw [own_i2c (by omega) (by omega), Int32.lt_iff_toInt_lt, e]
  have : (255 : Int32).toInt = 255 := rfl
  omega
theorem own_a93 (r : Int32) : ((93 : Int32) + (r &&& (31 : Int32))).toInt = ((93 + r.toUInt32.toNat % 32 : Nat) : Int) := by
  have m := Jvm.Kit.i32_mask r 31 (k := 5) (by decide) (by decide)
  have c : (93 : Int32).toInt = 93 := rfl
  have hu := own_unat r
  rw [Jvm.Kit.i32_add (by omega) (by omega), m, c]
  omega
theorem own_a35 {r : Int32} (h : r.toUInt32.toNat < 32) : ((35 : Int32) + r).toInt = ((35 + r.toUInt32.toNat : Nat) : Int) := by
  have c : (35 : Int32).toInt = 35 := rfl
  have hu := own_unat r
  rw [Jvm.Kit.i32_add (by omega) (by omega), c]
  omega
theorem own_shr5 (r : Int32) : ((r.toUInt32 >>> ((5 : Int32) &&& 31).toUInt32).toInt32).toUInt32.toNat = r.toUInt32.toNat / 32 := by
  show (r.toUInt32 >>> ((5 : Int32) &&& 31).toUInt32).toNat = _
  rw [UInt32.toNat_shiftRight, show ((5 : Int32) &&& 31).toUInt32.toNat % 32 = 5 from by decide, Nat.shiftRight_eq_div_pow]
theorem own_m32 (r : Int32) : ((r &&& (-32 : Int32)) = (0 : Int32)) ↔ r.toUInt32.toNat < 32 := by
  have split : r.toBitVec.toNat = (r.toBitVec &&& 31#32).toNat + (r.toBitVec &&& (-32 : Int32).toBitVec).toNat := by
    have d : (r.toBitVec &&& 31#32) &&& (r.toBitVec &&& (-32 : Int32).toBitVec) = 0#32 := by
      rw [BitVec.and_assoc, ← BitVec.and_assoc (31#32), BitVec.and_comm (31#32) r.toBitVec, BitVec.and_assoc, show (31#32 &&& (-32 : Int32).toBitVec) = 0#32 from by decide]
      simp
    have o : r.toBitVec = (r.toBitVec &&& 31#32) ||| (r.toBitVec &&& (-32 : Int32).toBitVec) := by
      rw [← BitVec.and_or_distrib_left, show (31#32 ||| (-32 : Int32).toBitVec) = BitVec.allOnes 32 from by decide, BitVec.and_allOnes]
    have s : (r.toBitVec &&& 31#32) + (r.toBitVec &&& (-32 : Int32).toBitVec) = (r.toBitVec &&& 31#32) ||| (r.toBitVec &&& (-32 : Int32).toBitVec) := BitVec.add_eq_or_of_and_eq_zero _ _ d
    have n := congrArg BitVec.toNat (o.trans s.symm)
    rw [BitVec.toNat_add] at n
    have b1 : (r.toBitVec &&& 31#32).toNat ≤ 31 := by rw [BitVec.toNat_and]; exact Nat.and_le_right
    have b2 : (r.toBitVec &&& (-32 : Int32).toBitVec).toNat ≤ 4294967264 := by rw [BitVec.toNat_and]; exact Nat.and_le_right
    omega
  have b1 : (r.toBitVec &&& 31#32).toNat = r.toBitVec.toNat % 32 := by rw [BitVec.toNat_and]; exact Nat.and_two_pow_sub_one_eq_mod _ 5
  have u : r.toUInt32.toNat = r.toBitVec.toNat := rfl
  constructor
  · intro h
    have z : (r.toBitVec &&& (-32 : Int32).toBitVec).toNat = 0 := by
      have := congrArg (fun z : Int32 => z.toBitVec.toNat) h
      simpa using this
    omega
  · intro h
    apply Int32.toBitVec_inj.mp
    apply BitVec.eq_of_toNat_eq
    show (r.toBitVec &&& (-32 : Int32).toBitVec).toNat = 0
    omega
theorem own_ult (a : Int32) : own_z a < 32 ^ 7 := by
  have := (((a <<< ((1 : Int32) &&& 31)) ^^^ (a >>> ((31 : Int32) &&& 31))).toUInt32).toNat_lt
  unfold own_z
  omega
theorem own_zig (a : Int32) : (own_z a : Int) = if a.toInt < 0 then -2 * a.toInt - 1 else 2 * a.toInt := by
  have sh := Jvm.Kit.i32_shr a ((31 : Int32) &&& 31) (k := 31) (by decide)
  have hu := own_unat a
  have hl := a.toUInt32.toNat_lt
  have e1 : (a <<< ((1 : Int32) &&& 31)).toUInt32.toNat = (2 * a.toUInt32.toNat) % 4294967296 := by
    show (a <<< ((1 : Int32) &&& 31)).toBitVec.toNat = _
    rw [Int32.toBitVec_shiftLeft, show ((1 : Int32) &&& 31).toBitVec.smod 32 = 1#32 from by decide]
    show (a.toBitVec <<< 1#32).toNat = _
    rw [BitVec.shiftLeft_eq', BitVec.toNat_shiftLeft, Nat.shiftLeft_eq]
    show a.toUInt32.toNat * 2 ^ 1 % 2 ^ 32 = _
    omega
  unfold own_z
  by_cases h : a.toInt < 0
  · rw [if_pos h]
    have q : a >>> ((31 : Int32) &&& 31) = -1 := by
      have c : (-1 : Int32).toInt = -1 := rfl
      rw [← Int32.toInt_inj, sh, c]
      omega
    rw [q]
    have e2 : ((a <<< ((1 : Int32) &&& 31)) ^^^ (-1 : Int32)).toUInt32.toNat = 4294967295 - (a <<< ((1 : Int32) &&& 31)).toUInt32.toNat := by
      show ((a <<< ((1 : Int32) &&& 31)).toBitVec ^^^ (-1 : Int32).toBitVec).toNat = _
      rw [show (-1 : Int32).toBitVec = BitVec.allOnes 32 from by decide, BitVec.xor_allOnes, BitVec.toNat_not]
      rfl
    rw [e2, e1]
    omega
  · rw [if_neg h]
    have q : a >>> ((31 : Int32) &&& 31) = 0 := by
      have c : (0 : Int32).toInt = 0 := rfl
      rw [← Int32.toInt_inj, sh, c]
      omega
    rw [q, Int32.xor_zero, e1]
    omega
theorem own_zl {a : Int32} : (own_z a) < 4294967296 := (((a <<< ((1 : Int32) &&& 31)) ^^^ (a >>> ((31 : Int32) &&& 31))).toUInt32).toNat_lt
theorem own_zg0 {a : Int32} (h : ¬ a.toInt64 < (0 : Int64)) : ((2 : Int64) * a.toInt64).toInt = (own_z a : Int) := by
  have c2 : (2 : Int64).toInt = 2 := rfl
  have c0 : (0 : Int64).toInt = 0 := rfl
  have z := own_zig a
  have r1 := a.le_toInt
  have r2 := a.toInt_lt
  rw [Int64.lt_iff_toInt_lt, c0, Int32.toInt_toInt64] at h
  rw [if_neg h] at z
  rw [Jvm.Kit.i64_mul (by rw [c2, Int32.toInt_toInt64]; omega) (by rw [c2, Int32.toInt_toInt64]; omega), c2, Int32.toInt_toInt64, z]
theorem own_zg1 {a : Int32} (h : a.toInt64 < (0 : Int64)) : (((-2 : Int64) * a.toInt64) - (1 : Int64)).toInt = (own_z a : Int) := by
  have c2 : (-2 : Int64).toInt = -2 := rfl
  have c1 : (1 : Int64).toInt = 1 := rfl
  have c0 : (0 : Int64).toInt = 0 := rfl
  have z := own_zig a
  have r1 := a.le_toInt
  have r2 := a.toInt_lt
  rw [Int64.lt_iff_toInt_lt, c0, Int32.toInt_toInt64] at h
  rw [if_pos h] at z
  have m := Jvm.Kit.i64_mul (x := (-2 : Int64)) (y := a.toInt64) (by rw [c2, Int32.toInt_toInt64]; omega) (by rw [c2, Int32.toInt_toInt64]; omega)
  rw [c2, Int32.toInt_toInt64] at m
  rw [Jvm.Kit.i64_sub (by rw [m, c1]; omega) (by rw [m, c1]; omega), m, c1, z]
theorem own_elen (U : Nat) : (own_enc 6 U).length = if U < 32 then 1 else if U < 1024 then 2 else if U < 32768 then 3 else if U < 1048576 then 4 else if U < 33554432 then 5 else if U < 1073741824 then 6 else 7 := by
  simp only [own_enc]
  by_cases h1 : U < 32
  · simp [h1]
  · rw [if_neg h1, if_neg h1]
    by_cases h2 : U < 1024
    · rw [if_pos h2, if_pos (by omega)]; rfl
    · rw [if_neg h2, if_neg (by omega)]
      by_cases h3 : U < 32768
      · rw [if_pos h3, if_pos (by omega)]; rfl
      · rw [if_neg h3, if_neg (by omega)]
        by_cases h4 : U < 1048576
        · rw [if_pos h4, if_pos (by omega)]; rfl
        · rw [if_neg h4, if_neg (by omega)]
          by_cases h5 : U < 33554432
          · rw [if_pos h5, if_pos (by omega)]; rfl
          · rw [if_neg h5, if_neg (by omega)]
            by_cases h6 : U < 1073741824
            · rw [if_pos h6, if_pos (by omega)]; rfl
            · rw [if_neg h6, if_neg (by omega)]; rfl
theorem own_lenI {q : Int64} {U : Nat} (h : q.toInt = U) : Int32.ofNat (own_enc 6 U).length = if q < (32 : Int64) then (1 : Int32) else if q < (1024 : Int64) then 2 else if q < (32768 : Int64) then 3 else if q < (1048576 : Int64) then 4 else if q < (33554432 : Int64) then 5 else if q < (1073741824 : Int64) then 6 else 7 := by
  have e1 : (q < (32 : Int64)) = (U < 32) := by rw [Int64.lt_iff_toInt_lt, h]; exact propext Int.ofNat_lt
  have e2 : (q < (1024 : Int64)) = (U < 1024) := by rw [Int64.lt_iff_toInt_lt, h]; exact propext Int.ofNat_lt
  have e3 : (q < (32768 : Int64)) = (U < 32768) := by rw [Int64.lt_iff_toInt_lt, h]; exact propext Int.ofNat_lt
  have e4 : (q < (1048576 : Int64)) = (U < 1048576) := by rw [Int64.lt_iff_toInt_lt, h]; exact propext Int.ofNat_lt
  have e5 : (q < (33554432 : Int64)) = (U < 33554432) := by rw [Int64.lt_iff_toInt_lt, h]; exact propext Int.ofNat_lt
  have e6 : (q < (1073741824 : Int64)) = (U < 1073741824) := by rw [Int64.lt_iff_toInt_lt, h]; exact propext Int.ofNat_lt
  rw [own_elen]
  simp only [e1, e2, e3, e4, e5, e6]
  repeat' split
  all_goals rfl
theorem own_succ (n : Nat) : Int32.ofNat n + (1 : Int32) = Int32.ofNat (n + 1) := (Int32.ofNat_add n 1).symm
theorem own_nn {n : Nat} (h : n < 16) : ¬ Int32.ofNat n < 0 := by
  have c : (0 : Int32).toInt = 0 := rfl
  rw [Int32.lt_iff_toInt_lt, own_nat (by omega), c]
  omega
theorem own_l16 {n : Nat} (h : n < 16) : Int32.ofNat n < (16 : Int32) := by
  have c : (16 : Int32).toInt = 16 := rfl
  rw [Int32.lt_iff_toInt_lt, own_nat (by omega), c]
  omega
theorem own_n16 {n : Nat} (h : n < 16) : ¬ Int32.ofNat n = (16 : Int32) := by
  have c : (16 : Int32).toInt = 16 := rfl
  rw [← Int32.toInt_inj, own_nat (by omega), c]
  omega
theorem own_cap1 {n : Nat} (h : n < 16) : ¬ (0 : Int32) < ((Int32.ofNat n + (1 : Int32)) - (16 : Int32)) := by
  have c : (16 : Int32).toInt = 16 := rfl
  have c0 : (0 : Int32).toInt = 0 := rfl
  have e := own_nat (d := n + 1) (by omega)
  rw [own_succ, Int32.lt_iff_toInt_lt, c0, Jvm.Kit.i32_sub (by omega) (by omega), e, c]
  omega
theorem own_shr0 (x : Int32) : x >>> ((0 : Int32) &&& 31) = x := by
  rw [← Int32.toInt_inj, Jvm.Kit.i32_shr x ((0 : Int32) &&& 31) (k := 0) (by decide)]
  simp
theorem own_cpget {vd us vs : List Value} {n : Nat} {dv : Value} (hu : us = (List.range n).map fun i => vs.getD ((0 : Int32).toNatClampNeg + i) dv) (i : Nat) (hi : i < n) (l : List Value) : (vd.take ((0 : Int32).toNatClampNeg) ++ us ++ l).getD i dv = vs.getD i dv := by
  have z : (0 : Int32).toNatClampNeg = 0 := rfl
  subst hu
  simp only [z, List.take_zero, List.nil_append, Nat.zero_add]
  rw [List.getD_eq_getElem?_getD, List.getElem?_append_left (by simpa using hi)]
  simp [hi]
theorem own_dg {vn : List Value} {C2 o U : Nat} {p1 p3 p4 : Int32} {q : Int64} (i : Nat) (hp1 : p1 = Int32.ofNat o) (hp4 : p4 = Int32.ofNat i) (hp3 : p3 = Int32.ofNat (own_enc 6 U).length) (hq : q.toInt = U) (hU : U < 4294967296)
    (hvn : ∀ j, j < (own_enc 6 U).length → vn.getD (o + j) (.int (0 : Int32)) = .int (Int32.ofNat ((own_enc 6 U).getD j 0))) (ho : o + (own_enc 6 U).length ≤ C2) (hC : C2 < 100) (hi : i < 7) (hs : ((((5 : Int32) * p4) &&& 0x3f).toInt64.toBitVec.smod 64).toNat = 5 * i) :
    p4 < p3 → (¬ (p1 + p4) < 0 ∧ (p1 + p4) < Int32.ofNat C2 ∧ vn.getD (p1 + p4).toNatClampNeg (.int (0 : Int32)) = (.int (Int32.ofNat ((own_enc 6 U).getD i 0))) ∧ own_ch (Int32.ofNat ((own_enc 6 U).getD i 0)) = (if (p4 = (p3 - (1 : Int32))) then ((((35 : Int64) + (q >>> (((5 : Int32) * p4) &&& 0x3f).toInt64)).toInt32).toUInt32.toUInt16.toUInt32.toInt32) else ((((93 : Int64) + ((q >>> (((5 : Int32) * p4) &&& 0x3f).toInt64) &&& (31 : Int64))).toInt32).toUInt32.toUInt16.toUInt32.toInt32))) := by
  intro hlt
  have hle := own_enc_len 6 U
  have hpo := own_enc_pos 6 U
  have hil : i < (own_enc 6 U).length := by
    rw [hp4, hp3, Int32.lt_iff_toInt_lt, own_nat (by omega), own_nat (by omega)] at hlt
    omega
  have e12 : p1 + p4 = Int32.ofNat (o + i) := by rw [hp1, hp4]; exact (Int32.ofNat_add o i).symm
  have c0 : (0 : Int32).toInt = 0 := rfl
  have c35 : (35 : Int64).toInt = 35 := rfl
  have c93 : (93 : Int64).toInt = 93 := rfl
  have sm := own_enc_small 6 U i (by omega) hil
  have sh := Jvm.Kit.i64_shr q _ hs
  have pw : (2 : Int) ^ (5 * i) = ((32 ^ i : Nat) : Int) := by
    rw [Int.pow_mul]
    push_cast
    rfl
  rw [hq, pw, ← Int.natCast_ediv] at sh
  have eqn : (p4 = (p3 - (1 : Int32))) = (i + 1 = (own_enc 6 U).length) := by
    apply propext
    have c1 : (1 : Int32).toInt = 1 := rfl
    have e3 : (p3 - (1 : Int32)).toInt = ((own_enc 6 U).length : Int) - 1 := by
      rw [hp3, Jvm.Kit.i32_sub (by rw [own_nat (by omega), c1]; omega) (by rw [own_nat (by omega), c1]; omega), own_nat (by omega), c1]
    rw [← Int32.toInt_inj, e3, hp4, own_nat (by omega)]
    omega
  refine ⟨?_, ?_, ?_, ?_⟩
  · rw [e12, Int32.lt_iff_toInt_lt, own_nat (by omega), c0]
    omega
  · rw [e12, Int32.lt_iff_toInt_lt, own_nat (by omega), own_nat (by omega)]
    omega
  · rw [e12, own_clamp (by omega)]
    exact hvn i hil
  · rw [own_ch_small sm]
    have g := own_enc_get 6 U i hil
    generalize (own_enc 6 U).getD i 0 = d at g sm ⊢
    by_cases h : i + 1 = (own_enc 6 U).length
    · rw [if_pos h] at g
      rw [if_pos (by rw [eqn]; exact h)]
      have a : ((35 : Int64) + (q >>> (((5 : Int32) * p4) &&& 0x3f).toInt64)).toInt = (d : Int) := by
        rw [Jvm.Kit.i64_add (by omega) (by omega), c35, sh, g]
        push_cast
        rfl
      have b := Jvm.Kit.i32_of_i64 (x := ((35 : Int64) + (q >>> (((5 : Int32) * p4) &&& 0x3f).toInt64))) (by omega) (by omega)
      rw [own_i2c (by omega) (by omega), ← Int32.toInt_inj, b, a, own_nat (by omega)]
    · rw [if_neg h] at g
      rw [if_neg (by rw [eqn]; exact h)]
      have m := Jvm.Kit.i64_mask (q >>> (((5 : Int32) * p4) &&& 0x3f).toInt64) 31 (k := 5) (by decide) (by decide)
      have a : ((93 : Int64) + ((q >>> (((5 : Int32) * p4) &&& 0x3f).toInt64) &&& (31 : Int64))).toInt = (d : Int) := by
        rw [Jvm.Kit.i64_add (by omega) (by omega), c93, m, sh, g]
        push_cast
        rfl
      have b := Jvm.Kit.i32_of_i64 (x := ((93 : Int64) + ((q >>> (((5 : Int32) * p4) &&& 0x3f).toInt64) &&& (31 : Int64)))) (by omega) (by omega)
      rw [own_i2c (by omega) (by omega), ← Int32.toInt_inj, b, a, own_nat (by omega)]
theorem own_same {Z : State} {a0 : Array Value} {y z : MethodName} {C : String} (wd : (Cond.declares y).before a0 Z = true) (wsel : (Cond.selects C z z).before a0 Z = true) (hc : z.cls = y.cls) (hy : y.cls ≠ "java/lang/invoke/MethodHandle" ∧ y.cls ≠ "java/lang/invoke/VarHandle") : (Cond.sameMethod y.cls y.cls y.name y.desc).before a0 Z = true := by
  obtain ⟨m, meth, h1, -⟩ := Cond.declares_spec wd
  have f := State.methodFound?_of_named h1 hy
  obtain ⟨_, _, m2, -, -, q3, -, k, hk, hi⟩ := Cond.selects_spec wsel
  have c1 := findClass_of_methodNamed h1
  have c2 := findClass_of_methodNamed q3
  rw [hc, c1] at c2
  rw [← Option.some.inj c2] at hk
  simp [Cond.before, Cond.holds, Cond.value, c1, f, h1, hk, hi]
theorem own_nf {s : State} {args : Array Value} {y z : MethodName} {C : String} (wsel : (Cond.selects C z z).before args s = true) (hc : z.cls = y.cls) : NotFace s y := fun r0 h0 => by
  obtain ⟨_, _, m2, -, -, q3, -, k, hk, hi⟩ := Cond.selects_spec wsel
  have c1 := findClass_of_methodNamed h0
  have c2 := findClass_of_methodNamed q3
  rw [hc, c1] at c2
  rw [← Option.some.inj c2] at hk
  exact ⟨k, hk, hi⟩
theorem own_selQ {Z s : State} {a0 as' : Array Value} {y : MethodName} {C : String} (hZ : Z.Warmed39 s.vm) (ws : (Cond.selects C y y).before a0 Z = true) (wp : (Cond.privateMethod y).before a0 Z = true) (wm : (Cond.instanceMethod y).before a0 Z = true) (hy : y.cls ≠ "java/lang/invoke/MethodHandle" ∧ y.cls ≠ "java/lang/invoke/VarHandle") : (Cond.selects y.cls y y).before as' s = true := by
  obtain ⟨_, _, m2, -, -, q3, -, k, hk, hi⟩ := Cond.selects_spec (mvT (args := as') hZ ws)
  exact selects_self_of_private (findClass_of_methodNamed q3) hk hi (Cond.privateMethod_at (mvP (args := as') hZ wp)) (mvT hZ wm) hy
theorem own_tot {r r' : Int32} {u v : Nat} (h : r = Int32.ofNat (own_enc 6 u).length) (h' : r' = Int32.ofNat (own_enc 6 v).length) : Int32.ofNat ((0 + (own_enc 6 u).length) + (own_enc 6 v).length) = r + r' := by
  rw [h, h', Nat.zero_add]
  exact Int32.ofNat_add _ _
theorem own_first {vn vs : List Value} {u v : Nat} {dv : Value} (hv : vs.length = 16) (cp : ∀ i, i < (0 + (own_enc 6 u).length) + (own_enc 6 v).length → vn.getD i dv = (own_puts (own_puts vs 0 (own_enc 6 u)) (0 + (own_enc 6 u).length) (own_enc 6 v)).getD i dv) : ∀ j, j < (own_enc 6 u).length → vn.getD (0 + j) dv = .int (Int32.ofNat ((own_enc 6 u).getD j 0)) := fun j hj => by
  have l1 := own_enc_len 6 u
  rw [cp (0 + j) (by omega), own_puts_old _ _ _ _ _ (by omega), own_puts_new _ _ 0 j dv hj (by omega)]
theorem own_second {vn vs : List Value} {u v : Nat} {dv : Value} (hv : vs.length = 16) (cp : ∀ i, i < (0 + (own_enc 6 u).length) + (own_enc 6 v).length → vn.getD i dv = (own_puts (own_puts vs 0 (own_enc 6 u)) (0 + (own_enc 6 u).length) (own_enc 6 v)).getD i dv) : ∀ j, j < (own_enc 6 v).length → vn.getD ((own_enc 6 u).length + j) dv = .int (Int32.ofNat ((own_enc 6 v).getD j 0)) := fun j hj => by
  have l1 := own_enc_len 6 u
  have l2 := own_enc_len 6 v
  have q := own_puts_new (own_enc 6 v) (own_puts vs 0 (own_enc 6 u)) (0 + (own_enc 6 u).length) j dv hj (by rw [own_puts_len]; omega)
  rw [cp _ (by omega)]
  rw [show (own_enc 6 u).length + j = 0 + (own_enc 6 u).length + j from by omega]
  exact q
theorem own_ne0 {Z : State} {a0 : Array Value} {t : Term} {w : Int32} (ev : t.eval a0 Z none [] Z = some (.int w)) (q : (Cond.not (Cond.eq t (Term.int (0 : Int32)))).value a0 Z none Z [] = some true) : ¬ w = (0 : Int32) := by
  intro h
  subst h
  simp [Cond.value, ev, Term.int_eval] at q
theorem own_isR {Z : State} {a0 : Array Value} {t : Term} (q : (Cond.isRef t).value a0 Z none Z [] = some true) : ∃ v, t.eval a0 Z none [] Z = some v ∧ v.isRef = true := by
  simp only [Cond.value, Option.map_eq_some_iff] at q
  obtain ⟨v, h1, h2⟩ := q
  refine ⟨v, h1, ?_⟩
  cases v <;> simp_all [Value.isRef]

theorem pd_0 : parseMethodDescriptor "(I)V" = some ⟨[.int], none⟩ := by decide +kernel
theorem pd_1 : parseMethodDescriptor "()V" = some ⟨[], none⟩ := by decide +kernel
theorem pd_2 : parseMethodDescriptor "()Z" = some ⟨[], some .boolean⟩ := by decide +kernel
theorem pd_3 : parseMethodDescriptor "(C)Z" = some ⟨[.char], some .boolean⟩ := by decide +kernel
theorem pd_4 : parseMethodDescriptor "(C)Ljava/lang/AbstractStringBuilder;" = some ⟨[.char], some (.object "java/lang/AbstractStringBuilder")⟩ := by decide +kernel
theorem pd_5 : parseMethodDescriptor "(C)Ljava/lang/StringBuilder;" = some ⟨[.char], some (.object "java/lang/StringBuilder")⟩ := by decide +kernel
theorem pd_6 : parseMethodDescriptor "()I" = some ⟨[], some .int⟩ := by decide +kernel
theorem pd_7 : parseMethodDescriptor "(II)V" = some ⟨[.int, .int], none⟩ := by decide +kernel
theorem pd_8 : parseMethodDescriptor "(II)I" = some ⟨[.int, .int], some .int⟩ := by decide +kernel
theorem pd_9 : parseMethodDescriptor "([BII)[B" = some ⟨[(.array .byte), .int, .int], some (.array .byte)⟩ := by decide +kernel
theorem pd_10 : parseMethodDescriptor "()[B" = some ⟨[], some (.array .byte)⟩ := by decide +kernel
theorem pd_11 : parseMethodDescriptor "(Ljava/lang/AbstractStringBuilder;Ljava/lang/Void;)V" = some ⟨[(.object "java/lang/AbstractStringBuilder"), (.object "java/lang/Void")], none⟩ := by decide +kernel
theorem pd_12 : parseMethodDescriptor "(Ljava/lang/StringBuilder;)V" = some ⟨[(.object "java/lang/StringBuilder")], none⟩ := by decide +kernel
theorem pd_13 : parseMethodDescriptor "()Ljava/lang/String;" = some ⟨[], some (.object "java/lang/String")⟩ := by decide +kernel
theorem pd_14 : parseMethodDescriptor "()B" = some ⟨[], some .byte⟩ := by decide +kernel
theorem pd_15 : parseMethodDescriptor "(IILjava/util/function/BiFunction;)I" = some ⟨[.int, .int, (.object "java/util/function/BiFunction")], some .int⟩ := by decide +kernel
theorem pd_16 : parseMethodDescriptor "([BI)C" = some ⟨[(.array .byte), .int], some .char⟩ := by decide +kernel
theorem pd_17 : parseMethodDescriptor "(I)C" = some ⟨[.int], some .char⟩ := by decide +kernel
theorem pd_18 : parseMethodDescriptor "(Ljava/lang/String;IJII)Z" = some ⟨[(.object "java/lang/String"), .int, .long, .int, .int], some .boolean⟩ := by decide +kernel
theorem pd_19 : parseMethodDescriptor "(I)J" = some ⟨[.int], some .long⟩ := by decide +kernel
theorem pd_20 : parseMethodDescriptor "(J)I" = some ⟨[.long], some .int⟩ := by decide +kernel
theorem pd_21 : parseMethodDescriptor "(Ljava/lang/String;IJI)Z" = some ⟨[(.object "java/lang/String"), .int, .long, .int], some .boolean⟩ := by decide +kernel
theorem pn_13 : plainName "java/lang/AbstractStringBuilder" = true := by first | (simp [plainName, overriddenIn]; done) | decide +kernel
theorem pn_18 : plainName "java/lang/StringBuilder" = true := by first | (simp [plainName, overriddenIn]; done) | decide +kernel
theorem pn_27 : plainName "com/example/parsewright/parsewright/runtime/Packing$Writer" = true := by first | (simp [plainName, overriddenIn]; done) | decide +kernel
theorem pn_42 : plainName "java/lang/StringLatin1" = true := by first | (simp [plainName, overriddenIn]; done) | decide +kernel
theorem pn_137 : plainName "java/util/Arrays" = true := by first | (simp [plainName, overriddenIn]; done) | decide +kernel
theorem pn_200 : plainName "java/lang/String" = true := by first | (simp [plainName, overriddenIn]; done) | decide +kernel
theorem pn_232 : plainName "com/example/parsewright/parsewright/runtime/WriterNumberPinLaw" = true := by first | (simp [plainName, overriddenIn]; done) | decide +kernel
theorem pn_299 : plainName "jdk/internal/util/Preconditions" = true := by first | (simp [plainName, overriddenIn]; done) | decide +kernel
theorem d4_0 : decode jdk_68_method_2_code 0 = .ok (.aload_n 0, 1) := by decide +kernel
theorem d4_1 : decode jdk_68_method_2_code 1 = .ok (.invokespecial 3, 3) := by decide +kernel
theorem d4_4 : decode jdk_68_method_2_code 4 = .ok (.getstatic 18, 3) := by decide +kernel
theorem d4_7 : decode jdk_68_method_2_code 7 = .ok (.ifCond .eq 18, 3) := by decide +kernel
theorem d4_10 : decode jdk_68_method_2_code 10 = .ok (.aload_n 0, 1) := by decide +kernel
theorem d4_11 : decode jdk_68_method_2_code 11 = .ok (.iload_n 1, 1) := by decide +kernel
theorem d4_12 : decode jdk_68_method_2_code 12 = .ok (.newarray .byte, 2) := by decide +kernel
theorem d4_14 : decode jdk_68_method_2_code 14 = .ok (.putfield 15, 3) := by decide +kernel
theorem d4_17 : decode jdk_68_method_2_code 17 = .ok (.aload_n 0, 1) := by decide +kernel
theorem d4_18 : decode jdk_68_method_2_code 18 = .ok (.iconst 0, 1) := by decide +kernel
theorem d4_19 : decode jdk_68_method_2_code 19 = .ok (.putfield 22, 3) := by decide +kernel
theorem d4_22 : decode jdk_68_method_2_code 22 = .ok (.goto 16, 3) := by decide +kernel
theorem d4_38 : decode jdk_68_method_2_code 38 = .ok (.return_, 1) := by decide +kernel
theorem ef_4 (m : MethodId) (xa : Addr) : entryFrame m #[(.ref xa), (.int (16 : Int32))] 2 = mkF m 0 #[.val (.ref xa), .val (.int (16 : Int32))] [] := by first | (simp [entryFrame, mkF, argsToLocals, Value.category]; done) | rfl
def Q4 (Z : State) (xa : Addr) (wc : Int32) (u0 : Value) (u1 : Value) (u2 : Value) (h0 : Heap) (n0 : Nat) (v : Option Value) (h : Heap) (L : List Loc) : Prop := ∃ (yb : Addr) (kb : ClassId), v = none ∧ Fr n0 L ∧ Keep h0 h [xa] ∧ Exa Z h xa "java/lang/StringBuilder" ∧ Fld Z h xa "java/lang/AbstractStringBuilder" "value" "[B" (.ref yb) ∧ Fld Z h xa "java/lang/AbstractStringBuilder" "coder" "B" (.int (0 : Int32)) ∧ Fld Z h xa "java/lang/AbstractStringBuilder" "count" "I" u2 ∧ Arv Z h yb kb .byte (16 : Int32) [(.int (0 : Int32)), (.int (0 : Int32)), (.int (0 : Int32)), (.int (0 : Int32)), (.int (0 : Int32)), (.int (0 : Int32)), (.int (0 : Int32)), (.int (0 : Int32)), (.int (0 : Int32)), (.int (0 : Int32)), (.int (0 : Int32)), (.int (0 : Int32)), (.int (0 : Int32)), (.int (0 : Int32)), (.int (0 : Int32)), (.int (0 : Int32))] (.int (0 : Int32)) ∧ n0 ≤ yb ∧ h0.size ≤ yb
set_option maxRecDepth 65536 in
set_option maxHeartbeats 40000000 in
theorem rm4 (l : Launch) (Z : State) (a0 : Array Value) (hw : ∀ d ∈ tables_1, d.before a0 Z = true) (ws : List Jvm.Cond) (xa : Addr) (wc : Int32) (u0 : Value) (u1 : Value) (u2 : Value) (h0 : Heap) (n0 : Nat) (Z0 : n0 ≤ h0.size) (f0_xa : Exa Z h0 xa "java/lang/StringBuilder") (f1_xa_value : Fld Z h0 xa "java/lang/AbstractStringBuilder" "value" "[B" u0) (f2_xa_coder : Fld Z h0 xa "java/lang/AbstractStringBuilder" "coder" "B" u1) (f3_xa_count : Fld Z h0 xa "java/lang/AbstractStringBuilder" "count" "I" u2) (f4_COMPACT_STRINGS : Sta Z h0 "java/lang/String" "COMPACT_STRINGS" "Z" (.int wc)) (g_xa : n0 ≤ xa) (hwc : ¬ wc = (0 : Int32)) :
    MetFree l (⟨"java/lang/AbstractStringBuilder", "<init>", "(I)V"⟩ : MethodName) (head1 (Jvm.Cond.code (⟨"java/lang/AbstractStringBuilder", "<init>", "(I)V"⟩ : MethodName) jdk_68_method_2_code 2 none :: ws) ({ frames := 1, cells := 1, slots := 16, locals := 12 } : Room)) (fun a U => a = #[(.ref xa), (.int (16 : Int32))] ∧ Z.Warmed39 U.vm ∧ U.heap = h0) (fun _ _ _ _ _ => True) (fun _ U o U' => ∃ v L, o = .returned v ∧ Q4 Z xa wc u0 u1 u2 h0 n0 v U'.heap L ∧ FrameEnd U o U' L 1 16) := by
  refine MetFree.of_bodySF (plainFor_of_name pn_13) hisR ?_
  intro p e s m args below meth c s₁ Bd hml0 hP hK
  obtain ⟨rfl, hZ, hh⟩ := hP
  have hx := Bd.exec
  have hby := Bd.bytes
  have hml : c.maxLocals = 2 := hml0
  have hown : s.vm.findClass "java/lang/AbstractStringBuilder" = some m.cls := findClass_of_methodNamed Bd.named
  have hnm := (name_of_methodNamed Bd.named Bd.method).1
  have X0 : Stand p l e ({ frames := 1, cells := 1, slots := 16, locals := 12 } : Room) s m #[(.ref xa), (.int (16 : Int32))] below meth c s₁ [] 0 0 := Stand.of_body Bd
  have e0 : s₁.heap = h0 := by rw [← hh, Bd.state]; rfl
  have N0 := Fr.nil n0
  refine own_start (Q := fun v h L => Q4 Z xa wc u0 u1 u2 h0 n0 v h L) ?_
  refine Goes.via (S' := (s₁.setTop (mkF m 0 #[.val (.ref xa), .val (.int (16 : Int32))] []))) (fun t k => castTop (ef_4 m xa) k) ?_
  refine Goes.via (S' := (s₁.setTop (mkF m 1 #[.val (.ref xa), .val (.int (16 : Int32))] [(.ref xa)]))) (fun t k => XS.aloadN X0.here hx rfl (hb hby d4_0) rfl rfl k) ?_
  obtain ⟨T1, X1, e1, st1⟩ := initO X0 hx hZ hown (hw _ (List.mem_of_getElem? (i := 21) rfl)) (hw _ (List.mem_of_getElem? (i := 7) rfl)) (hw _ (List.mem_of_getElem? (i := 8) rfl)) e0 (g := (mkF m 1 #[.val (.ref xa), .val (.int (16 : Int32))] [(.ref xa)])) rfl (by rw [hml]; rfl) rfl (hb hby d4_1) (by decide) (W := 0) (by show 2 * 0 + _ ≤ _; exact Nat.le_of_eq rfl) (by decide)
  refine Goes.via (S' := (T1.setTop (mkF m 4 #[.val (.ref xa), .val (.int (16 : Int32))] []))) (fun t k => st1 _ k) ?_
  obtain ⟨T2, X2, e2, st2⟩ := getS2 X1 hx hZ hown (host := "") (Or.inl (hw _ (List.mem_of_getElem? (i := 22) rfl))) Via.refl e1 f4_COMPACT_STRINGS (g := (mkF m 4 #[.val (.ref xa), .val (.int (16 : Int32))] [])) rfl (hb hby d4_4)
  refine Goes.via (S' := (T2.setTop (mkF m 7 #[.val (.ref xa), .val (.int (16 : Int32))] [(.int wc)]))) (fun t k => st2 _ k) ?_
  refine Goes.via (S' := (T2.setTop (mkF m 10 #[.val (.ref xa), .val (.int (16 : Int32))] []))) (fun t k => XS.ifNo X2.here hx rfl (hb hby d4_7) rfl ((if0 _ _).trans (feq hwc).1) k) ?_
  refine Goes.via (S' := (T2.setTop (mkF m 11 #[.val (.ref xa), .val (.int (16 : Int32))] [(.ref xa)]))) (fun t k => XS.aloadN X2.here hx rfl (hb hby d4_10) rfl rfl k) ?_
  refine Goes.via (S' := (T2.setTop (mkF m 12 #[.val (.ref xa), .val (.int (16 : Int32))] [(.int (16 : Int32)), (.ref xa)]))) (fun t k => XS.iloadN X2.here hx rfl (hb hby d4_11) rfl k) ?_
  obtain ⟨T3, h3, k3, X3, e3, E3, A3, st3⟩ := newP X2 hx hZ (hw _ (List.mem_of_getElem? (i := 24) rfl)) e2 (g := (mkF m 12 #[.val (.ref xa), .val (.int (16 : Int32))] [(.int (16 : Int32)), (.ref xa)])) rfl (hb hby d4_12) rfl (by decide) (cap := 16) (by decide) (by decide) (by decide) (by decide)
  obtain ⟨b3, g3⟩ : ∃ z, z = h0.size := ⟨_, rfl⟩
  rw [← g3] at A3 st3
  have f4 : Exa Z h3 xa "java/lang/StringBuilder" := f0_xa.ext E3
  have f5 : Fld Z h3 xa "java/lang/AbstractStringBuilder" "value" "[B" u0 := f1_xa_value.ext E3
  have f6 : Fld Z h3 xa "java/lang/AbstractStringBuilder" "coder" "B" u1 := f2_xa_coder.ext E3
  have f7 : Fld Z h3 xa "java/lang/AbstractStringBuilder" "count" "I" u2 := f3_xa_count.ext E3
  have f8 : Sta Z h3 "java/lang/String" "COMPACT_STRINGS" "Z" (.int wc) := f4_COMPACT_STRINGS.ext E3
  have K3 : Keep h0 h3 [xa] := Keep.ext (Keep.refl h0 [xa]) E3
  have Z3 : n0 ≤ h3.size := Nat.le_trans Z0 K3.1
  have g_b3 : n0 ≤ b3 := Nat.le_trans Z0 (Nat.le_of_eq g3.symm)
  have sz_b3 : h0.size ≤ b3 := Nat.le_trans ((Keep.refl h0 [xa])).1 (Nat.le_of_eq g3.symm)
  have ne_xa_b3 : xa ≠ b3 := Nat.ne_of_lt (Nat.lt_of_lt_of_le f0_xa.lt (Nat.le_of_eq g3.symm))
  have f9 : Arv Z h3 b3 k3 .byte (16 : Int32) [(.int (0 : Int32)), (.int (0 : Int32)), (.int (0 : Int32)), (.int (0 : Int32)), (.int (0 : Int32)), (.int (0 : Int32)), (.int (0 : Int32)), (.int (0 : Int32)), (.int (0 : Int32)), (.int (0 : Int32)), (.int (0 : Int32)), (.int (0 : Int32)), (.int (0 : Int32)), (.int (0 : Int32)), (.int (0 : Int32)), (.int (0 : Int32))] (.int (0 : Int32)) := (Arv.new A3 (by decide)).pad (pad_rep [] (.int (0 : Int32)) 16)
  refine Goes.via (S' := (T3.setTop (mkF m 14 #[.val (.ref xa), .val (.int (16 : Int32))] [(.ref b3), (.ref xa)]))) (fun t k => st3 _ k) ?_
  obtain ⟨T10, h10, X10, e10, W10, st10⟩ := putF X3 hx hZ hown (host := "") (Or.inl (hw _ (List.mem_of_getElem? (i := 25) rfl))) Via.refl e3 f5 f4 (Or.inl (hw _ (List.mem_of_getElem? (i := 26) rfl))) (hw _ (List.mem_of_getElem? (i := 10) rfl)) (ty := (.array .byte)) (by decide) rfl rfl (g := (mkF m 14 #[.val (.ref xa), .val (.int (16 : Int32))] [(.ref b3), (.ref xa)])) rfl rfl (hb hby d4_14)
  have f11 : Exa Z h10 xa "java/lang/StringBuilder" := f4.wr W10
  have f12 : Fld Z h10 xa "java/lang/AbstractStringBuilder" "coder" "B" u1 := f6.other W10 (Or.inr (slot_ne (Or.inl (hw _ (List.mem_of_getElem? (i := 28) rfl))) (Or.inl (hw _ (List.mem_of_getElem? (i := 26) rfl))) (by decide) (t := .byte) (t' := (.array .byte)) (by decide) (by decide)))
  have f13 : Fld Z h10 xa "java/lang/AbstractStringBuilder" "count" "I" u2 := f7.other W10 (Or.inr (slot_ne (Or.inl (hw _ (List.mem_of_getElem? (i := 47) rfl))) (Or.inl (hw _ (List.mem_of_getElem? (i := 26) rfl))) (by decide) (t := .int) (t' := (.array .byte)) (by decide) (by decide)))
  have f14 : Sta Z h10 "java/lang/String" "COMPACT_STRINGS" "Z" (.int wc) := f8.wr W10
  have f15 : Arv Z h10 b3 k3 .byte (16 : Int32) [(.int (0 : Int32)), (.int (0 : Int32)), (.int (0 : Int32)), (.int (0 : Int32)), (.int (0 : Int32)), (.int (0 : Int32)), (.int (0 : Int32)), (.int (0 : Int32)), (.int (0 : Int32)), (.int (0 : Int32)), (.int (0 : Int32)), (.int (0 : Int32)), (.int (0 : Int32)), (.int (0 : Int32)), (.int (0 : Int32)), (.int (0 : Int32))] (.int (0 : Int32)) := f9.other W10 (Ne.symm ne_xa_b3)
  have f16 : Fld Z h10 xa "java/lang/AbstractStringBuilder" "value" "[B" (.ref b3) := f5.same W10
  have K10 : Keep h0 h10 [xa] := Keep.wr K3 W10 (Or.inl (List.mem_of_getElem? (i := 0) rfl))
  have Z10 : n0 ≤ h10.size := Nat.le_trans Z0 K10.1
  have N10 := Fr.snoc X10 N0 g_xa
  refine Goes.via (S' := (T10.setTop (mkF m 17 #[.val (.ref xa), .val (.int (16 : Int32))] []))) (fun t k => st10 _ k) ?_
  refine Goes.via (S' := (T10.setTop (mkF m 18 #[.val (.ref xa), .val (.int (16 : Int32))] [(.ref xa)]))) (fun t k => XS.aloadN X10.here hx rfl (hb hby d4_17) rfl rfl k) ?_
  refine Goes.via (S' := (T10.setTop (mkF m 19 #[.val (.ref xa), .val (.int (16 : Int32))] [(.int (0 : Int32)), (.ref xa)]))) (fun t k => XS.iconst X10.here hx rfl (hb hby d4_18) k) ?_
  obtain ⟨T17, h17, X17, e17, W17, st17⟩ := putFN X10 hx hZ hown (hw _ (List.mem_of_getElem? (i := 27) rfl)) Via.refl e10 f12 f11 (Or.inl (hw _ (List.mem_of_getElem? (i := 28) rfl))) (hw _ (List.mem_of_getElem? (i := 10) rfl)) (ty := .byte) (v' := (.int (0 : Int32))) (by decide) rfl rfl (g := (mkF m 19 #[.val (.ref xa), .val (.int (16 : Int32))] [(.int (0 : Int32)), (.ref xa)])) rfl rfl (hb hby d4_19)
  have f18 : Exa Z h17 xa "java/lang/StringBuilder" := f11.wr W17
  have f19 : Fld Z h17 xa "java/lang/AbstractStringBuilder" "count" "I" u2 := f13.other W17 (Or.inr (slot_ne (Or.inl (hw _ (List.mem_of_getElem? (i := 47) rfl))) (Or.inl (hw _ (List.mem_of_getElem? (i := 28) rfl))) (by decide) (t := .int) (t' := .byte) (by decide) (by decide)))
  have f20 : Sta Z h17 "java/lang/String" "COMPACT_STRINGS" "Z" (.int wc) := f14.wr W17
  have f21 : Arv Z h17 b3 k3 .byte (16 : Int32) [(.int (0 : Int32)), (.int (0 : Int32)), (.int (0 : Int32)), (.int (0 : Int32)), (.int (0 : Int32)), (.int (0 : Int32)), (.int (0 : Int32)), (.int (0 : Int32)), (.int (0 : Int32)), (.int (0 : Int32)), (.int (0 : Int32)), (.int (0 : Int32)), (.int (0 : Int32)), (.int (0 : Int32)), (.int (0 : Int32)), (.int (0 : Int32))] (.int (0 : Int32)) := f15.other W17 (Ne.symm ne_xa_b3)
  have f22 : Fld Z h17 xa "java/lang/AbstractStringBuilder" "value" "[B" (.ref b3) := f16.other W17 (Or.inr (slot_ne (Or.inl (hw _ (List.mem_of_getElem? (i := 26) rfl))) (Or.inl (hw _ (List.mem_of_getElem? (i := 28) rfl))) (by decide) (t := (.array .byte)) (t' := .byte) (by decide) (by decide)))
  have f23 : Fld Z h17 xa "java/lang/AbstractStringBuilder" "coder" "B" (.int (0 : Int32)) := f12.same W17
  have K17 : Keep h0 h17 [xa] := Keep.wr K10 W17 (Or.inl (List.mem_of_getElem? (i := 0) rfl))
  have Z17 : n0 ≤ h17.size := Nat.le_trans Z0 K17.1
  have N17 := Fr.snoc X17 N10 g_xa
  refine Goes.via (S' := (T17.setTop (mkF m 22 #[.val (.ref xa), .val (.int (16 : Int32))] []))) (fun t k => st17 _ k) ?_
  refine Goes.via (S' := (T17.setTop (mkF m 38 #[.val (.ref xa), .val (.int (16 : Int32))] []))) (fun t k => XS.goto X17.here hx rfl (pc0 := 22) (pc' := 38) rfl (hb hby d4_22) (by decide) (by decide) k) ?_
  exact own_retV X17 hx Bd.notSynchronized Bd.returns (hb hby d4_38) e17 ⟨b3, k3, rfl, N17, K17, f18, f22, f23, f19, f21, g_b3, sz_b3⟩ (by decide) (by decide)
theorem d3_0 : decode jdk_67_method_1_code 0 = .ok (.aload_n 0, 1) := by decide +kernel
theorem d3_1 : decode jdk_67_method_1_code 1 = .ok (.bipush 16, 2) := by decide +kernel
theorem d3_3 : decode jdk_67_method_1_code 3 = .ok (.invokespecial 1, 3) := by decide +kernel
theorem d3_6 : decode jdk_67_method_1_code 6 = .ok (.return_, 1) := by decide +kernel
theorem ef_3 (m : MethodId) (xa : Addr) : entryFrame m #[(.ref xa)] 1 = mkF m 0 #[.val (.ref xa)] [] := by first | (simp [entryFrame, mkF, argsToLocals, Value.category]; done) | rfl
def Q3 (Z : State) (xa : Addr) (wc : Int32) (u0 : Value) (u1 : Value) (u2 : Value) (h0 : Heap) (n0 : Nat) (v : Option Value) (h : Heap) (L : List Loc) : Prop := ∃ (yb : Addr) (kb : ClassId), v = none ∧ Fr n0 L ∧ Keep h0 h [xa] ∧ Exa Z h xa "java/lang/StringBuilder" ∧ Fld Z h xa "java/lang/AbstractStringBuilder" "value" "[B" (.ref yb) ∧ Fld Z h xa "java/lang/AbstractStringBuilder" "coder" "B" (.int (0 : Int32)) ∧ Fld Z h xa "java/lang/AbstractStringBuilder" "count" "I" u2 ∧ Arv Z h yb kb .byte (16 : Int32) [(.int (0 : Int32)), (.int (0 : Int32)), (.int (0 : Int32)), (.int (0 : Int32)), (.int (0 : Int32)), (.int (0 : Int32)), (.int (0 : Int32)), (.int (0 : Int32)), (.int (0 : Int32)), (.int (0 : Int32)), (.int (0 : Int32)), (.int (0 : Int32)), (.int (0 : Int32)), (.int (0 : Int32)), (.int (0 : Int32)), (.int (0 : Int32))] (.int (0 : Int32)) ∧ n0 ≤ yb ∧ h0.size ≤ yb
set_option maxRecDepth 65536 in
set_option maxHeartbeats 40000000 in
theorem rm3 (l : Launch) (Z : State) (a0 : Array Value) (hw : ∀ d ∈ tables_1, d.before a0 Z = true) (ws : List Jvm.Cond) (xa : Addr) (wc : Int32) (u0 : Value) (u1 : Value) (u2 : Value) (h0 : Heap) (n0 : Nat) (Z0 : n0 ≤ h0.size) (f0_xa : Exa Z h0 xa "java/lang/StringBuilder") (f1_xa_value : Fld Z h0 xa "java/lang/AbstractStringBuilder" "value" "[B" u0) (f2_xa_coder : Fld Z h0 xa "java/lang/AbstractStringBuilder" "coder" "B" u1) (f3_xa_count : Fld Z h0 xa "java/lang/AbstractStringBuilder" "count" "I" u2) (f4_COMPACT_STRINGS : Sta Z h0 "java/lang/String" "COMPACT_STRINGS" "Z" (.int wc)) (g_xa : n0 ≤ xa) (hwc : ¬ wc = (0 : Int32)) :
    MetFree l (⟨"java/lang/StringBuilder", "<init>", "()V"⟩ : MethodName) (head1 (Jvm.Cond.code (⟨"java/lang/StringBuilder", "<init>", "()V"⟩ : MethodName) jdk_67_method_1_code 1 none :: ws) ({ frames := 2, cells := 1, slots := 16, locals := 25 } : Room)) (fun a U => a = #[(.ref xa)] ∧ Z.Warmed39 U.vm ∧ U.heap = h0) (fun _ _ _ _ _ => True) (fun _ U o U' => ∃ v L, o = .returned v ∧ Q3 Z xa wc u0 u1 u2 h0 n0 v U'.heap L ∧ FrameEnd U o U' L 1 16) := by
  refine MetFree.of_bodySF (plainFor_of_name pn_18) hisR ?_
  intro p e s m args below meth c s₁ Bd hml0 hP hK
  obtain ⟨rfl, hZ, hh⟩ := hP
  have hx := Bd.exec
  have hby := Bd.bytes
  have hml : c.maxLocals = 1 := hml0
  have hown : s.vm.findClass "java/lang/StringBuilder" = some m.cls := findClass_of_methodNamed Bd.named
  have hnm := (name_of_methodNamed Bd.named Bd.method).1
  have X0 : Stand p l e ({ frames := 2, cells := 1, slots := 16, locals := 25 } : Room) s m #[(.ref xa)] below meth c s₁ [] 0 0 := Stand.of_body Bd
  have e0 : s₁.heap = h0 := by rw [← hh, Bd.state]; rfl
  have N0 := Fr.nil n0
  refine own_start (Q := fun v h L => Q3 Z xa wc u0 u1 u2 h0 n0 v h L) ?_
  refine Goes.via (S' := (s₁.setTop (mkF m 0 #[.val (.ref xa)] []))) (fun t k => castTop (ef_3 m xa) k) ?_
  refine Goes.via (S' := (s₁.setTop (mkF m 1 #[.val (.ref xa)] [(.ref xa)]))) (fun t k => XS.aloadN X0.here hx rfl (hb hby d3_0) rfl rfl k) ?_
  refine Goes.via (S' := (s₁.setTop (mkF m 3 #[.val (.ref xa)] [(.int (16 : Int32)), (.ref xa)]))) (fun t k => XS.bipush X0.here hx rfl (hb hby d3_1) k) ?_
  obtain ⟨_, _, ⟨T1, L1, k1, n1⟩, -, X1, ⟨Lc1, hQ1, l1, y1, z1⟩, st1⟩ := X0.specialBack hx (y := (⟨"java/lang/AbstractStringBuilder", "<init>", "(I)V"⟩ : MethodName)) rfl hown (mvT hZ (hw _ (List.mem_of_getElem? (i := 15) rfl))) (mvT hZ (hw _ (List.mem_of_getElem? (i := 16) rfl))) (mvT hZ (hw _ (List.mem_of_getElem? (i := 20) rfl))) (by decide) (backOf (W := 0) (rm4 l Z a0 hw [] xa wc u0 u1 u2 h0 n0 Z0 f0_xa f1_xa_value f2_xa_coder f3_xa_count f4_COMPACT_STRINGS g_xa hwc) hZ (hw _ (List.mem_of_getElem? (i := 20) rfl)) (hw _ (List.mem_of_getElem? (i := 19) rfl)) (by decide) (by decide)) (g := (mkF m 3 #[.val (.ref xa)] [(.int (16 : Int32)), (.ref xa)])) rfl (by rw [hml]; rfl) (Steps.refl _) (a := xa) (argsL := [(.int (16 : Int32))]) (rest := []) (lenOf pd_0 rfl) rfl (by show 2 * 0 + _ ≤ _; exact Nat.le_of_eq rfl) (hb hby d3_3) (fun _ _ => ⟨rfl, e0, (by decide : 0 + 1 ≤ _), (by decide : 0 + 16 ≤ _)⟩)
  dsimp only [Pt.U, Pt.locs, Pt.cells, Pt.slots] at X1 l1 y1 z1 st1 hQ1
  replace X1 := own_cast X1 l1 y1 z1
  obtain ⟨yb_1, kb_1, rfl, N1q, K1q, po1_0, po1_1, po1_2, po1_3, po1_4, px1_g_yb, px1_sz_yb⟩ := hQ1
  have N1 := Fr.app N0 N1q
  have f2 : Exa Z T1.heap xa "java/lang/StringBuilder" := f0_xa.keep K1q
  have f3 : Sta Z T1.heap "java/lang/String" "COMPACT_STRINGS" "Z" (.int wc) := own_staKeep f4_COMPACT_STRINGS K1q (allS (own_nst f0_xa) all0)
  have K1 : Keep h0 T1.heap [xa] := Keep.trans (Keep.refl h0 [xa]) K1q (allS (Or.inl (List.mem_of_getElem? (i := 0) rfl)) all0)
  have Z1 : n0 ≤ T1.heap.size := Nat.le_trans Z0 K1.1
  have g_yb_1 := px1_g_yb
  have sz_yb_1 : h0.size ≤ yb_1 := Nat.le_trans ((Keep.refl h0 [xa])).1 px1_sz_yb
  have ne_xa_yb_1 : xa ≠ yb_1 := Nat.ne_of_lt (Nat.lt_of_lt_of_le f0_xa.lt px1_sz_yb)
  refine Goes.via (S' := (T1.setTop (mkF m 6 #[.val (.ref xa)] []))) (fun t k => st1.trans k) ?_
  exact own_retV X1 hx Bd.notSynchronized Bd.returns (hb hby d3_6) rfl ⟨yb_1, kb_1, rfl, N1, K1, po1_0, po1_1, po1_2, po1_3, po1_4, g_yb_1, sz_yb_1⟩ (by decide) (by decide)
theorem d1_0 : decode prog_88_method_1_code 0 = .ok (.aload_n 0, 1) := by decide +kernel
theorem d1_1 : decode prog_88_method_1_code 1 = .ok (.invokespecial 3, 3) := by decide +kernel
theorem d1_4 : decode prog_88_method_1_code 4 = .ok (.aload_n 0, 1) := by decide +kernel
theorem d1_5 : decode prog_88_method_1_code 5 = .ok (.new 9, 3) := by decide +kernel
theorem d1_8 : decode prog_88_method_1_code 8 = .ok (.dup, 1) := by decide +kernel
theorem d1_9 : decode prog_88_method_1_code 9 = .ok (.invokespecial 11, 3) := by decide +kernel
theorem d1_12 : decode prog_88_method_1_code 12 = .ok (.putfield 12, 3) := by decide +kernel
theorem d1_15 : decode prog_88_method_1_code 15 = .ok (.return_, 1) := by decide +kernel
theorem ef_1 (m : MethodId) (xw : Addr) : entryFrame m #[(.ref xw)] 1 = mkF m 0 #[.val (.ref xw)] [] := by first | (simp [entryFrame, mkF, argsToLocals, Value.category]; done) | rfl
def Q1 (Z : State) (xw : Addr) (wc : Int32) (u0 : Value) (h0 : Heap) (n0 : Nat) (v : Option Value) (h : Heap) (L : List Loc) : Prop := ∃ (ys : Addr) (yb : Addr) (kb : ClassId), v = none ∧ Fr n0 L ∧ Keep h0 h [xw] ∧ Exa Z h xw "com/example/parsewright/parsewright/runtime/Packing$Writer" ∧ Fld Z h xw "com/example/parsewright/parsewright/runtime/Packing$Writer" "text" "Ljava/lang/StringBuilder;" (.ref ys) ∧ Exa Z h ys "java/lang/StringBuilder" ∧ Fld Z h ys "java/lang/AbstractStringBuilder" "value" "[B" (.ref yb) ∧ Fld Z h ys "java/lang/AbstractStringBuilder" "count" "I" (.int (Int32.ofNat 0)) ∧ Fld Z h ys "java/lang/AbstractStringBuilder" "coder" "B" (.int (0 : Int32)) ∧ Arv Z h yb kb .byte (16 : Int32) [(.int (0 : Int32)), (.int (0 : Int32)), (.int (0 : Int32)), (.int (0 : Int32)), (.int (0 : Int32)), (.int (0 : Int32)), (.int (0 : Int32)), (.int (0 : Int32)), (.int (0 : Int32)), (.int (0 : Int32)), (.int (0 : Int32)), (.int (0 : Int32)), (.int (0 : Int32)), (.int (0 : Int32)), (.int (0 : Int32)), (.int (0 : Int32))] (.int (0 : Int32)) ∧ n0 ≤ ys ∧ h0.size ≤ ys ∧ n0 ≤ yb ∧ h0.size ≤ yb ∧ ys ≠ yb
set_option maxRecDepth 65536 in
set_option maxHeartbeats 40000000 in
theorem rm1 (l : Launch) (Z : State) (a0 : Array Value) (hw : ∀ d ∈ tables_1, d.before a0 Z = true) (ws : List Jvm.Cond) (xw : Addr) (wc : Int32) (u0 : Value) (h0 : Heap) (n0 : Nat) (Z0 : n0 ≤ h0.size) (f0_xw : Exa Z h0 xw "com/example/parsewright/parsewright/runtime/Packing$Writer") (f1_xw_text : Fld Z h0 xw "com/example/parsewright/parsewright/runtime/Packing$Writer" "text" "Ljava/lang/StringBuilder;" u0) (f2_COMPACT_STRINGS : Sta Z h0 "java/lang/String" "COMPACT_STRINGS" "Z" (.int wc)) (g_xw : n0 ≤ xw) (hwc : ¬ wc = (0 : Int32)) :
    MetFree l (⟨"com/example/parsewright/parsewright/runtime/Packing$Writer", "<init>", "()V"⟩ : MethodName) (head1 (Jvm.Cond.code (⟨"com/example/parsewright/parsewright/runtime/Packing$Writer", "<init>", "()V"⟩ : MethodName) prog_88_method_1_code 1 none :: ws) ({ frames := 3, cells := 2, slots := 20, locals := 39 } : Room)) (fun a U => a = #[(.ref xw)] ∧ Z.Warmed39 U.vm ∧ U.heap = h0) (fun _ _ _ _ _ => True) (fun _ U o U' => ∃ v L, o = .returned v ∧ Q1 Z xw wc u0 h0 n0 v U'.heap L ∧ FrameEnd U o U' L 2 20) := by
  refine MetFree.of_bodySF (plainFor_of_name pn_27) hisR ?_
  intro p e s m args below meth c s₁ Bd hml0 hP hK
  obtain ⟨rfl, hZ, hh⟩ := hP
  have hx := Bd.exec
  have hby := Bd.bytes
  have hml : c.maxLocals = 1 := hml0
  have hown : s.vm.findClass "com/example/parsewright/parsewright/runtime/Packing$Writer" = some m.cls := findClass_of_methodNamed Bd.named
  have hnm := (name_of_methodNamed Bd.named Bd.method).1
  have X0 : Stand p l e ({ frames := 3, cells := 2, slots := 20, locals := 39 } : Room) s m #[(.ref xw)] below meth c s₁ [] 0 0 := Stand.of_body Bd
  have e0 : s₁.heap = h0 := by rw [← hh, Bd.state]; rfl
  have N0 := Fr.nil n0
  refine own_start (Q := fun v h L => Q1 Z xw wc u0 h0 n0 v h L) ?_
  refine Goes.via (S' := (s₁.setTop (mkF m 0 #[.val (.ref xw)] []))) (fun t k => castTop (ef_1 m xw) k) ?_
  refine Goes.via (S' := (s₁.setTop (mkF m 1 #[.val (.ref xw)] [(.ref xw)]))) (fun t k => XS.aloadN X0.here hx rfl (hb hby d1_0) rfl rfl k) ?_
  obtain ⟨T1, X1, e1, st1⟩ := initO X0 hx hZ hown (hw _ (List.mem_of_getElem? (i := 6) rfl)) (hw _ (List.mem_of_getElem? (i := 7) rfl)) (hw _ (List.mem_of_getElem? (i := 8) rfl)) e0 (g := (mkF m 1 #[.val (.ref xw)] [(.ref xw)])) rfl (by rw [hml]; rfl) rfl (hb hby d1_1) (by decide) (W := 0) (by show 2 * 0 + _ ≤ _; exact Nat.le_of_eq rfl) (by decide)
  refine Goes.via (S' := (T1.setTop (mkF m 4 #[.val (.ref xw)] []))) (fun t k => st1 _ k) ?_
  refine Goes.via (S' := (T1.setTop (mkF m 5 #[.val (.ref xw)] [(.ref xw)]))) (fun t k => XS.aloadN X1.here hx rfl (hb hby d1_4) rfl rfl k) ?_
  obtain ⟨T2, h2, X2, e2, E2, A2, D2, -, st2⟩ := newO X1 hx hZ hown (hw _ (List.mem_of_getElem? (i := 9) rfl)) (hw _ (List.mem_of_getElem? (i := 10) rfl)) (hw _ (List.mem_of_getElem? (i := 11) rfl)) e1 (g := (mkF m 5 #[.val (.ref xw)] [(.ref xw)])) rfl (hb hby d1_5) (by decide) (by decide)
  obtain ⟨b2, g2⟩ : ∃ z, z = h0.size := ⟨_, rfl⟩
  rw [← g2] at A2 D2 st2
  have f3 : Exa Z h2 xw "com/example/parsewright/parsewright/runtime/Packing$Writer" := f0_xw.ext E2
  have f4 : Fld Z h2 xw "com/example/parsewright/parsewright/runtime/Packing$Writer" "text" "Ljava/lang/StringBuilder;" u0 := f1_xw_text.ext E2
  have f5 : Sta Z h2 "java/lang/String" "COMPACT_STRINGS" "Z" (.int wc) := f2_COMPACT_STRINGS.ext E2
  have K2 : Keep h0 h2 [xw] := Keep.ext (Keep.refl h0 [xw]) E2
  have Z2 : n0 ≤ h2.size := Nat.le_trans Z0 K2.1
  have g_b2 : n0 ≤ b2 := Nat.le_trans Z0 (Nat.le_of_eq g2.symm)
  have sz_b2 : h0.size ≤ b2 := Nat.le_trans ((Keep.refl h0 [xw])).1 (Nat.le_of_eq g2.symm)
  have ne_xw_b2 : xw ≠ b2 := Nat.ne_of_lt (Nat.lt_of_lt_of_le f0_xw.lt (Nat.le_of_eq g2.symm))
  have f6 : Exa Z h2 b2 "java/lang/StringBuilder" := A2
  have f7 : Fld Z h2 b2 "java/lang/AbstractStringBuilder" "value" "[B" .null := D2 (Or.inl (hw _ (List.mem_of_getElem? (i := 26) rfl))) (ty := (.array .byte)) (by decide)
  have f8 : Fld Z h2 b2 "java/lang/AbstractStringBuilder" "coder" "B" (.int (0 : Int32)) := D2 (Or.inl (hw _ (List.mem_of_getElem? (i := 28) rfl))) (ty := .byte) (by decide)
  have f9 : Fld Z h2 b2 "java/lang/AbstractStringBuilder" "count" "I" (.int (0 : Int32)) := D2 (Or.inl (hw _ (List.mem_of_getElem? (i := 47) rfl))) (ty := .int) (by decide)
  refine Goes.via (S' := (T2.setTop (mkF m 8 #[.val (.ref xw)] [(.ref b2), (.ref xw)]))) (fun t k => st2 _ k) ?_
  refine Goes.via (S' := (T2.setTop (mkF m 9 #[.val (.ref xw)] [(.ref b2), (.ref b2), (.ref xw)]))) (fun t k => XS.dup X2.here hx rfl (hb hby d1_8) rfl rfl k) ?_
  obtain ⟨_, _, ⟨T10, L10, k10, n10⟩, -, X10, ⟨Lc10, hQ10, l10, y10, z10⟩, st10⟩ := X2.specialBack hx (y := (⟨"java/lang/StringBuilder", "<init>", "()V"⟩ : MethodName)) rfl hown (mvT hZ (hw _ (List.mem_of_getElem? (i := 12) rfl))) (mvT hZ (hw _ (List.mem_of_getElem? (i := 13) rfl))) (mvT hZ (hw _ (List.mem_of_getElem? (i := 14) rfl))) (by decide) (backOf (W := 2) (rm3 l Z a0 hw [] b2 wc .null (.int (0 : Int32)) (.int (0 : Int32)) h2 n0 Z2 f6 f7 f8 f9 f5 g_b2 hwc) hZ (hw _ (List.mem_of_getElem? (i := 14) rfl)) (hw _ (List.mem_of_getElem? (i := 11) rfl)) (by decide) (by decide)) (g := (mkF m 9 #[.val (.ref xw)] [(.ref b2), (.ref b2), (.ref xw)])) rfl (by rw [hml]; rfl) (Steps.refl _) (a := b2) (argsL := []) (rest := [(.ref b2), (.ref xw)]) (lenOf pd_1 rfl) rfl (by show 2 * 0 + _ ≤ _; exact Nat.le_of_eq rfl) (hb hby d1_9) (fun _ _ => ⟨rfl, e2, (by decide : 1 + 1 ≤ _), (by decide : 4 + 16 ≤ _)⟩)
  dsimp only [Pt.U, Pt.locs, Pt.cells, Pt.slots] at X10 l10 y10 z10 st10 hQ10
  replace X10 := own_cast X10 l10 y10 z10
  obtain ⟨yb_10, kb_10, rfl, N10q, K10q, po10_0, po10_1, po10_2, po10_3, po10_4, px10_g_yb, px10_sz_yb⟩ := hQ10
  have N10 := Fr.app N0 N10q
  have f11 : Exa Z T10.heap xw "com/example/parsewright/parsewright/runtime/Packing$Writer" := f3.keep K10q
  have f12 : Fld Z T10.heap xw "com/example/parsewright/parsewright/runtime/Packing$Writer" "text" "Ljava/lang/StringBuilder;" u0 := f4.keep K10q (ninS ne_xw_b2 nin0)
  have f13 : Sta Z T10.heap "java/lang/String" "COMPACT_STRINGS" "Z" (.int wc) := own_staKeep f5 K10q (allS (own_nst f6) all0)
  have f14 : Exa Z T10.heap b2 "java/lang/StringBuilder" := f6.keep K10q
  have K10 : Keep h0 T10.heap [xw] := Keep.trans K2 K10q (allS (Or.inr sz_b2) all0)
  have Z10 : n0 ≤ T10.heap.size := Nat.le_trans Z0 K10.1
  have g_yb_10 := px10_g_yb
  have sz_yb_10 : h0.size ≤ yb_10 := Nat.le_trans (K2).1 px10_sz_yb
  have ne_xw_yb_10 : xw ≠ yb_10 := Nat.ne_of_lt (Nat.lt_of_lt_of_le f3.lt px10_sz_yb)
  have ne_b2_yb_10 : b2 ≠ yb_10 := Nat.ne_of_lt (Nat.lt_of_lt_of_le f6.lt px10_sz_yb)
  refine Goes.via (S' := (T10.setTop (mkF m 12 #[.val (.ref xw)] [(.ref b2), (.ref xw)]))) (fun t k => st10.trans k) ?_
  obtain ⟨T15, h15, X15, e15, W15, st15⟩ := putF X10 hx hZ hown (host := "") (Or.inl (hw _ (List.mem_of_getElem? (i := 29) rfl))) Via.refl rfl f12 f11 (Or.inr ⟨(hw _ (List.mem_of_getElem? (i := 30) rfl)), rfl, hnm⟩) (hw _ (List.mem_of_getElem? (i := 1) rfl)) (ty := (.object "java/lang/StringBuilder")) (by decide) rfl rfl (g := (mkF m 12 #[.val (.ref xw)] [(.ref b2), (.ref xw)])) rfl rfl (hb hby d1_12)
  have f16 : Exa Z h15 xw "com/example/parsewright/parsewright/runtime/Packing$Writer" := f11.wr W15
  have f17 : Sta Z h15 "java/lang/String" "COMPACT_STRINGS" "Z" (.int wc) := f13.wr W15
  have f18 : Exa Z h15 b2 "java/lang/StringBuilder" := po10_0.wr W15
  have f19 : Fld Z h15 b2 "java/lang/AbstractStringBuilder" "value" "[B" (.ref yb_10) := po10_1.other W15 (Or.inl (Ne.symm ne_xw_b2))
  have f20 : Fld Z h15 b2 "java/lang/AbstractStringBuilder" "coder" "B" (.int (0 : Int32)) := po10_2.other W15 (Or.inl (Ne.symm ne_xw_b2))
  have f21 : Fld Z h15 b2 "java/lang/AbstractStringBuilder" "count" "I" (.int (0 : Int32)) := po10_3.other W15 (Or.inl (Ne.symm ne_xw_b2))
  have f22 : Arv Z h15 yb_10 kb_10 .byte (16 : Int32) [(.int (0 : Int32)), (.int (0 : Int32)), (.int (0 : Int32)), (.int (0 : Int32)), (.int (0 : Int32)), (.int (0 : Int32)), (.int (0 : Int32)), (.int (0 : Int32)), (.int (0 : Int32)), (.int (0 : Int32)), (.int (0 : Int32)), (.int (0 : Int32)), (.int (0 : Int32)), (.int (0 : Int32)), (.int (0 : Int32)), (.int (0 : Int32))] (.int (0 : Int32)) := po10_4.other W15 (Ne.symm ne_xw_yb_10)
  have f23 : Fld Z h15 xw "com/example/parsewright/parsewright/runtime/Packing$Writer" "text" "Ljava/lang/StringBuilder;" (.ref b2) := f12.same W15
  have K15 : Keep h0 h15 [xw] := Keep.wr K10 W15 (Or.inl (List.mem_of_getElem? (i := 0) rfl))
  have Z15 : n0 ≤ h15.size := Nat.le_trans Z0 K15.1
  have N15 := Fr.snoc X15 N10 g_xw
  refine Goes.via (S' := (T15.setTop (mkF m 15 #[.val (.ref xw)] []))) (fun t k => st15 _ k) ?_
  exact own_retV X15 hx Bd.notSynchronized Bd.returns (hb hby d1_15) e15 ⟨b2, yb_10, kb_10, rfl, N15, K15, f16, f23, f18, f19, (own_fval rfl f21), f20, f22, g_b2, sz_b2, g_yb_10, sz_yb_10, (by obtain ⟨cq, Aq, -⟩ := f22; exact ne_arr f18 (hw _ (List.mem_of_getElem? (i := 10) rfl)) Aq)⟩ (by decide) (by decide)
theorem d9_0 : decode jdk_68_method_68_code 0 = .ok (.getstatic 18, 3) := by decide +kernel
theorem d9_3 : decode jdk_68_method_68_code 3 = .ok (.ifCond .eq 14, 3) := by decide +kernel
theorem d9_6 : decode jdk_68_method_68_code 6 = .ok (.aload_n 0, 1) := by decide +kernel
theorem d9_7 : decode jdk_68_method_68_code 7 = .ok (.getfield 22, 3) := by decide +kernel
theorem d9_10 : decode jdk_68_method_68_code 10 = .ok (.ifCond .ne 7, 3) := by decide +kernel
theorem d9_13 : decode jdk_68_method_68_code 13 = .ok (.iconst 1, 1) := by decide +kernel
theorem d9_14 : decode jdk_68_method_68_code 14 = .ok (.goto 4, 3) := by decide +kernel
theorem d9_18 : decode jdk_68_method_68_code 18 = .ok (.ireturn, 1) := by decide +kernel
theorem ef_9 (m : MethodId) (xa : Addr) : entryFrame m #[(.ref xa)] 1 = mkF m 0 #[.val (.ref xa)] [] := by first | (simp [entryFrame, mkF, argsToLocals, Value.category]; done) | rfl
def Q9 (Z : State) (xa : Addr) (wc : Int32) (h0 : Heap) (n0 : Nat) (v : Option Value) (h : Heap) (L : List Loc) : Prop := v = some (.int (1 : Int32)) ∧ Fr n0 L ∧ h = h0
set_option maxRecDepth 65536 in
set_option maxHeartbeats 40000000 in
theorem rm9 (l : Launch) (Z : State) (a0 : Array Value) (hw : ∀ d ∈ tables_1, d.before a0 Z = true) (ws : List Jvm.Cond) (xa : Addr) (wc : Int32) (h0 : Heap) (n0 : Nat) (Z0 : n0 ≤ h0.size) (f0_xa_coder : Fld Z h0 xa "java/lang/AbstractStringBuilder" "coder" "B" (.int (0 : Int32))) (f1_COMPACT_STRINGS : Sta Z h0 "java/lang/String" "COMPACT_STRINGS" "Z" (.int wc)) (hwc : ¬ wc = (0 : Int32)) :
    MetFree l (⟨"java/lang/AbstractStringBuilder", "isLatin1", "()Z"⟩ : MethodName) (head1 (Jvm.Cond.code (⟨"java/lang/AbstractStringBuilder", "isLatin1", "()Z"⟩ : MethodName) jdk_68_method_68_code 1 (some .boolean) :: ws) ({ frames := 0, cells := 0, slots := 0, locals := 0 } : Room)) (fun a U => a = #[(.ref xa)] ∧ Z.Warmed39 U.vm ∧ U.heap = h0) (fun _ _ _ _ _ => True) (fun _ U o U' => ∃ v L, o = .returned v ∧ Q9 Z xa wc h0 n0 v U'.heap L ∧ FrameEnd U o U' L 0 0) := by
  refine MetFree.of_bodySF (plainFor_of_name pn_13) hisR ?_
  intro p e s m args below meth c s₁ Bd hml0 hP hK
  obtain ⟨rfl, hZ, hh⟩ := hP
  have hx := Bd.exec
  have hby := Bd.bytes
  have hml : c.maxLocals = 1 := hml0
  have hown : s.vm.findClass "java/lang/AbstractStringBuilder" = some m.cls := findClass_of_methodNamed Bd.named
  have hnm := (name_of_methodNamed Bd.named Bd.method).1
  have X0 : Stand p l e ({ frames := 0, cells := 0, slots := 0, locals := 0 } : Room) s m #[(.ref xa)] below meth c s₁ [] 0 0 := Stand.of_body Bd
  have e0 : s₁.heap = h0 := by rw [← hh, Bd.state]; rfl
  have N0 := Fr.nil n0
  refine own_start (Q := fun v h L => Q9 Z xa wc h0 n0 v h L) ?_
  refine Goes.via (S' := (s₁.setTop (mkF m 0 #[.val (.ref xa)] []))) (fun t k => castTop (ef_9 m xa) k) ?_
  obtain ⟨T1, X1, e1, st1⟩ := getS2 X0 hx hZ hown (host := "") (Or.inl (hw _ (List.mem_of_getElem? (i := 22) rfl))) Via.refl e0 f1_COMPACT_STRINGS (g := (mkF m 0 #[.val (.ref xa)] [])) rfl (hb hby d9_0)
  refine Goes.via (S' := (T1.setTop (mkF m 3 #[.val (.ref xa)] [(.int wc)]))) (fun t k => st1 _ k) ?_
  refine Goes.via (S' := (T1.setTop (mkF m 6 #[.val (.ref xa)] []))) (fun t k => XS.ifNo X1.here hx rfl (hb hby d9_3) rfl ((if0 _ _).trans (feq hwc).1) k) ?_
  refine Goes.via (S' := (T1.setTop (mkF m 7 #[.val (.ref xa)] [(.ref xa)]))) (fun t k => XS.aloadN X1.here hx rfl (hb hby d9_6) rfl rfl k) ?_
  obtain ⟨T2, X2, e2, st2⟩ := getF X1 hx hZ hown (host := "") (Or.inl (hw _ (List.mem_of_getElem? (i := 27) rfl))) Via.refl e1 f0_xa_coder (g := (mkF m 7 #[.val (.ref xa)] [(.ref xa)])) rfl rfl (hb hby d9_7)
  refine Goes.via (S' := (T2.setTop (mkF m 10 #[.val (.ref xa)] [(.int (0 : Int32))]))) (fun t k => st2 _ k) ?_
  refine Goes.via (S' := (T2.setTop (mkF m 13 #[.val (.ref xa)] []))) (fun t k => XS.ifNo X2.here hx rfl (hb hby d9_10) rfl ((if0 _ _).trans (teq rfl).2) k) ?_
  refine Goes.via (S' := (T2.setTop (mkF m 14 #[.val (.ref xa)] [(.int (1 : Int32))]))) (fun t k => XS.iconst X2.here hx rfl (hb hby d9_13) k) ?_
  refine Goes.via (S' := (T2.setTop (mkF m 18 #[.val (.ref xa)] [(.int (1 : Int32))]))) (fun t k => XS.goto X2.here hx rfl (pc0 := 14) (pc' := 18) rfl (hb hby d9_14) (by decide) (by decide) k) ?_
  exact own_ret X2 hx Bd.notSynchronized Bd.returns rfl (Or.inl ⟨rfl, by simp, _, rfl⟩) (hb hby d9_18) e2 ⟨rfl, N0, rfl⟩ (by decide) (by decide)
theorem d10_0 : decode jdk_43_method_3_code 0 = .ok (.iload_n 0, 1) := by decide +kernel
theorem d10_1 : decode jdk_43_method_3_code 1 = .ok (.sipush 255, 3) := by decide +kernel
theorem d10_4 : decode jdk_43_method_3_code 4 = .ok (.if_icmp .gt 7, 3) := by decide +kernel
theorem d10_7 : decode jdk_43_method_3_code 7 = .ok (.iconst 1, 1) := by decide +kernel
theorem d10_8 : decode jdk_43_method_3_code 8 = .ok (.goto 4, 3) := by decide +kernel
theorem d10_12 : decode jdk_43_method_3_code 12 = .ok (.ireturn, 1) := by decide +kernel
theorem ef_10 (m : MethodId) (p0 : Int32) : entryFrame m #[(.int p0)] 1 = mkF m 0 #[.val (.int p0)] [] := by first | (simp [entryFrame, mkF, argsToLocals, Value.category]; done) | rfl
def Q10 (Z : State) (p0 : Int32) (h0 : Heap) (n0 : Nat) (v : Option Value) (h : Heap) (L : List Loc) : Prop := v = some (.int (1 : Int32)) ∧ Fr n0 L ∧ h = h0
set_option maxRecDepth 65536 in
set_option maxHeartbeats 40000000 in
theorem rm10 (l : Launch) (Z : State) (a0 : Array Value) (hw : ∀ d ∈ tables_1, d.before a0 Z = true) (ws : List Jvm.Cond) (p0 : Int32) (h0 : Heap) (n0 : Nat) (Z0 : n0 ≤ h0.size) (hp : ¬ (255 : Int32) < p0) :
    MetFree l (⟨"java/lang/StringLatin1", "canEncode", "(C)Z"⟩ : MethodName) (head1 (Jvm.Cond.code (⟨"java/lang/StringLatin1", "canEncode", "(C)Z"⟩ : MethodName) jdk_43_method_3_code 1 (some .boolean) :: ws) ({ frames := 0, cells := 0, slots := 0, locals := 0 } : Room)) (fun a U => a = #[(.int p0)] ∧ Z.Warmed39 U.vm ∧ U.heap = h0) (fun _ _ _ _ _ => True) (fun _ U o U' => ∃ v L, o = .returned v ∧ Q10 Z p0 h0 n0 v U'.heap L ∧ FrameEnd U o U' L 0 0) := by
  refine MetFree.of_bodySF (plainFor_of_name pn_42) hisR ?_
  intro p e s m args below meth c s₁ Bd hml0 hP hK
  obtain ⟨rfl, hZ, hh⟩ := hP
  have hx := Bd.exec
  have hby := Bd.bytes
  have hml : c.maxLocals = 1 := hml0
  have hown : s.vm.findClass "java/lang/StringLatin1" = some m.cls := findClass_of_methodNamed Bd.named
  have hnm := (name_of_methodNamed Bd.named Bd.method).1
  have X0 : Stand p l e ({ frames := 0, cells := 0, slots := 0, locals := 0 } : Room) s m #[(.int p0)] below meth c s₁ [] 0 0 := Stand.of_body Bd
  have e0 : s₁.heap = h0 := by rw [← hh, Bd.state]; rfl
  have N0 := Fr.nil n0
  refine own_start (Q := fun v h L => Q10 Z p0 h0 n0 v h L) ?_
  refine Goes.via (S' := (s₁.setTop (mkF m 0 #[.val (.int p0)] []))) (fun t k => castTop (ef_10 m p0) k) ?_
  refine Goes.via (S' := (s₁.setTop (mkF m 1 #[.val (.int p0)] [(.int p0)]))) (fun t k => XS.iloadN X0.here hx rfl (hb hby d10_0) rfl k) ?_
  refine Goes.via (S' := (s₁.setTop (mkF m 4 #[.val (.int p0)] [(.int (255 : Int32)), (.int p0)]))) (fun t k => XS.sipush X0.here hx rfl (hb hby d10_1) k) ?_
  refine Goes.via (S' := (s₁.setTop (mkF m 7 #[.val (.int p0)] []))) (fun t k => XS.icmpNo X0.here hx rfl (hb hby d10_4) rfl (flt hp).2.2.1 k) ?_
  refine Goes.via (S' := (s₁.setTop (mkF m 8 #[.val (.int p0)] [(.int (1 : Int32))]))) (fun t k => XS.iconst X0.here hx rfl (hb hby d10_7) k) ?_
  refine Goes.via (S' := (s₁.setTop (mkF m 12 #[.val (.int p0)] [(.int (1 : Int32))]))) (fun t k => XS.goto X0.here hx rfl (pc0 := 8) (pc' := 12) rfl (hb hby d10_8) (by decide) (by decide) k) ?_
  exact own_ret X0 hx Bd.notSynchronized Bd.returns rfl (Or.inl ⟨rfl, by simp, _, rfl⟩) (hb hby d10_12) e0 ⟨rfl, N0, rfl⟩ (by decide) (by decide)
theorem d8_0 : decode jdk_68_method_9_code 0 = .ok (.aload_n 0, 1) := by decide +kernel
theorem d8_1 : decode jdk_68_method_9_code 1 = .ok (.getfield 15, 3) := by decide +kernel
theorem d8_4 : decode jdk_68_method_9_code 4 = .ok (.arraylength, 1) := by decide +kernel
theorem d8_5 : decode jdk_68_method_9_code 5 = .ok (.aload_n 0, 1) := by decide +kernel
theorem d8_6 : decode jdk_68_method_9_code 6 = .ok (.getfield 22, 3) := by decide +kernel
theorem d8_9 : decode jdk_68_method_9_code 9 = .ok (.ishr, 1) := by decide +kernel
theorem d8_10 : decode jdk_68_method_9_code 10 = .ok (.istore_n 2, 1) := by decide +kernel
theorem d8_11 : decode jdk_68_method_9_code 11 = .ok (.iload_n 1, 1) := by decide +kernel
theorem d8_12 : decode jdk_68_method_9_code 12 = .ok (.iload_n 2, 1) := by decide +kernel
theorem d8_13 : decode jdk_68_method_9_code 13 = .ok (.isub, 1) := by decide +kernel
theorem d8_14 : decode jdk_68_method_9_code 14 = .ok (.ifCond .le 24, 3) := by decide +kernel
theorem d8_38 : decode jdk_68_method_9_code 38 = .ok (.return_, 1) := by decide +kernel
theorem ef_8 (m : MethodId) (xa : Addr) (p1 : Int32) : entryFrame m #[(.ref xa), (.int p1)] 3 = mkF m 0 #[.val (.ref xa), .val (.int p1), .unset] [] := by first | (simp [entryFrame, mkF, argsToLocals, Value.category]; done) | rfl
def Q8 (Z : State) (xa : Addr) (p1 : Int32) (yb : Addr) (kb : ClassId) (vs : List Value) (h0 : Heap) (n0 : Nat) (v : Option Value) (h : Heap) (L : List Loc) : Prop := v = none ∧ Fr n0 L ∧ h = h0
set_option maxRecDepth 65536 in
set_option maxHeartbeats 40000000 in
theorem rm8 (l : Launch) (Z : State) (a0 : Array Value) (hw : ∀ d ∈ tables_1, d.before a0 Z = true) (ws : List Jvm.Cond) (xa : Addr) (p1 : Int32) (yb : Addr) (kb : ClassId) (vs : List Value) (h0 : Heap) (n0 : Nat) (Z0 : n0 ≤ h0.size) (f0_xa : Exa Z h0 xa "java/lang/StringBuilder") (f1_xa_value : Fld Z h0 xa "java/lang/AbstractStringBuilder" "value" "[B" (.ref yb)) (f2_xa_coder : Fld Z h0 xa "java/lang/AbstractStringBuilder" "coder" "B" (.int (0 : Int32))) (f3_yb : Arv Z h0 yb kb .byte (16 : Int32) vs (.int (0 : Int32))) (hcap : ¬ (0 : Int32) < (p1 - (16 : Int32))) :
    MetFree l (⟨"java/lang/AbstractStringBuilder", "ensureCapacityInternal", "(I)V"⟩ : MethodName) (head1 (Jvm.Cond.code (⟨"java/lang/AbstractStringBuilder", "ensureCapacityInternal", "(I)V"⟩ : MethodName) jdk_68_method_9_code 3 none :: ws) ({ frames := 0, cells := 0, slots := 0, locals := 0 } : Room)) (fun a U => a = #[(.ref xa), (.int p1)] ∧ Z.Warmed39 U.vm ∧ U.heap = h0) (fun _ _ _ _ _ => True) (fun _ U o U' => ∃ v L, o = .returned v ∧ Q8 Z xa p1 yb kb vs h0 n0 v U'.heap L ∧ FrameEnd U o U' L 0 0) := by
  refine MetFree.of_bodySF (plainFor_of_name pn_13) hisR ?_
  intro p e s m args below meth c s₁ Bd hml0 hP hK
  obtain ⟨rfl, hZ, hh⟩ := hP
  have hx := Bd.exec
  have hby := Bd.bytes
  have hml : c.maxLocals = 3 := hml0
  have hown : s.vm.findClass "java/lang/AbstractStringBuilder" = some m.cls := findClass_of_methodNamed Bd.named
  have hnm := (name_of_methodNamed Bd.named Bd.method).1
  have X0 : Stand p l e ({ frames := 0, cells := 0, slots := 0, locals := 0 } : Room) s m #[(.ref xa), (.int p1)] below meth c s₁ [] 0 0 := Stand.of_body Bd
  have e0 : s₁.heap = h0 := by rw [← hh, Bd.state]; rfl
  have N0 := Fr.nil n0
  refine own_start (Q := fun v h L => Q8 Z xa p1 yb kb vs h0 n0 v h L) ?_
  refine Goes.via (S' := (s₁.setTop (mkF m 0 #[.val (.ref xa), .val (.int p1), .unset] []))) (fun t k => castTop (ef_8 m xa p1) k) ?_
  refine Goes.via (S' := (s₁.setTop (mkF m 1 #[.val (.ref xa), .val (.int p1), .unset] [(.ref xa)]))) (fun t k => XS.aloadN X0.here hx rfl (hb hby d8_0) rfl rfl k) ?_
  obtain ⟨T1, X1, e1, st1⟩ := getF X0 hx hZ hown (host := "") (Or.inl (hw _ (List.mem_of_getElem? (i := 25) rfl))) Via.refl e0 f1_xa_value (g := (mkF m 1 #[.val (.ref xa), .val (.int p1), .unset] [(.ref xa)])) rfl rfl (hb hby d8_1)
  refine Goes.via (S' := (T1.setTop (mkF m 4 #[.val (.ref xa), .val (.int p1), .unset] [(.ref yb)]))) (fun t k => st1 _ k) ?_
  obtain ⟨cl2, Ar2, q2, S2, M2, Hs2, G2⟩ := id f3_yb
  refine Goes.via (S' := (T1.setTop (mkF m 5 #[.val (.ref xa), .val (.int p1), .unset] [(.int (16 : Int32))]))) (fun t k => X1.arraylength hx (by rw [e1]; exact Ar2.1) (State.isArrayOf_alike hZ.alike Ar2.2.1) (g := (mkF m 4 #[.val (.ref xa), .val (.int p1), .unset] [(.ref yb)])) rfl rfl (hb hby d8_4) _ (by rw [len_of S2 M2]; exact k)) ?_
  refine Goes.via (S' := (T1.setTop (mkF m 6 #[.val (.ref xa), .val (.int p1), .unset] [(.ref xa), (.int (16 : Int32))]))) (fun t k => XS.aloadN X1.here hx rfl (hb hby d8_5) rfl rfl k) ?_
  obtain ⟨T3, X3, e3, st3⟩ := getF X1 hx hZ hown (host := "") (Or.inl (hw _ (List.mem_of_getElem? (i := 27) rfl))) Via.refl e1 f2_xa_coder (g := (mkF m 6 #[.val (.ref xa), .val (.int p1), .unset] [(.ref xa), (.int (16 : Int32))])) rfl rfl (hb hby d8_6)
  refine Goes.via (S' := (T3.setTop (mkF m 9 #[.val (.ref xa), .val (.int p1), .unset] [(.int (0 : Int32)), (.int (16 : Int32))]))) (fun t k => st3 _ k) ?_
  refine Goes.via (S' := (T3.setTop (mkF m 10 #[.val (.ref xa), .val (.int p1), .unset] [(.int (16 : Int32))]))) (fun t k => XS.ishr X3.here hx rfl (hb hby d8_9) rfl k) ?_
  refine Goes.via (S' := (T3.setTop (mkF m 11 #[.val (.ref xa), .val (.int p1), .val (.int (16 : Int32))] []))) (fun t k => XS.istoreN X3.here hx rfl (hb hby d8_10) rfl (l' := #[.val (.ref xa), .val (.int p1), .val (.int (16 : Int32))]) rfl k) ?_
  refine Goes.via (S' := (T3.setTop (mkF m 12 #[.val (.ref xa), .val (.int p1), .val (.int (16 : Int32))] [(.int p1)]))) (fun t k => XS.iloadN X3.here hx rfl (hb hby d8_11) rfl k) ?_
  refine Goes.via (S' := (T3.setTop (mkF m 13 #[.val (.ref xa), .val (.int p1), .val (.int (16 : Int32))] [(.int (16 : Int32)), (.int p1)]))) (fun t k => XS.iloadN X3.here hx rfl (hb hby d8_12) rfl k) ?_
  refine Goes.via (S' := (T3.setTop (mkF m 14 #[.val (.ref xa), .val (.int p1), .val (.int (16 : Int32))] [(.int (p1 - (16 : Int32)))]))) (fun t k => XS.isub X3.here hx rfl (hb hby d8_13) rfl k) ?_
  refine Goes.via (S' := (T3.setTop (mkF m 38 #[.val (.ref xa), .val (.int p1), .val (.int (16 : Int32))] []))) (fun t k => XS.ifYes X3.here hx rfl (pc0 := 14) (pc' := 38) rfl (hb hby d8_14) rfl ((if0 _ _).trans (flt hcap).2.2.2) (by decide) (by decide) k) ?_
  exact own_retV X3 hx Bd.notSynchronized Bd.returns (hb hby d8_38) e3 ⟨rfl, N0, rfl⟩ (by decide) (by decide)
theorem d7_0 : decode jdk_68_method_31_code 0 = .ok (.aload_n 0, 1) := by decide +kernel
theorem d7_1 : decode jdk_68_method_31_code 1 = .ok (.aload_n 0, 1) := by decide +kernel
theorem d7_2 : decode jdk_68_method_31_code 2 = .ok (.getfield 79, 3) := by decide +kernel
theorem d7_5 : decode jdk_68_method_31_code 5 = .ok (.iconst 1, 1) := by decide +kernel
theorem d7_6 : decode jdk_68_method_31_code 6 = .ok (.iadd, 1) := by decide +kernel
theorem d7_7 : decode jdk_68_method_31_code 7 = .ok (.invokevirtual 100, 3) := by decide +kernel
theorem d7_10 : decode jdk_68_method_31_code 10 = .ok (.aload_n 0, 1) := by decide +kernel
theorem d7_11 : decode jdk_68_method_31_code 11 = .ok (.invokevirtual 83, 3) := by decide +kernel
theorem d7_14 : decode jdk_68_method_31_code 14 = .ok (.ifCond .eq 31, 3) := by decide +kernel
theorem d7_17 : decode jdk_68_method_31_code 17 = .ok (.iload_n 1, 1) := by decide +kernel
theorem d7_18 : decode jdk_68_method_31_code 18 = .ok (.invokestatic 191, 3) := by decide +kernel
theorem d7_21 : decode jdk_68_method_31_code 21 = .ok (.ifCond .eq 24, 3) := by decide +kernel
theorem d7_24 : decode jdk_68_method_31_code 24 = .ok (.aload_n 0, 1) := by decide +kernel
theorem d7_25 : decode jdk_68_method_31_code 25 = .ok (.getfield 15, 3) := by decide +kernel
theorem d7_28 : decode jdk_68_method_31_code 28 = .ok (.aload_n 0, 1) := by decide +kernel
theorem d7_29 : decode jdk_68_method_31_code 29 = .ok (.dup, 1) := by decide +kernel
theorem d7_30 : decode jdk_68_method_31_code 30 = .ok (.getfield 79, 3) := by decide +kernel
theorem d7_33 : decode jdk_68_method_31_code 33 = .ok (.dup_x1, 1) := by decide +kernel
theorem d7_34 : decode jdk_68_method_31_code 34 = .ok (.iconst 1, 1) := by decide +kernel
theorem d7_35 : decode jdk_68_method_31_code 35 = .ok (.iadd, 1) := by decide +kernel
theorem d7_36 : decode jdk_68_method_31_code 36 = .ok (.putfield 79, 3) := by decide +kernel
theorem d7_39 : decode jdk_68_method_31_code 39 = .ok (.iload_n 1, 1) := by decide +kernel
theorem d7_40 : decode jdk_68_method_31_code 40 = .ok (.i2b, 1) := by decide +kernel
theorem d7_41 : decode jdk_68_method_31_code 41 = .ok (.bastore, 1) := by decide +kernel
theorem d7_42 : decode jdk_68_method_31_code 42 = .ok (.goto 33, 3) := by decide +kernel
theorem d7_75 : decode jdk_68_method_31_code 75 = .ok (.aload_n 0, 1) := by decide +kernel
theorem d7_76 : decode jdk_68_method_31_code 76 = .ok (.areturn, 1) := by decide +kernel
theorem ef_7 (m : MethodId) (xa : Addr) (p1 : Int32) : entryFrame m #[(.ref xa), (.int p1)] 2 = mkF m 0 #[.val (.ref xa), .val (.int p1)] [] := by first | (simp [entryFrame, mkF, argsToLocals, Value.category]; done) | rfl
def Q7 (Z : State) (xa : Addr) (p1 : Int32) (yb : Addr) (kb : ClassId) (vs : List Value) (nc : Nat) (wc : Int32) (h0 : Heap) (n0 : Nat) (v : Option Value) (h : Heap) (L : List Loc) : Prop := v = some (.ref xa) ∧ Fr n0 L ∧ Keep h0 h [xa, yb] ∧ Exa Z h xa "java/lang/StringBuilder" ∧ Fld Z h xa "java/lang/AbstractStringBuilder" "value" "[B" (.ref yb) ∧ Fld Z h xa "java/lang/AbstractStringBuilder" "coder" "B" (.int (0 : Int32)) ∧ Fld Z h xa "java/lang/AbstractStringBuilder" "count" "I" (.int (Int32.ofNat (nc + 1))) ∧ Arv Z h yb kb .byte (16 : Int32) (vs.set nc (.int (nar .byte (p1.toInt8.toInt32)))) (.int (0 : Int32))
set_option maxRecDepth 65536 in
set_option maxHeartbeats 40000000 in
theorem rm7 (l : Launch) (Z : State) (a0 : Array Value) (hw : ∀ d ∈ tables_1, d.before a0 Z = true) (ws : List Jvm.Cond) (xa : Addr) (p1 : Int32) (yb : Addr) (kb : ClassId) (vs : List Value) (nc : Nat) (wc : Int32) (h0 : Heap) (n0 : Nat) (Z0 : n0 ≤ h0.size) (f0_xa : Exa Z h0 xa "java/lang/StringBuilder") (f1_xa_value : Fld Z h0 xa "java/lang/AbstractStringBuilder" "value" "[B" (.ref yb)) (f2_xa_coder : Fld Z h0 xa "java/lang/AbstractStringBuilder" "coder" "B" (.int (0 : Int32))) (f3_xa_count : Fld Z h0 xa "java/lang/AbstractStringBuilder" "count" "I" (.int (Int32.ofNat nc))) (f4_yb : Arv Z h0 yb kb .byte (16 : Int32) vs (.int (0 : Int32))) (f5_COMPACT_STRINGS : Sta Z h0 "java/lang/String" "COMPACT_STRINGS" "Z" (.int wc)) (ne_xa_yb : xa ≠ yb) (g_xa : n0 ≤ xa) (g_yb : n0 ≤ yb) (hp : ¬ (255 : Int32) < p1) (hnc : nc < 16) (hl : vs.length = 16) (hwc : ¬ wc = (0 : Int32)) :
    MetFree l (⟨"java/lang/AbstractStringBuilder", "append", "(C)Ljava/lang/AbstractStringBuilder;"⟩ : MethodName) (head1 (Jvm.Cond.code (⟨"java/lang/AbstractStringBuilder", "append", "(C)Ljava/lang/AbstractStringBuilder;"⟩ : MethodName) jdk_68_method_31_code 2 (some (.object "java/lang/AbstractStringBuilder")) :: ws) ({ frames := 1, cells := 0, slots := 0, locals := 14 } : Room)) (fun a U => a = #[(.ref xa), (.int p1)] ∧ Z.Warmed39 U.vm ∧ U.heap = h0) (fun _ _ _ _ _ => True) (fun _ U o U' => ∃ v L, o = .returned v ∧ Q7 Z xa p1 yb kb vs nc wc h0 n0 v U'.heap L ∧ FrameEnd U o U' L 0 0) := by
  refine MetFree.of_bodySF (plainFor_of_name pn_13) hisR ?_
  intro p e s m args below meth c s₁ Bd hml0 hP hK
  obtain ⟨rfl, hZ, hh⟩ := hP
  have hx := Bd.exec
  have hby := Bd.bytes
  have hml : c.maxLocals = 2 := hml0
  have hown : s.vm.findClass "java/lang/AbstractStringBuilder" = some m.cls := findClass_of_methodNamed Bd.named
  have hnm := (name_of_methodNamed Bd.named Bd.method).1
  have X0 : Stand p l e ({ frames := 1, cells := 0, slots := 0, locals := 14 } : Room) s m #[(.ref xa), (.int p1)] below meth c s₁ [] 0 0 := Stand.of_body Bd
  have e0 : s₁.heap = h0 := by rw [← hh, Bd.state]; rfl
  have N0 := Fr.nil n0
  refine own_start (Q := fun v h L => Q7 Z xa p1 yb kb vs nc wc h0 n0 v h L) ?_
  refine Goes.via (S' := (s₁.setTop (mkF m 0 #[.val (.ref xa), .val (.int p1)] []))) (fun t k => castTop (ef_7 m xa p1) k) ?_
  refine Goes.via (S' := (s₁.setTop (mkF m 1 #[.val (.ref xa), .val (.int p1)] [(.ref xa)]))) (fun t k => XS.aloadN X0.here hx rfl (hb hby d7_0) rfl rfl k) ?_
  refine Goes.via (S' := (s₁.setTop (mkF m 2 #[.val (.ref xa), .val (.int p1)] [(.ref xa), (.ref xa)]))) (fun t k => XS.aloadN X0.here hx rfl (hb hby d7_1) rfl rfl k) ?_
  obtain ⟨T1, X1, e1, st1⟩ := getF X0 hx hZ hown (host := "") (Or.inl (hw _ (List.mem_of_getElem? (i := 46) rfl))) Via.refl e0 f3_xa_count (g := (mkF m 2 #[.val (.ref xa), .val (.int p1)] [(.ref xa), (.ref xa)])) rfl rfl (hb hby d7_2)
  refine Goes.via (S' := (T1.setTop (mkF m 5 #[.val (.ref xa), .val (.int p1)] [(.int (Int32.ofNat nc)), (.ref xa)]))) (fun t k => st1 _ k) ?_
  refine Goes.via (S' := (T1.setTop (mkF m 6 #[.val (.ref xa), .val (.int p1)] [(.int (1 : Int32)), (.int (Int32.ofNat nc)), (.ref xa)]))) (fun t k => XS.iconst X1.here hx rfl (hb hby d7_5) k) ?_
  refine Goes.via (S' := (T1.setTop (mkF m 7 #[.val (.ref xa), .val (.int p1)] [(.int ((Int32.ofNat nc) + (1 : Int32))), (.ref xa)]))) (fun t k => XS.iadd X1.here hx rfl (hb hby d7_6) rfl k) ?_
  obtain ⟨cq2, q2, q2'⟩ := f0_xa.cell
  obtain ⟨_, _, ⟨T2, L2, k2, n2⟩, -, X2, ⟨Lc2, hQ2, l2, y2, z2⟩, st2⟩ := X1.privateBack hx (y := (⟨"java/lang/AbstractStringBuilder", "ensureCapacityInternal", "(I)V"⟩ : MethodName)) hown (mvT hZ (hw _ (List.mem_of_getElem? (i := 48) rfl))) (mvT hZ (hw _ (List.mem_of_getElem? (i := 49) rfl))) (own_selQ hZ (y := (⟨"java/lang/AbstractStringBuilder", "ensureCapacityInternal", "(I)V"⟩ : MethodName)) (hw _ (List.mem_of_getElem? (i := 51) rfl)) (hw _ (List.mem_of_getElem? (i := 50) rfl)) (hw _ (List.mem_of_getElem? (i := 49) rfl)) (by decide)) (Cond.privateMethod_at (mvP hZ (hw _ (List.mem_of_getElem? (i := 50) rfl)) (args := #[]))) (mvT hZ (hw _ (List.mem_of_getElem? (i := 52) rfl))) (by decide) (backOf (W := 0) (rm8 l Z a0 hw [] xa ((Int32.ofNat nc) + (1 : Int32)) yb kb vs h0 n0 Z0 f0_xa f1_xa_value f2_xa_coder f4_yb (own_cap1 hnc)) hZ (hw _ (List.mem_of_getElem? (i := 52) rfl)) (hw _ (List.mem_of_getElem? (i := 19) rfl)) (by decide) (by decide)) (g := (mkF m 7 #[.val (.ref xa), .val (.int p1)] [(.int ((Int32.ofNat nc) + (1 : Int32))), (.ref xa)])) rfl (by rw [hml]; rfl) (Steps.refl _) (a := xa) (by rw [e1]; exact q2) q2' (argsL := [(.int ((Int32.ofNat nc) + (1 : Int32)))]) (rest := []) (lenOf pd_0 rfl) rfl (by show 2 * 0 + _ ≤ _; exact Nat.le_of_eq rfl) (hb hby d7_7) (fun _ _ => ⟨rfl, e1, (by decide : 0 + 0 ≤ _), (by decide : 0 + 0 ≤ _)⟩)
  dsimp only [Pt.U, Pt.locs, Pt.cells, Pt.slots] at X2 l2 y2 z2 st2 hQ2
  replace X2 := own_cast X2 l2 y2 z2
  obtain ⟨rfl, N2q, eq2⟩ := hQ2
  have N2 := Fr.app N0 N2q
  refine Goes.via (S' := (T2.setTop (mkF m 10 #[.val (.ref xa), .val (.int p1)] []))) (fun t k => st2.trans k) ?_
  refine Goes.via (S' := (T2.setTop (mkF m 11 #[.val (.ref xa), .val (.int p1)] [(.ref xa)]))) (fun t k => XS.aloadN X2.here hx rfl (hb hby d7_10) rfl rfl k) ?_
  obtain ⟨cq3, kq3, q3a, q3b, q3c⟩ := isOf hZ eq2 f0_xa
  obtain ⟨_, _, ⟨T3, L3, k3, n3⟩, -, X3, ⟨Lc3, hQ3, l3, y3, z3⟩, st3⟩ := X2.virtualBack hx (y := (⟨"java/lang/AbstractStringBuilder", "isLatin1", "()Z"⟩ : MethodName)) (z := (⟨"java/lang/AbstractStringBuilder", "isLatin1", "()Z"⟩ : MethodName)) hown (mvT hZ (hw _ (List.mem_of_getElem? (i := 53) rfl))) (mvT hZ (hw _ (List.mem_of_getElem? (i := 54) rfl))) (notFace_of_selects (args := #[]) (mvT hZ (hw _ (List.mem_of_getElem? (i := 56) rfl)))) (mvT hZ (hw _ (List.mem_of_getElem? (i := 56) rfl))) (mvT hZ (hw _ (List.mem_of_getElem? (i := 55) rfl))) (by decide) (backOf (W := 0) (rm9 l Z a0 hw [] xa wc h0 n0 Z0 f2_xa_coder f5_COMPACT_STRINGS hwc) hZ (hw _ (List.mem_of_getElem? (i := 57) rfl)) (hw _ (List.mem_of_getElem? (i := 19) rfl)) (by decide) (by decide)) q3a q3c (g := (mkF m 11 #[.val (.ref xa), .val (.int p1)] [(.ref xa)])) rfl (by rw [hml]; rfl) (Steps.refl _) (argsL := []) (rest := []) (lenOf pd_2 rfl) rfl (by show 2 * 0 + _ ≤ _; exact Nat.le_of_eq rfl) (hb hby d7_11) (fun _ _ => ⟨rfl, eq2, (by decide : 0 + 0 ≤ _), (by decide : 0 + 0 ≤ _)⟩)
  dsimp only [Pt.U, Pt.locs, Pt.cells, Pt.slots] at X3 l3 y3 z3 st3 hQ3
  replace X3 := own_cast X3 l3 y3 z3
  obtain ⟨rfl, N3q, eq3⟩ := hQ3
  have N3 := Fr.app N2 N3q
  refine Goes.via (S' := (T3.setTop (mkF m 14 #[.val (.ref xa), .val (.int p1)] [(.int (1 : Int32))]))) (fun t k => st3.trans k) ?_
  refine Goes.via (S' := (T3.setTop (mkF m 17 #[.val (.ref xa), .val (.int p1)] []))) (fun t k => XS.ifNo X3.here hx rfl (hb hby d7_14) rfl ((if0 _ _).trans (feq (by decide : ¬ ((1 : Int32) = (0 : Int32)))).1) k) ?_
  refine Goes.via (S' := (T3.setTop (mkF m 18 #[.val (.ref xa), .val (.int p1)] [(.int p1)]))) (fun t k => XS.iloadN X3.here hx rfl (hb hby d7_17) rfl k) ?_
  obtain ⟨_, _, ⟨T4, L4, k4, n4⟩, -, X4, ⟨Lc4, hQ4, l4, y4, z4⟩, st4⟩ := Jvm.LawKit.callS X3 hx (y := (⟨"java/lang/StringLatin1", "canEncode", "(C)Z"⟩ : MethodName)) hown (mvT hZ (hw _ (List.mem_of_getElem? (i := 58) rfl))) (mvT hZ (hw _ (List.mem_of_getElem? (i := 59) rfl))) (mvT hZ (hw _ (List.mem_of_getElem? (i := 60) rfl))) (mvT hZ (hw _ (List.mem_of_getElem? (i := 61) rfl))) (by decide) (backOf (W := 0) (rm10 l Z a0 hw [] p1 h0 n0 Z0 hp) hZ (hw _ (List.mem_of_getElem? (i := 61) rfl)) (hw _ (List.mem_of_getElem? (i := 60) rfl)) (by decide) (by decide)) (g := (mkF m 18 #[.val (.ref xa), .val (.int p1)] [(.int p1)])) rfl (by rw [hml]; rfl) (argsL := [(.int p1)]) (rest := []) (lenOf pd_3 rfl) rfl (by show 2 * 0 + _ ≤ _; exact Nat.le_of_eq rfl) (hb hby d7_18) (fun _ _ => ⟨rfl, eq3, (by decide : 0 + 0 ≤ _), (by decide : 0 + 0 ≤ _)⟩)
  dsimp only [Pt.U, Pt.locs, Pt.cells, Pt.slots] at X4 l4 y4 z4 st4 hQ4
  replace X4 := own_cast X4 l4 y4 z4
  obtain ⟨rfl, N4q, eq4⟩ := hQ4
  have N4 := Fr.app N3 N4q
  refine Goes.via (S' := (T4.setTop (mkF m 21 #[.val (.ref xa), .val (.int p1)] [(.int (1 : Int32))]))) (fun t k => st4 _ k) ?_
  refine Goes.via (S' := (T4.setTop (mkF m 24 #[.val (.ref xa), .val (.int p1)] []))) (fun t k => XS.ifNo X4.here hx rfl (hb hby d7_21) rfl ((if0 _ _).trans (feq (by decide : ¬ ((1 : Int32) = (0 : Int32)))).1) k) ?_
  refine Goes.via (S' := (T4.setTop (mkF m 25 #[.val (.ref xa), .val (.int p1)] [(.ref xa)]))) (fun t k => XS.aloadN X4.here hx rfl (hb hby d7_24) rfl rfl k) ?_
  obtain ⟨T5, X5, e5, st5⟩ := getF X4 hx hZ hown (host := "") (Or.inl (hw _ (List.mem_of_getElem? (i := 25) rfl))) Via.refl eq4 f1_xa_value (g := (mkF m 25 #[.val (.ref xa), .val (.int p1)] [(.ref xa)])) rfl rfl (hb hby d7_25)
  refine Goes.via (S' := (T5.setTop (mkF m 28 #[.val (.ref xa), .val (.int p1)] [(.ref yb)]))) (fun t k => st5 _ k) ?_
  refine Goes.via (S' := (T5.setTop (mkF m 29 #[.val (.ref xa), .val (.int p1)] [(.ref xa), (.ref yb)]))) (fun t k => XS.aloadN X5.here hx rfl (hb hby d7_28) rfl rfl k) ?_
  refine Goes.via (S' := (T5.setTop (mkF m 30 #[.val (.ref xa), .val (.int p1)] [(.ref xa), (.ref xa), (.ref yb)]))) (fun t k => XS.dup X5.here hx rfl (hb hby d7_29) rfl rfl k) ?_
  obtain ⟨T6, X6, e6, st6⟩ := getF X5 hx hZ hown (host := "") (Or.inl (hw _ (List.mem_of_getElem? (i := 46) rfl))) Via.refl e5 f3_xa_count (g := (mkF m 30 #[.val (.ref xa), .val (.int p1)] [(.ref xa), (.ref xa), (.ref yb)])) rfl rfl (hb hby d7_30)
  refine Goes.via (S' := (T6.setTop (mkF m 33 #[.val (.ref xa), .val (.int p1)] [(.int (Int32.ofNat nc)), (.ref xa), (.ref yb)]))) (fun t k => st6 _ k) ?_
  refine Goes.via (S' := (T6.setTop (mkF m 34 #[.val (.ref xa), .val (.int p1)] [(.int (Int32.ofNat nc)), (.ref xa), (.int (Int32.ofNat nc)), (.ref yb)]))) (fun t k => XS.dupX1 X6.here hx rfl (hb hby d7_33) rfl rfl rfl k) ?_
  refine Goes.via (S' := (T6.setTop (mkF m 35 #[.val (.ref xa), .val (.int p1)] [(.int (1 : Int32)), (.int (Int32.ofNat nc)), (.ref xa), (.int (Int32.ofNat nc)), (.ref yb)]))) (fun t k => XS.iconst X6.here hx rfl (hb hby d7_34) k) ?_
  refine Goes.via (S' := (T6.setTop (mkF m 36 #[.val (.ref xa), .val (.int p1)] [(.int ((Int32.ofNat nc) + (1 : Int32))), (.ref xa), (.int (Int32.ofNat nc)), (.ref yb)]))) (fun t k => XS.iadd X6.here hx rfl (hb hby d7_35) rfl k) ?_
  obtain ⟨T7, h7, X7, e7, W7, st7⟩ := putF X6 hx hZ hown (host := "") (Or.inl (hw _ (List.mem_of_getElem? (i := 46) rfl))) Via.refl e6 f3_xa_count f0_xa (Or.inl (hw _ (List.mem_of_getElem? (i := 47) rfl))) (hw _ (List.mem_of_getElem? (i := 10) rfl)) (ty := .int) (by decide) rfl rfl (g := (mkF m 36 #[.val (.ref xa), .val (.int p1)] [(.int ((Int32.ofNat nc) + (1 : Int32))), (.ref xa), (.int (Int32.ofNat nc)), (.ref yb)])) rfl rfl (hb hby d7_36)
  have f8 : Exa Z h7 xa "java/lang/StringBuilder" := f0_xa.wr W7
  have f9 : Fld Z h7 xa "java/lang/AbstractStringBuilder" "value" "[B" (.ref yb) := f1_xa_value.other W7 (Or.inr (slot_ne (Or.inl (hw _ (List.mem_of_getElem? (i := 26) rfl))) (Or.inl (hw _ (List.mem_of_getElem? (i := 47) rfl))) (by decide) (t := (.array .byte)) (t' := .int) (by decide) (by decide)))
  have f10 : Fld Z h7 xa "java/lang/AbstractStringBuilder" "coder" "B" (.int (0 : Int32)) := f2_xa_coder.other W7 (Or.inr (slot_ne (Or.inl (hw _ (List.mem_of_getElem? (i := 28) rfl))) (Or.inl (hw _ (List.mem_of_getElem? (i := 47) rfl))) (by decide) (t := .byte) (t' := .int) (by decide) (by decide)))
  have f11 : Arv Z h7 yb kb .byte (16 : Int32) vs (.int (0 : Int32)) := f4_yb.other W7 (Ne.symm ne_xa_yb)
  have f12 : Sta Z h7 "java/lang/String" "COMPACT_STRINGS" "Z" (.int wc) := f5_COMPACT_STRINGS.wr W7
  have f13 : Fld Z h7 xa "java/lang/AbstractStringBuilder" "count" "I" (.int ((Int32.ofNat nc) + (1 : Int32))) := f3_xa_count.same W7
  have K7 : Keep h0 h7 [xa, yb] := Keep.wr (Keep.refl h0 [xa, yb]) W7 (Or.inl (List.mem_of_getElem? (i := 0) rfl))
  have Z7 : n0 ≤ h7.size := Nat.le_trans Z0 K7.1
  have N7 := Fr.snoc X7 N4 g_xa
  refine Goes.via (S' := (T7.setTop (mkF m 39 #[.val (.ref xa), .val (.int p1)] [(.int (Int32.ofNat nc)), (.ref yb)]))) (fun t k => st7 _ k) ?_
  refine Goes.via (S' := (T7.setTop (mkF m 40 #[.val (.ref xa), .val (.int p1)] [(.int p1), (.int (Int32.ofNat nc)), (.ref yb)]))) (fun t k => XS.iloadN X7.here hx rfl (hb hby d7_39) rfl k) ?_
  refine Goes.via (S' := (T7.setTop (mkF m 41 #[.val (.ref xa), .val (.int p1)] [(.int (p1.toInt8.toInt32)), (.int (Int32.ofNat nc)), (.ref yb)]))) (fun t k => XS.i2b X7.here hx rfl (hb hby d7_40) rfl k) ?_
  obtain ⟨cl14, Ar14, q14, S14, M14, Hs14, G14⟩ := id f11
  have hin14 : ¬ ((Int32.ofNat nc) < 0 ∨ cl14.slots.size ≤ ((Int32.ofNat nc)).toNatClampNeg) := inb_of S14 ⟨own_nn hnc, own_l16 hnc⟩
  obtain ⟨T14, h14, X14, e14, W14, st14⟩ := stB X7 hx hZ e7 Ar14 (j := (Int32.ofNat nc)) hin14 (g := (mkF m 41 #[.val (.ref xa), .val (.int p1)] [(.int (p1.toInt8.toInt32)), (.int (Int32.ofNat nc)), (.ref yb)])) rfl rfl (hb hby d7_41)
  have f15 : Exa Z h14 xa "java/lang/StringBuilder" := f8.wr W14
  have f16 : Fld Z h14 xa "java/lang/AbstractStringBuilder" "value" "[B" (.ref yb) := f9.other W14 (Or.inl ne_xa_yb)
  have f17 : Fld Z h14 xa "java/lang/AbstractStringBuilder" "coder" "B" (.int (0 : Int32)) := f10.other W14 (Or.inl ne_xa_yb)
  have f18 : Sta Z h14 "java/lang/String" "COMPACT_STRINGS" "Z" (.int wc) := f12.wr W14
  have f19 : Fld Z h14 xa "java/lang/AbstractStringBuilder" "count" "I" (.int ((Int32.ofNat nc) + (1 : Int32))) := f13.other W14 (Or.inl ne_xa_yb)
  have f20 : Arv Z h14 yb kb .byte (16 : Int32) (vs.set nc (.int (nar .byte (p1.toInt8.toInt32)))) (.int (0 : Int32)) := Arv.set Ar14 q14 S14 M14 Hs14 G14 (fits_nar_byte _) W14 nc (own_clamp (by omega)) (by rw [hl]; exact hnc)
  have K14 : Keep h0 h14 [xa, yb] := Keep.wr K7 W14 (Or.inl (List.mem_of_getElem? (i := 1) rfl))
  have Z14 : n0 ≤ h14.size := Nat.le_trans Z0 K14.1
  have N14 := Fr.snoc X14 N7 g_yb
  refine Goes.via (S' := (T14.setTop (mkF m 42 #[.val (.ref xa), .val (.int p1)] []))) (fun t k => st14 _ k) ?_
  refine Goes.via (S' := (T14.setTop (mkF m 75 #[.val (.ref xa), .val (.int p1)] []))) (fun t k => XS.goto X14.here hx rfl (pc0 := 42) (pc' := 75) rfl (hb hby d7_42) (by decide) (by decide) k) ?_
  refine Goes.via (S' := (T14.setTop (mkF m 76 #[.val (.ref xa), .val (.int p1)] [(.ref xa)]))) (fun t k => XS.aloadN X14.here hx rfl (hb hby d7_75) rfl rfl k) ?_
  exact own_ret X14 hx Bd.notSynchronized Bd.returns rfl (Or.inr (Or.inr (Or.inr (Or.inr ⟨rfl, rfl, rfl⟩)))) (hb hby d7_76) e14 ⟨rfl, N14, K14, f15, f16, f17, (own_fval (congrArg Value.int (own_succ nc)) f19), f20⟩ (by decide) (by decide)
theorem d6_0 : decode jdk_67_method_14_code 0 = .ok (.aload_n 0, 1) := by decide +kernel
theorem d6_1 : decode jdk_67_method_14_code 1 = .ok (.iload_n 1, 1) := by decide +kernel
theorem d6_2 : decode jdk_67_method_14_code 2 = .ok (.invokespecial 50, 3) := by decide +kernel
theorem d6_5 : decode jdk_67_method_14_code 5 = .ok (.pop, 1) := by decide +kernel
theorem d6_6 : decode jdk_67_method_14_code 6 = .ok (.aload_n 0, 1) := by decide +kernel
theorem d6_7 : decode jdk_67_method_14_code 7 = .ok (.areturn, 1) := by decide +kernel
theorem ef_6 (m : MethodId) (xa : Addr) (p1 : Int32) : entryFrame m #[(.ref xa), (.int p1)] 2 = mkF m 0 #[.val (.ref xa), .val (.int p1)] [] := by first | (simp [entryFrame, mkF, argsToLocals, Value.category]; done) | rfl
def Q6 (Z : State) (xa : Addr) (p1 : Int32) (yb : Addr) (kb : ClassId) (vs : List Value) (nc : Nat) (wc : Int32) (h0 : Heap) (n0 : Nat) (v : Option Value) (h : Heap) (L : List Loc) : Prop := v = some (.ref xa) ∧ Fr n0 L ∧ Keep h0 h [xa, yb] ∧ Exa Z h xa "java/lang/StringBuilder" ∧ Fld Z h xa "java/lang/AbstractStringBuilder" "value" "[B" (.ref yb) ∧ Fld Z h xa "java/lang/AbstractStringBuilder" "coder" "B" (.int (0 : Int32)) ∧ Fld Z h xa "java/lang/AbstractStringBuilder" "count" "I" (.int (Int32.ofNat (nc + 1))) ∧ Arv Z h yb kb .byte (16 : Int32) (vs.set nc (.int (nar .byte (p1.toInt8.toInt32)))) (.int (0 : Int32))
set_option maxRecDepth 65536 in
set_option maxHeartbeats 40000000 in
theorem rm6 (l : Launch) (Z : State) (a0 : Array Value) (hw : ∀ d ∈ tables_1, d.before a0 Z = true) (ws : List Jvm.Cond) (xa : Addr) (p1 : Int32) (yb : Addr) (kb : ClassId) (vs : List Value) (nc : Nat) (wc : Int32) (h0 : Heap) (n0 : Nat) (Z0 : n0 ≤ h0.size) (f0_xa : Exa Z h0 xa "java/lang/StringBuilder") (f1_xa_value : Fld Z h0 xa "java/lang/AbstractStringBuilder" "value" "[B" (.ref yb)) (f2_xa_coder : Fld Z h0 xa "java/lang/AbstractStringBuilder" "coder" "B" (.int (0 : Int32))) (f3_xa_count : Fld Z h0 xa "java/lang/AbstractStringBuilder" "count" "I" (.int (Int32.ofNat nc))) (f4_yb : Arv Z h0 yb kb .byte (16 : Int32) vs (.int (0 : Int32))) (f5_COMPACT_STRINGS : Sta Z h0 "java/lang/String" "COMPACT_STRINGS" "Z" (.int wc)) (ne_xa_yb : xa ≠ yb) (g_xa : n0 ≤ xa) (g_yb : n0 ≤ yb) (hp : ¬ (255 : Int32) < p1) (hnc : nc < 16) (hl : vs.length = 16) (hwc : ¬ wc = (0 : Int32)) :
    MetFree l (⟨"java/lang/StringBuilder", "append", "(C)Ljava/lang/StringBuilder;"⟩ : MethodName) (head1 (Jvm.Cond.code (⟨"java/lang/StringBuilder", "append", "(C)Ljava/lang/StringBuilder;"⟩ : MethodName) jdk_67_method_14_code 2 (some (.object "java/lang/StringBuilder")) :: ws) ({ frames := 2, cells := 0, slots := 0, locals := 27 } : Room)) (fun a U => a = #[(.ref xa), (.int p1)] ∧ Z.Warmed39 U.vm ∧ U.heap = h0) (fun _ _ _ _ _ => True) (fun _ U o U' => ∃ v L, o = .returned v ∧ Q6 Z xa p1 yb kb vs nc wc h0 n0 v U'.heap L ∧ FrameEnd U o U' L 0 0) := by
  refine MetFree.of_bodySF (plainFor_of_name pn_18) hisR ?_
  intro p e s m args below meth c s₁ Bd hml0 hP hK
  obtain ⟨rfl, hZ, hh⟩ := hP
  have hx := Bd.exec
  have hby := Bd.bytes
  have hml : c.maxLocals = 2 := hml0
  have hown : s.vm.findClass "java/lang/StringBuilder" = some m.cls := findClass_of_methodNamed Bd.named
  have hnm := (name_of_methodNamed Bd.named Bd.method).1
  have X0 : Stand p l e ({ frames := 2, cells := 0, slots := 0, locals := 27 } : Room) s m #[(.ref xa), (.int p1)] below meth c s₁ [] 0 0 := Stand.of_body Bd
  have e0 : s₁.heap = h0 := by rw [← hh, Bd.state]; rfl
  have N0 := Fr.nil n0
  refine own_start (Q := fun v h L => Q6 Z xa p1 yb kb vs nc wc h0 n0 v h L) ?_
  refine Goes.via (S' := (s₁.setTop (mkF m 0 #[.val (.ref xa), .val (.int p1)] []))) (fun t k => castTop (ef_6 m xa p1) k) ?_
  refine Goes.via (S' := (s₁.setTop (mkF m 1 #[.val (.ref xa), .val (.int p1)] [(.ref xa)]))) (fun t k => XS.aloadN X0.here hx rfl (hb hby d6_0) rfl rfl k) ?_
  refine Goes.via (S' := (s₁.setTop (mkF m 2 #[.val (.ref xa), .val (.int p1)] [(.int p1), (.ref xa)]))) (fun t k => XS.iloadN X0.here hx rfl (hb hby d6_1) rfl k) ?_
  obtain ⟨_, _, ⟨T1, L1, k1, n1⟩, -, X1, ⟨Lc1, hQ1, l1, y1, z1⟩, st1⟩ := superBack X0 hx hZ (y := (⟨"java/lang/AbstractStringBuilder", "append", "(C)Ljava/lang/AbstractStringBuilder;"⟩ : MethodName)) hown (hw _ (List.mem_of_getElem? (i := 41) rfl)) (own_same (y := (⟨"java/lang/AbstractStringBuilder", "append", "(C)Ljava/lang/AbstractStringBuilder;"⟩ : MethodName)) (hw _ (List.mem_of_getElem? (i := 44) rfl)) (hw _ (List.mem_of_getElem? (i := 56) rfl)) rfl (by decide)) (hw _ (List.mem_of_getElem? (i := 42) rfl)) (hw _ (List.mem_of_getElem? (i := 43) rfl)) (by decide) (backOf (W := 0) (rm7 l Z a0 hw [] xa p1 yb kb vs nc wc h0 n0 Z0 f0_xa f1_xa_value f2_xa_coder f3_xa_count f4_yb f5_COMPACT_STRINGS ne_xa_yb g_xa g_yb hp hnc hl hwc) hZ (hw _ (List.mem_of_getElem? (i := 45) rfl)) (hw _ (List.mem_of_getElem? (i := 19) rfl)) (by decide) (by decide)) e0 (Ins.self f0_xa) (g := (mkF m 2 #[.val (.ref xa), .val (.int p1)] [(.int p1), (.ref xa)])) rfl (by rw [hml]; rfl) (hw _ (List.mem_of_getElem? (i := 45) rfl)) (argsL := [(.int p1)]) (rest := []) (lenOf pd_4 rfl) rfl (by show 2 * 0 + _ ≤ _; exact Nat.le_of_eq rfl) (hb hby d6_2) (fun _ _ => ⟨rfl, e0, (by decide : 0 + 0 ≤ _), (by decide : 0 + 0 ≤ _)⟩)
  dsimp only [Pt.U, Pt.locs, Pt.cells, Pt.slots] at X1 l1 y1 z1 st1 hQ1
  replace X1 := own_cast X1 l1 y1 z1
  obtain ⟨rfl, N1q, K1q, po1_0, po1_1, po1_2, po1_3, po1_4⟩ := hQ1
  have N1 := Fr.app N0 N1q
  have f2 : Exa Z T1.heap xa "java/lang/StringBuilder" := f0_xa.keep K1q
  have f3 : Sta Z T1.heap "java/lang/String" "COMPACT_STRINGS" "Z" (.int wc) := own_staKeep f5_COMPACT_STRINGS K1q (allS (own_nst f0_xa) (allS (own_nstV f4_yb) all0))
  have K1 : Keep h0 T1.heap [xa, yb] := Keep.trans (Keep.refl h0 [xa, yb]) K1q (allS (Or.inl (List.mem_of_getElem? (i := 0) rfl)) (allS (Or.inl (List.mem_of_getElem? (i := 1) rfl)) all0))
  have Z1 : n0 ≤ T1.heap.size := Nat.le_trans Z0 K1.1
  refine Goes.via (S' := (T1.setTop (mkF m 5 #[.val (.ref xa), .val (.int p1)] [(.ref xa)]))) (fun t k => st1.trans k) ?_
  refine Goes.via (S' := (T1.setTop (mkF m 6 #[.val (.ref xa), .val (.int p1)] []))) (fun t k => XS.pop X1.here hx rfl (hb hby d6_5) rfl rfl k) ?_
  refine Goes.via (S' := (T1.setTop (mkF m 7 #[.val (.ref xa), .val (.int p1)] [(.ref xa)]))) (fun t k => XS.aloadN X1.here hx rfl (hb hby d6_6) rfl rfl k) ?_
  exact own_ret X1 hx Bd.notSynchronized Bd.returns rfl (Or.inr (Or.inr (Or.inr (Or.inr ⟨rfl, rfl, rfl⟩)))) (hb hby d6_7) rfl ⟨rfl, N1, K1, po1_0, po1_1, po1_2, po1_3, po1_4⟩ (by decide) (by decide)
theorem d5_0 : decode prog_88_method_2_code 0 = .ok (.iload_n 1, 1) := by decide +kernel
theorem d5_1 : decode prog_88_method_2_code 1 = .ok (.iconst 1, 1) := by decide +kernel
theorem d5_2 : decode prog_88_method_2_code 2 = .ok (.ishl, 1) := by decide +kernel
theorem d5_3 : decode prog_88_method_2_code 3 = .ok (.iload_n 1, 1) := by decide +kernel
theorem d5_4 : decode prog_88_method_2_code 4 = .ok (.bipush 31, 2) := by decide +kernel
theorem d5_6 : decode prog_88_method_2_code 6 = .ok (.ishr, 1) := by decide +kernel
theorem d5_7 : decode prog_88_method_2_code 7 = .ok (.ixor, 1) := by decide +kernel
theorem d5_8 : decode prog_88_method_2_code 8 = .ok (.istore_n 2, 1) := by decide +kernel
theorem d5_9 : decode prog_88_method_2_code 9 = .ok (.iload_n 2, 1) := by decide +kernel
theorem d5_10 : decode prog_88_method_2_code 10 = .ok (.bipush (-32), 2) := by decide +kernel
theorem d5_12 : decode prog_88_method_2_code 12 = .ok (.iand, 1) := by decide +kernel
theorem d5_13 : decode prog_88_method_2_code 13 = .ok (.ifCond .eq 26, 3) := by decide +kernel
theorem d5_16 : decode prog_88_method_2_code 16 = .ok (.aload_n 0, 1) := by decide +kernel
theorem d5_17 : decode prog_88_method_2_code 17 = .ok (.getfield 12, 3) := by decide +kernel
theorem d5_20 : decode prog_88_method_2_code 20 = .ok (.bipush 93, 2) := by decide +kernel
theorem d5_22 : decode prog_88_method_2_code 22 = .ok (.iload_n 2, 1) := by decide +kernel
theorem d5_23 : decode prog_88_method_2_code 23 = .ok (.bipush 31, 2) := by decide +kernel
theorem d5_25 : decode prog_88_method_2_code 25 = .ok (.iand, 1) := by decide +kernel
theorem d5_26 : decode prog_88_method_2_code 26 = .ok (.iadd, 1) := by decide +kernel
theorem d5_27 : decode prog_88_method_2_code 27 = .ok (.i2c, 1) := by decide +kernel
theorem d5_28 : decode prog_88_method_2_code 28 = .ok (.invokevirtual 18, 3) := by decide +kernel
theorem d5_31 : decode prog_88_method_2_code 31 = .ok (.pop, 1) := by decide +kernel
theorem d5_32 : decode prog_88_method_2_code 32 = .ok (.iload_n 2, 1) := by decide +kernel
theorem d5_33 : decode prog_88_method_2_code 33 = .ok (.iconst 5, 1) := by decide +kernel
theorem d5_34 : decode prog_88_method_2_code 34 = .ok (.iushr, 1) := by decide +kernel
theorem d5_35 : decode prog_88_method_2_code 35 = .ok (.istore_n 2, 1) := by decide +kernel
theorem d5_36 : decode prog_88_method_2_code 36 = .ok (.goto (-27), 3) := by decide +kernel
theorem d5_39 : decode prog_88_method_2_code 39 = .ok (.aload_n 0, 1) := by decide +kernel
theorem d5_40 : decode prog_88_method_2_code 40 = .ok (.getfield 12, 3) := by decide +kernel
theorem d5_43 : decode prog_88_method_2_code 43 = .ok (.bipush 35, 2) := by decide +kernel
theorem d5_45 : decode prog_88_method_2_code 45 = .ok (.iload_n 2, 1) := by decide +kernel
theorem d5_46 : decode prog_88_method_2_code 46 = .ok (.iadd, 1) := by decide +kernel
theorem d5_47 : decode prog_88_method_2_code 47 = .ok (.i2c, 1) := by decide +kernel
theorem d5_48 : decode prog_88_method_2_code 48 = .ok (.invokevirtual 18, 3) := by decide +kernel
theorem d5_51 : decode prog_88_method_2_code 51 = .ok (.pop, 1) := by decide +kernel
theorem d5_52 : decode prog_88_method_2_code 52 = .ok (.return_, 1) := by decide +kernel
theorem ef_5 (m : MethodId) (xw : Addr) (p1 : Int32) : entryFrame m #[(.ref xw), (.int p1)] 3 = mkF m 0 #[.val (.ref xw), .val (.int p1), .unset] [] := by first | (simp [entryFrame, mkF, argsToLocals, Value.category]; done) | rfl
def Q5 (Z : State) (xw : Addr) (p1 : Int32) (ys : Addr) (yb : Addr) (kb : ClassId) (vs0 : List Value) (nc0 : Nat) (wc : Int32) (h0 : Heap) (n0 : Nat) (v : Option Value) (h : Heap) (L : List Loc) : Prop := v = none ∧ Fr n0 L ∧ Keep h0 h [ys, yb] ∧ Exa Z h ys "java/lang/StringBuilder" ∧ Fld Z h ys "java/lang/AbstractStringBuilder" "value" "[B" (.ref yb) ∧ Fld Z h ys "java/lang/AbstractStringBuilder" "coder" "B" (.int (0 : Int32)) ∧ Fld Z h ys "java/lang/AbstractStringBuilder" "count" "I" (.int (Int32.ofNat (nc0 + (own_enc 6 (own_z p1)).length))) ∧ Arv Z h yb kb .byte (16 : Int32) (own_puts vs0 nc0 (own_enc 6 (own_z p1))) (.int (0 : Int32))
set_option maxRecDepth 65536 in
set_option maxHeartbeats 40000000 in
theorem rm5 (l : Launch) (Z : State) (a0 : Array Value) (hw : ∀ d ∈ tables_1, d.before a0 Z = true) (ws : List Jvm.Cond) (xw : Addr) (p1 : Int32) (ys : Addr) (yb : Addr) (kb : ClassId) (vs0 : List Value) (nc0 : Nat) (wc : Int32) (h0 : Heap) (n0 : Nat) (Z0 : n0 ≤ h0.size) (f0_xw_text : Fld Z h0 xw "com/example/parsewright/parsewright/runtime/Packing$Writer" "text" "Ljava/lang/StringBuilder;" (.ref ys)) (f1_ys : Exa Z h0 ys "java/lang/StringBuilder") (f2_ys_value : Fld Z h0 ys "java/lang/AbstractStringBuilder" "value" "[B" (.ref yb)) (f3_ys_coder : Fld Z h0 ys "java/lang/AbstractStringBuilder" "coder" "B" (.int (0 : Int32))) (f4_ys_count : Fld Z h0 ys "java/lang/AbstractStringBuilder" "count" "I" (.int (Int32.ofNat nc0))) (f5_yb : Arv Z h0 yb kb .byte (16 : Int32) vs0 (.int (0 : Int32))) (f6_COMPACT_STRINGS : Sta Z h0 "java/lang/String" "COMPACT_STRINGS" "Z" (.int wc)) (ne_xw_ys : xw ≠ ys) (ne_xw_yb : xw ≠ yb) (ne_ys_yb : ys ≠ yb) (g_ys : n0 ≤ ys) (g_yb : n0 ≤ yb) (hnc0 : nc0 ≤ 9) (hl : vs0.length = 16) (hwc : ¬ wc = (0 : Int32)) :
    MetFree l (⟨"com/example/parsewright/parsewright/runtime/Packing$Writer", "number", "(I)V"⟩ : MethodName) (head1 (Jvm.Cond.code (⟨"com/example/parsewright/parsewright/runtime/Packing$Writer", "number", "(I)V"⟩ : MethodName) prog_88_method_2_code 3 none :: ws) ({ frames := 3, cells := 0, slots := 0, locals := 40 } : Room)) (fun a U => a = #[(.ref xw), (.int p1)] ∧ Z.Warmed39 U.vm ∧ U.heap = h0) (fun _ _ _ _ _ => True) (fun _ U o U' => ∃ v L, o = .returned v ∧ Q5 Z xw p1 ys yb kb vs0 nc0 wc h0 n0 v U'.heap L ∧ FrameEnd U o U' L 0 0) := by
  refine MetFree.of_bodySF (plainFor_of_name pn_27) hisR ?_
  intro p e s m args below meth c s₁ Bd hml0 hP hK
  obtain ⟨rfl, hZ, hh⟩ := hP
  have hx := Bd.exec
  have hby := Bd.bytes
  have hml : c.maxLocals = 3 := hml0
  have hown : s.vm.findClass "com/example/parsewright/parsewright/runtime/Packing$Writer" = some m.cls := findClass_of_methodNamed Bd.named
  have hnm := (name_of_methodNamed Bd.named Bd.method).1
  have X0 : Stand p l e ({ frames := 3, cells := 0, slots := 0, locals := 40 } : Room) s m #[(.ref xw), (.int p1)] below meth c s₁ [] 0 0 := Stand.of_body Bd
  have e0 : s₁.heap = h0 := by rw [← hh, Bd.state]; rfl
  have N0 := Fr.nil n0
  refine own_start (Q := fun v h L => Q5 Z xw p1 ys yb kb vs0 nc0 wc h0 n0 v h L) ?_
  refine Goes.via (S' := (s₁.setTop (mkF m 0 #[.val (.ref xw), .val (.int p1), .unset] []))) (fun t k => castTop (ef_5 m xw p1) k) ?_
  refine Goes.via (S' := (s₁.setTop (mkF m 1 #[.val (.ref xw), .val (.int p1), .unset] [(.int p1)]))) (fun t k => XS.iloadN X0.here hx rfl (hb hby d5_0) rfl k) ?_
  refine Goes.via (S' := (s₁.setTop (mkF m 2 #[.val (.ref xw), .val (.int p1), .unset] [(.int (1 : Int32)), (.int p1)]))) (fun t k => XS.iconst X0.here hx rfl (hb hby d5_1) k) ?_
  refine Goes.via (S' := (s₁.setTop (mkF m 3 #[.val (.ref xw), .val (.int p1), .unset] [(.int (p1 <<< ((1 : Int32) &&& 31)))]))) (fun t k => XS.ishl X0.here hx rfl (hb hby d5_2) rfl k) ?_
  refine Goes.via (S' := (s₁.setTop (mkF m 4 #[.val (.ref xw), .val (.int p1), .unset] [(.int p1), (.int (p1 <<< ((1 : Int32) &&& 31)))]))) (fun t k => XS.iloadN X0.here hx rfl (hb hby d5_3) rfl k) ?_
  refine Goes.via (S' := (s₁.setTop (mkF m 6 #[.val (.ref xw), .val (.int p1), .unset] [(.int (31 : Int32)), (.int p1), (.int (p1 <<< ((1 : Int32) &&& 31)))]))) (fun t k => XS.bipush X0.here hx rfl (hb hby d5_4) k) ?_
  refine Goes.via (S' := (s₁.setTop (mkF m 7 #[.val (.ref xw), .val (.int p1), .unset] [(.int (p1 >>> ((31 : Int32) &&& 31))), (.int (p1 <<< ((1 : Int32) &&& 31)))]))) (fun t k => XS.ishr X0.here hx rfl (hb hby d5_6) rfl k) ?_
  refine Goes.via (S' := (s₁.setTop (mkF m 8 #[.val (.ref xw), .val (.int p1), .unset] [(.int ((p1 <<< ((1 : Int32) &&& 31)) ^^^ (p1 >>> ((31 : Int32) &&& 31))))]))) (fun t k => XS.ixor X0.here hx rfl (hb hby d5_7) rfl k) ?_
  refine Goes.via (S' := (s₁.setTop (mkF m 9 #[.val (.ref xw), .val (.int p1), .val (.int ((p1 <<< ((1 : Int32) &&& 31)) ^^^ (p1 >>> ((31 : Int32) &&& 31))))] []))) (fun t k => XS.istoreN X0.here hx rfl (hb hby d5_8) rfl (l' := #[.val (.ref xw), .val (.int p1), .val (.int ((p1 <<< ((1 : Int32) &&& 31)) ^^^ (p1 >>> ((31 : Int32) &&& 31))))]) rfl k) ?_
  have loop : ∀ (f : Nat) (r2 : Int32) (nc : Nat) (T : State) (locs : List Loc) (h : Heap) (vs : List Value), r2.toUInt32.toNat < 32 ^ (f + 1) → nc + f + 1 ≤ 16 → vs.length = 16 → own_puts vs nc (own_enc f r2.toUInt32.toNat) = own_puts vs0 nc0 (own_enc 6 (own_z p1)) → nc + (own_enc f r2.toUInt32.toNat).length = nc0 + (own_enc 6 (own_z p1)).length → Stand p l e ({ frames := 3, cells := 0, slots := 0, locals := 40 } : Room) s m #[(.ref xw), (.int p1)] below meth c T locs 0 0 → T.heap = h → Fr n0 locs → Keep h0 h [ys, yb] → (Fld Z h xw "com/example/parsewright/parsewright/runtime/Packing$Writer" "text" "Ljava/lang/StringBuilder;" (.ref ys)) → (Exa Z h ys "java/lang/StringBuilder") → (Fld Z h ys "java/lang/AbstractStringBuilder" "value" "[B" (.ref yb)) → (Fld Z h ys "java/lang/AbstractStringBuilder" "coder" "B" (.int (0 : Int32))) → (Fld Z h ys "java/lang/AbstractStringBuilder" "count" "I" (.int (Int32.ofNat nc))) → (Sta Z h "java/lang/String" "COMPACT_STRINGS" "Z" (.int wc)) → (Arv Z h yb kb .byte (16 : Int32) vs (.int (0 : Int32))) → Goes p.tables e below (Fin s below (fun v h L => Q5 Z xw p1 ys yb kb vs0 nc0 wc h0 n0 v h L) 0 0) (T.setTop (mkF m 9 #[.val (.ref xw), .val (.int p1), .val (.int r2)] [])) := by
    intro f
    induction f with
    | zero => 
      intro r2 nc T locs h vs hr hnc hl hpu hle X eT N K lf0 lf1 lf2 lf3 lf4 lf5 lfd
      have Zh : n0 ≤ h.size := Nat.le_trans Z0 K.1
      have hlt : r2.toUInt32.toNat < 32 := by simpa using hr
      refine Goes.via (S' := (T.setTop (mkF m 10 #[.val (.ref xw), .val (.int p1), .val (.int r2)] [(.int r2)]))) (fun t k => XS.iloadN X.here hx rfl (hb hby d5_9) rfl k) ?_
      refine Goes.via (S' := (T.setTop (mkF m 12 #[.val (.ref xw), .val (.int p1), .val (.int r2)] [(.int (-32 : Int32)), (.int r2)]))) (fun t k => XS.bipush X.here hx rfl (hb hby d5_10) k) ?_
      refine Goes.via (S' := (T.setTop (mkF m 13 #[.val (.ref xw), .val (.int p1), .val (.int r2)] [(.int (r2 &&& (-32 : Int32)))]))) (fun t k => XS.iand X.here hx rfl (hb hby d5_12) rfl k) ?_
      refine Goes.via (S' := (T.setTop (mkF m 39 #[.val (.ref xw), .val (.int p1), .val (.int r2)] []))) (fun t k => XS.ifYes X.here hx rfl (pc0 := 13) (pc' := 39) rfl (hb hby d5_13) rfl ((if0 _ _).trans (teq ((own_m32 r2).mpr hlt)).1) (by decide) (by decide) k) ?_
      refine Goes.via (S' := (T.setTop (mkF m 40 #[.val (.ref xw), .val (.int p1), .val (.int r2)] [(.ref xw)]))) (fun t k => XS.aloadN X.here hx rfl (hb hby d5_39) rfl rfl k) ?_
      obtain ⟨T1, X1, e1, st1⟩ := getF X hx hZ hown (host := "") (Or.inl (hw _ (List.mem_of_getElem? (i := 29) rfl))) Via.refl eT lf0 (g := (mkF m 40 #[.val (.ref xw), .val (.int p1), .val (.int r2)] [(.ref xw)])) rfl rfl (hb hby d5_40)
      refine Goes.via (S' := (T1.setTop (mkF m 43 #[.val (.ref xw), .val (.int p1), .val (.int r2)] [(.ref ys)]))) (fun t k => st1 _ k) ?_
      refine Goes.via (S' := (T1.setTop (mkF m 45 #[.val (.ref xw), .val (.int p1), .val (.int r2)] [(.int (35 : Int32)), (.ref ys)]))) (fun t k => XS.bipush X1.here hx rfl (hb hby d5_43) k) ?_
      refine Goes.via (S' := (T1.setTop (mkF m 46 #[.val (.ref xw), .val (.int p1), .val (.int r2)] [(.int r2), (.int (35 : Int32)), (.ref ys)]))) (fun t k => XS.iloadN X1.here hx rfl (hb hby d5_45) rfl k) ?_
      refine Goes.via (S' := (T1.setTop (mkF m 47 #[.val (.ref xw), .val (.int p1), .val (.int r2)] [(.int ((35 : Int32) + r2)), (.ref ys)]))) (fun t k => XS.iadd X1.here hx rfl (hb hby d5_46) rfl k) ?_
      refine Goes.via (S' := (T1.setTop (mkF m 48 #[.val (.ref xw), .val (.int p1), .val (.int r2)] [(.int (((35 : Int32) + r2).toUInt32.toUInt16.toUInt32.toInt32)), (.ref ys)]))) (fun t k => XS.i2c X1.here hx rfl (hb hby d5_47) rfl k) ?_
      obtain ⟨cq2, kq2, q2a, q2b, q2c⟩ := isOf hZ e1 lf1
      obtain ⟨_, _, ⟨T2, L2, k2, n2⟩, -, X2, ⟨Lc2, hQ2, l2, y2, z2⟩, st2⟩ := X1.virtualBack hx (y := (⟨"java/lang/StringBuilder", "append", "(C)Ljava/lang/StringBuilder;"⟩ : MethodName)) (z := (⟨"java/lang/StringBuilder", "append", "(C)Ljava/lang/StringBuilder;"⟩ : MethodName)) hown (mvT hZ (hw _ (List.mem_of_getElem? (i := 36) rfl))) (mvT hZ (hw _ (List.mem_of_getElem? (i := 37) rfl))) (notFace_of_selects (args := #[]) (mvT hZ (hw _ (List.mem_of_getElem? (i := 39) rfl)))) (mvT hZ (hw _ (List.mem_of_getElem? (i := 39) rfl))) (mvT hZ (hw _ (List.mem_of_getElem? (i := 38) rfl))) (by decide) (backOf (W := 0) (rm6 l Z a0 hw [] ys (((35 : Int32) + r2).toUInt32.toUInt16.toUInt32.toInt32) yb kb vs nc wc h n0 Zh lf1 lf2 lf3 lf4 lfd lf5 ne_ys_yb g_ys g_yb (own_sc (own_a35 hlt) (by omega)) (by omega) hl hwc) hZ (hw _ (List.mem_of_getElem? (i := 40) rfl)) (hw _ (List.mem_of_getElem? (i := 11) rfl)) (by decide) (by decide)) q2a q2c (g := (mkF m 48 #[.val (.ref xw), .val (.int p1), .val (.int r2)] [(.int (((35 : Int32) + r2).toUInt32.toUInt16.toUInt32.toInt32)), (.ref ys)])) rfl (by rw [hml]; rfl) (Steps.refl _) (argsL := [(.int (((35 : Int32) + r2).toUInt32.toUInt16.toUInt32.toInt32))]) (rest := []) (lenOf pd_5 rfl) rfl (by show 2 * 0 + _ ≤ _; exact Nat.le_of_eq rfl) (hb hby d5_48) (fun _ _ => ⟨rfl, e1, (by decide : 0 + 0 ≤ _), (by decide : 0 + 0 ≤ _)⟩)
      dsimp only [Pt.U, Pt.locs, Pt.cells, Pt.slots] at X2 l2 y2 z2 st2 hQ2
      replace X2 := own_cast X2 l2 y2 z2
      obtain ⟨rfl, N2q, K2q, po2_0, po2_1, po2_2, po2_3, po2_4⟩ := hQ2
      have N2 := Fr.app N N2q
      have f3 : Fld Z T2.heap xw "com/example/parsewright/parsewright/runtime/Packing$Writer" "text" "Ljava/lang/StringBuilder;" (.ref ys) := lf0.keep K2q (ninS ne_xw_ys (ninS ne_xw_yb nin0))
      have f4 : Exa Z T2.heap ys "java/lang/StringBuilder" := lf1.keep K2q
      have f5 : Sta Z T2.heap "java/lang/String" "COMPACT_STRINGS" "Z" (.int wc) := own_staKeep lf5 K2q (allS (own_nst lf1) (allS (own_nstV lfd) all0))
      have K2 : Keep h0 T2.heap [ys, yb] := Keep.trans K K2q (allS (Or.inl (List.mem_of_getElem? (i := 0) rfl)) (allS (Or.inl (List.mem_of_getElem? (i := 1) rfl)) all0))
      have Z2 : n0 ≤ T2.heap.size := Nat.le_trans Z0 K2.1
      refine Goes.via (S' := (T2.setTop (mkF m 51 #[.val (.ref xw), .val (.int p1), .val (.int r2)] [(.ref ys)]))) (fun t k => st2.trans k) ?_
      refine Goes.via (S' := (T2.setTop (mkF m 52 #[.val (.ref xw), .val (.int p1), .val (.int r2)] []))) (fun t k => XS.pop X2.here hx rfl (hb hby d5_51) rfl rfl k) ?_
      exact own_retV X2 hx Bd.notSynchronized Bd.returns (hb hby d5_52) rfl ⟨rfl, N2, K2, po2_0, po2_1, po2_2, (own_fval (congrArg (fun z => Value.int (Int32.ofNat z)) (by rw [← hle, (show own_enc _ r2.toUInt32.toNat = [35 + r2.toUInt32.toNat] from by first | rfl | (rw [own_enc, if_pos hlt]))]; rfl)) po2_3), (by have q := po2_4; rw [own_sb (own_a35 hlt) (by omega)] at q; rw [← hpu, (show own_enc _ r2.toUInt32.toNat = [35 + r2.toUInt32.toNat] from by first | rfl | (rw [own_enc, if_pos hlt]))]; exact q)⟩ (by decide) (by decide)
    | succ f ih => 
      intro r2 nc T locs h vs hr hnc hl hpu hle X eT N K lf0 lf1 lf2 lf3 lf4 lf5 lfd
      have Zh : n0 ≤ h.size := Nat.le_trans Z0 K.1
      by_cases hlt : r2.toUInt32.toNat < 32
      · skip
        refine Goes.via (S' := (T.setTop (mkF m 10 #[.val (.ref xw), .val (.int p1), .val (.int r2)] [(.int r2)]))) (fun t k => XS.iloadN X.here hx rfl (hb hby d5_9) rfl k) ?_
        refine Goes.via (S' := (T.setTop (mkF m 12 #[.val (.ref xw), .val (.int p1), .val (.int r2)] [(.int (-32 : Int32)), (.int r2)]))) (fun t k => XS.bipush X.here hx rfl (hb hby d5_10) k) ?_
        refine Goes.via (S' := (T.setTop (mkF m 13 #[.val (.ref xw), .val (.int p1), .val (.int r2)] [(.int (r2 &&& (-32 : Int32)))]))) (fun t k => XS.iand X.here hx rfl (hb hby d5_12) rfl k) ?_
        refine Goes.via (S' := (T.setTop (mkF m 39 #[.val (.ref xw), .val (.int p1), .val (.int r2)] []))) (fun t k => XS.ifYes X.here hx rfl (pc0 := 13) (pc' := 39) rfl (hb hby d5_13) rfl ((if0 _ _).trans (teq ((own_m32 r2).mpr hlt)).1) (by decide) (by decide) k) ?_
        refine Goes.via (S' := (T.setTop (mkF m 40 #[.val (.ref xw), .val (.int p1), .val (.int r2)] [(.ref xw)]))) (fun t k => XS.aloadN X.here hx rfl (hb hby d5_39) rfl rfl k) ?_
        obtain ⟨T6, X6, e6, st6⟩ := getF X hx hZ hown (host := "") (Or.inl (hw _ (List.mem_of_getElem? (i := 29) rfl))) Via.refl eT lf0 (g := (mkF m 40 #[.val (.ref xw), .val (.int p1), .val (.int r2)] [(.ref xw)])) rfl rfl (hb hby d5_40)
        refine Goes.via (S' := (T6.setTop (mkF m 43 #[.val (.ref xw), .val (.int p1), .val (.int r2)] [(.ref ys)]))) (fun t k => st6 _ k) ?_
        refine Goes.via (S' := (T6.setTop (mkF m 45 #[.val (.ref xw), .val (.int p1), .val (.int r2)] [(.int (35 : Int32)), (.ref ys)]))) (fun t k => XS.bipush X6.here hx rfl (hb hby d5_43) k) ?_
        refine Goes.via (S' := (T6.setTop (mkF m 46 #[.val (.ref xw), .val (.int p1), .val (.int r2)] [(.int r2), (.int (35 : Int32)), (.ref ys)]))) (fun t k => XS.iloadN X6.here hx rfl (hb hby d5_45) rfl k) ?_
        refine Goes.via (S' := (T6.setTop (mkF m 47 #[.val (.ref xw), .val (.int p1), .val (.int r2)] [(.int ((35 : Int32) + r2)), (.ref ys)]))) (fun t k => XS.iadd X6.here hx rfl (hb hby d5_46) rfl k) ?_
        refine Goes.via (S' := (T6.setTop (mkF m 48 #[.val (.ref xw), .val (.int p1), .val (.int r2)] [(.int (((35 : Int32) + r2).toUInt32.toUInt16.toUInt32.toInt32)), (.ref ys)]))) (fun t k => XS.i2c X6.here hx rfl (hb hby d5_47) rfl k) ?_
        obtain ⟨cq7, kq7, q7a, q7b, q7c⟩ := isOf hZ e6 lf1
        obtain ⟨_, _, ⟨T7, L7, k7, n7⟩, -, X7, ⟨Lc7, hQ7, l7, y7, z7⟩, st7⟩ := X6.virtualBack hx (y := (⟨"java/lang/StringBuilder", "append", "(C)Ljava/lang/StringBuilder;"⟩ : MethodName)) (z := (⟨"java/lang/StringBuilder", "append", "(C)Ljava/lang/StringBuilder;"⟩ : MethodName)) hown (mvT hZ (hw _ (List.mem_of_getElem? (i := 36) rfl))) (mvT hZ (hw _ (List.mem_of_getElem? (i := 37) rfl))) (notFace_of_selects (args := #[]) (mvT hZ (hw _ (List.mem_of_getElem? (i := 39) rfl)))) (mvT hZ (hw _ (List.mem_of_getElem? (i := 39) rfl))) (mvT hZ (hw _ (List.mem_of_getElem? (i := 38) rfl))) (by decide) (backOf (W := 0) (rm6 l Z a0 hw [] ys (((35 : Int32) + r2).toUInt32.toUInt16.toUInt32.toInt32) yb kb vs nc wc h n0 Zh lf1 lf2 lf3 lf4 lfd lf5 ne_ys_yb g_ys g_yb (own_sc (own_a35 hlt) (by omega)) (by omega) hl hwc) hZ (hw _ (List.mem_of_getElem? (i := 40) rfl)) (hw _ (List.mem_of_getElem? (i := 11) rfl)) (by decide) (by decide)) q7a q7c (g := (mkF m 48 #[.val (.ref xw), .val (.int p1), .val (.int r2)] [(.int (((35 : Int32) + r2).toUInt32.toUInt16.toUInt32.toInt32)), (.ref ys)])) rfl (by rw [hml]; rfl) (Steps.refl _) (argsL := [(.int (((35 : Int32) + r2).toUInt32.toUInt16.toUInt32.toInt32))]) (rest := []) (lenOf pd_5 rfl) rfl (by show 2 * 0 + _ ≤ _; exact Nat.le_of_eq rfl) (hb hby d5_48) (fun _ _ => ⟨rfl, e6, (by decide : 0 + 0 ≤ _), (by decide : 0 + 0 ≤ _)⟩)
        dsimp only [Pt.U, Pt.locs, Pt.cells, Pt.slots] at X7 l7 y7 z7 st7 hQ7
        replace X7 := own_cast X7 l7 y7 z7
        obtain ⟨rfl, N7q, K7q, po7_0, po7_1, po7_2, po7_3, po7_4⟩ := hQ7
        have N7 := Fr.app N N7q
        have f8 : Fld Z T7.heap xw "com/example/parsewright/parsewright/runtime/Packing$Writer" "text" "Ljava/lang/StringBuilder;" (.ref ys) := lf0.keep K7q (ninS ne_xw_ys (ninS ne_xw_yb nin0))
        have f9 : Exa Z T7.heap ys "java/lang/StringBuilder" := lf1.keep K7q
        have f10 : Sta Z T7.heap "java/lang/String" "COMPACT_STRINGS" "Z" (.int wc) := own_staKeep lf5 K7q (allS (own_nst lf1) (allS (own_nstV lfd) all0))
        have K7 : Keep h0 T7.heap [ys, yb] := Keep.trans K K7q (allS (Or.inl (List.mem_of_getElem? (i := 0) rfl)) (allS (Or.inl (List.mem_of_getElem? (i := 1) rfl)) all0))
        have Z7 : n0 ≤ T7.heap.size := Nat.le_trans Z0 K7.1
        refine Goes.via (S' := (T7.setTop (mkF m 51 #[.val (.ref xw), .val (.int p1), .val (.int r2)] [(.ref ys)]))) (fun t k => st7.trans k) ?_
        refine Goes.via (S' := (T7.setTop (mkF m 52 #[.val (.ref xw), .val (.int p1), .val (.int r2)] []))) (fun t k => XS.pop X7.here hx rfl (hb hby d5_51) rfl rfl k) ?_
        exact own_retV X7 hx Bd.notSynchronized Bd.returns (hb hby d5_52) rfl ⟨rfl, N7, K7, po7_0, po7_1, po7_2, (own_fval (congrArg (fun z => Value.int (Int32.ofNat z)) (by rw [← hle, (show own_enc _ r2.toUInt32.toNat = [35 + r2.toUInt32.toNat] from by first | rfl | (rw [own_enc, if_pos hlt]))]; rfl)) po7_3), (by have q := po7_4; rw [own_sb (own_a35 hlt) (by omega)] at q; rw [← hpu, (show own_enc _ r2.toUInt32.toNat = [35 + r2.toUInt32.toNat] from by first | rfl | (rw [own_enc, if_pos hlt]))]; exact q)⟩ (by decide) (by decide)
      · have hge := hlt
        refine Goes.via (S' := (T.setTop (mkF m 10 #[.val (.ref xw), .val (.int p1), .val (.int r2)] [(.int r2)]))) (fun t k => XS.iloadN X.here hx rfl (hb hby d5_9) rfl k) ?_
        refine Goes.via (S' := (T.setTop (mkF m 12 #[.val (.ref xw), .val (.int p1), .val (.int r2)] [(.int (-32 : Int32)), (.int r2)]))) (fun t k => XS.bipush X.here hx rfl (hb hby d5_10) k) ?_
        refine Goes.via (S' := (T.setTop (mkF m 13 #[.val (.ref xw), .val (.int p1), .val (.int r2)] [(.int (r2 &&& (-32 : Int32)))]))) (fun t k => XS.iand X.here hx rfl (hb hby d5_12) rfl k) ?_
        refine Goes.via (S' := (T.setTop (mkF m 16 #[.val (.ref xw), .val (.int p1), .val (.int r2)] []))) (fun t k => XS.ifNo X.here hx rfl (hb hby d5_13) rfl ((if0 _ _).trans (feq (fun q => hge ((own_m32 r2).mp q))).1) k) ?_
        refine Goes.via (S' := (T.setTop (mkF m 17 #[.val (.ref xw), .val (.int p1), .val (.int r2)] [(.ref xw)]))) (fun t k => XS.aloadN X.here hx rfl (hb hby d5_16) rfl rfl k) ?_
        obtain ⟨T11, X11, e11, st11⟩ := getF X hx hZ hown (host := "") (Or.inl (hw _ (List.mem_of_getElem? (i := 29) rfl))) Via.refl eT lf0 (g := (mkF m 17 #[.val (.ref xw), .val (.int p1), .val (.int r2)] [(.ref xw)])) rfl rfl (hb hby d5_17)
        refine Goes.via (S' := (T11.setTop (mkF m 20 #[.val (.ref xw), .val (.int p1), .val (.int r2)] [(.ref ys)]))) (fun t k => st11 _ k) ?_
        refine Goes.via (S' := (T11.setTop (mkF m 22 #[.val (.ref xw), .val (.int p1), .val (.int r2)] [(.int (93 : Int32)), (.ref ys)]))) (fun t k => XS.bipush X11.here hx rfl (hb hby d5_20) k) ?_
        refine Goes.via (S' := (T11.setTop (mkF m 23 #[.val (.ref xw), .val (.int p1), .val (.int r2)] [(.int r2), (.int (93 : Int32)), (.ref ys)]))) (fun t k => XS.iloadN X11.here hx rfl (hb hby d5_22) rfl k) ?_
        refine Goes.via (S' := (T11.setTop (mkF m 25 #[.val (.ref xw), .val (.int p1), .val (.int r2)] [(.int (31 : Int32)), (.int r2), (.int (93 : Int32)), (.ref ys)]))) (fun t k => XS.bipush X11.here hx rfl (hb hby d5_23) k) ?_
        refine Goes.via (S' := (T11.setTop (mkF m 26 #[.val (.ref xw), .val (.int p1), .val (.int r2)] [(.int (r2 &&& (31 : Int32))), (.int (93 : Int32)), (.ref ys)]))) (fun t k => XS.iand X11.here hx rfl (hb hby d5_25) rfl k) ?_
        refine Goes.via (S' := (T11.setTop (mkF m 27 #[.val (.ref xw), .val (.int p1), .val (.int r2)] [(.int ((93 : Int32) + (r2 &&& (31 : Int32)))), (.ref ys)]))) (fun t k => XS.iadd X11.here hx rfl (hb hby d5_26) rfl k) ?_
        refine Goes.via (S' := (T11.setTop (mkF m 28 #[.val (.ref xw), .val (.int p1), .val (.int r2)] [(.int (((93 : Int32) + (r2 &&& (31 : Int32))).toUInt32.toUInt16.toUInt32.toInt32)), (.ref ys)]))) (fun t k => XS.i2c X11.here hx rfl (hb hby d5_27) rfl k) ?_
        obtain ⟨cq12, kq12, q12a, q12b, q12c⟩ := isOf hZ e11 lf1
        obtain ⟨_, _, ⟨T12, L12, k12, n12⟩, -, X12, ⟨Lc12, hQ12, l12, y12, z12⟩, st12⟩ := X11.virtualBack hx (y := (⟨"java/lang/StringBuilder", "append", "(C)Ljava/lang/StringBuilder;"⟩ : MethodName)) (z := (⟨"java/lang/StringBuilder", "append", "(C)Ljava/lang/StringBuilder;"⟩ : MethodName)) hown (mvT hZ (hw _ (List.mem_of_getElem? (i := 36) rfl))) (mvT hZ (hw _ (List.mem_of_getElem? (i := 37) rfl))) (notFace_of_selects (args := #[]) (mvT hZ (hw _ (List.mem_of_getElem? (i := 39) rfl)))) (mvT hZ (hw _ (List.mem_of_getElem? (i := 39) rfl))) (mvT hZ (hw _ (List.mem_of_getElem? (i := 38) rfl))) (by decide) (backOf (W := 0) (rm6 l Z a0 hw [] ys (((93 : Int32) + (r2 &&& (31 : Int32))).toUInt32.toUInt16.toUInt32.toInt32) yb kb vs nc wc h n0 Zh lf1 lf2 lf3 lf4 lfd lf5 ne_ys_yb g_ys g_yb (own_sc (own_a93 r2) (by omega)) (by omega) hl hwc) hZ (hw _ (List.mem_of_getElem? (i := 40) rfl)) (hw _ (List.mem_of_getElem? (i := 11) rfl)) (by decide) (by decide)) q12a q12c (g := (mkF m 28 #[.val (.ref xw), .val (.int p1), .val (.int r2)] [(.int (((93 : Int32) + (r2 &&& (31 : Int32))).toUInt32.toUInt16.toUInt32.toInt32)), (.ref ys)])) rfl (by rw [hml]; rfl) (Steps.refl _) (argsL := [(.int (((93 : Int32) + (r2 &&& (31 : Int32))).toUInt32.toUInt16.toUInt32.toInt32))]) (rest := []) (lenOf pd_5 rfl) rfl (by show 2 * 0 + _ ≤ _; exact Nat.le_of_eq rfl) (hb hby d5_28) (fun _ _ => ⟨rfl, e11, (by decide : 0 + 0 ≤ _), (by decide : 0 + 0 ≤ _)⟩)
        dsimp only [Pt.U, Pt.locs, Pt.cells, Pt.slots] at X12 l12 y12 z12 st12 hQ12
        replace X12 := own_cast X12 l12 y12 z12
        obtain ⟨rfl, N12q, K12q, po12_0, po12_1, po12_2, po12_3, po12_4⟩ := hQ12
        have N12 := Fr.app N N12q
        have f13 : Fld Z T12.heap xw "com/example/parsewright/parsewright/runtime/Packing$Writer" "text" "Ljava/lang/StringBuilder;" (.ref ys) := lf0.keep K12q (ninS ne_xw_ys (ninS ne_xw_yb nin0))
        have f14 : Exa Z T12.heap ys "java/lang/StringBuilder" := lf1.keep K12q
        have f15 : Sta Z T12.heap "java/lang/String" "COMPACT_STRINGS" "Z" (.int wc) := own_staKeep lf5 K12q (allS (own_nst lf1) (allS (own_nstV lfd) all0))
        have K12 : Keep h0 T12.heap [ys, yb] := Keep.trans K K12q (allS (Or.inl (List.mem_of_getElem? (i := 0) rfl)) (allS (Or.inl (List.mem_of_getElem? (i := 1) rfl)) all0))
        have Z12 : n0 ≤ T12.heap.size := Nat.le_trans Z0 K12.1
        refine Goes.via (S' := (T12.setTop (mkF m 31 #[.val (.ref xw), .val (.int p1), .val (.int r2)] [(.ref ys)]))) (fun t k => st12.trans k) ?_
        refine Goes.via (S' := (T12.setTop (mkF m 32 #[.val (.ref xw), .val (.int p1), .val (.int r2)] []))) (fun t k => XS.pop X12.here hx rfl (hb hby d5_31) rfl rfl k) ?_
        refine Goes.via (S' := (T12.setTop (mkF m 33 #[.val (.ref xw), .val (.int p1), .val (.int r2)] [(.int r2)]))) (fun t k => XS.iloadN X12.here hx rfl (hb hby d5_32) rfl k) ?_
        refine Goes.via (S' := (T12.setTop (mkF m 34 #[.val (.ref xw), .val (.int p1), .val (.int r2)] [(.int (5 : Int32)), (.int r2)]))) (fun t k => XS.iconst X12.here hx rfl (hb hby d5_33) k) ?_
        refine Goes.via (S' := (T12.setTop (mkF m 35 #[.val (.ref xw), .val (.int p1), .val (.int r2)] [(.int ((r2.toUInt32 >>> ((5 : Int32) &&& 31).toUInt32).toInt32))]))) (fun t k => XS.iushr X12.here hx rfl (hb hby d5_34) rfl k) ?_
        refine Goes.via (S' := (T12.setTop (mkF m 36 #[.val (.ref xw), .val (.int p1), .val (.int ((r2.toUInt32 >>> ((5 : Int32) &&& 31).toUInt32).toInt32))] []))) (fun t k => XS.istoreN X12.here hx rfl (hb hby d5_35) rfl (l' := #[.val (.ref xw), .val (.int p1), .val (.int ((r2.toUInt32 >>> ((5 : Int32) &&& 31).toUInt32).toInt32))]) rfl k) ?_
        refine Goes.via (S' := (T12.setTop (mkF m 9 #[.val (.ref xw), .val (.int p1), .val (.int ((r2.toUInt32 >>> ((5 : Int32) &&& 31).toUInt32).toInt32))] []))) (fun t k => XS.goto X12.here hx rfl (pc0 := 36) (pc' := 9) rfl (hb hby d5_36) (by decide) (by decide) k) ?_
        have hu5 := own_shr5 r2
        refine ih _ (nc + 1) _ _ _ _ (by rw [hu5]; exact (Nat.div_lt_iff_lt_mul (by decide)).mpr (by rw [← Nat.pow_succ]; exact hr)) (by omega) (by rw [List.length_set]; exact hl) ?_ ?_ X12 rfl N12 K12 f13 po12_0 po12_1 po12_2 po12_3 f15 po12_4
        · rw [hu5, own_sb (own_a93 r2) (by omega)]; rw [← hpu, show (own_enc (f + 1) r2.toUInt32.toNat) = (93 + r2.toUInt32.toNat % 32) :: own_enc f (r2.toUInt32.toNat / 32) from by rw [own_enc, if_neg hge]]; rfl
        · rw [hu5, ← hle]; rw [show (own_enc (f + 1) r2.toUInt32.toNat) = (93 + r2.toUInt32.toNat % 32) :: own_enc f (r2.toUInt32.toNat / 32) from by rw [own_enc, if_neg hge]]; simp only [List.length_cons]; omega
  exact loop 6 _ nc0 _ _ _ _ (own_ult p1) (by omega) hl rfl rfl X0 e0 N0 (Keep.refl h0 [ys, yb]) f0_xw_text f1_ys f2_ys_value f3_ys_coder f4_ys_count f6_COMPACT_STRINGS f5_yb
theorem d15_0 : decode jdk_68_method_64_code 0 = .ok (.aload_n 0, 1) := by decide +kernel
theorem d15_1 : decode jdk_68_method_64_code 1 = .ok (.getfield 15, 3) := by decide +kernel
theorem d15_4 : decode jdk_68_method_64_code 4 = .ok (.areturn, 1) := by decide +kernel
theorem ef_15 (m : MethodId) (xa : Addr) : entryFrame m #[(.ref xa)] 1 = mkF m 0 #[.val (.ref xa)] [] := by first | (simp [entryFrame, mkF, argsToLocals, Value.category]; done) | rfl
def Q15 (Z : State) (xa : Addr) (yb : Addr) (h0 : Heap) (n0 : Nat) (v : Option Value) (h : Heap) (L : List Loc) : Prop := v = some (.ref yb) ∧ Fr n0 L ∧ h = h0
set_option maxRecDepth 65536 in
set_option maxHeartbeats 40000000 in
theorem rm15 (l : Launch) (Z : State) (a0 : Array Value) (hw : ∀ d ∈ tables_1, d.before a0 Z = true) (ws : List Jvm.Cond) (xa : Addr) (yb : Addr) (h0 : Heap) (n0 : Nat) (Z0 : n0 ≤ h0.size) (f0_xa_value : Fld Z h0 xa "java/lang/AbstractStringBuilder" "value" "[B" (.ref yb)) :
    MetFree l (⟨"java/lang/AbstractStringBuilder", "getValue", "()[B"⟩ : MethodName) (head1 (Jvm.Cond.code (⟨"java/lang/AbstractStringBuilder", "getValue", "()[B"⟩ : MethodName) jdk_68_method_64_code 1 (some (.array .byte)) :: ws) ({ frames := 0, cells := 0, slots := 0, locals := 0 } : Room)) (fun a U => a = #[(.ref xa)] ∧ Z.Warmed39 U.vm ∧ U.heap = h0) (fun _ _ _ _ _ => True) (fun _ U o U' => ∃ v L, o = .returned v ∧ Q15 Z xa yb h0 n0 v U'.heap L ∧ FrameEnd U o U' L 0 0) := by
  refine MetFree.of_bodySF (plainFor_of_name pn_13) hisR ?_
  intro p e s m args below meth c s₁ Bd hml0 hP hK
  obtain ⟨rfl, hZ, hh⟩ := hP
  have hx := Bd.exec
  have hby := Bd.bytes
  have hml : c.maxLocals = 1 := hml0
  have hown : s.vm.findClass "java/lang/AbstractStringBuilder" = some m.cls := findClass_of_methodNamed Bd.named
  have hnm := (name_of_methodNamed Bd.named Bd.method).1
  have X0 : Stand p l e ({ frames := 0, cells := 0, slots := 0, locals := 0 } : Room) s m #[(.ref xa)] below meth c s₁ [] 0 0 := Stand.of_body Bd
  have e0 : s₁.heap = h0 := by rw [← hh, Bd.state]; rfl
  have N0 := Fr.nil n0
  refine own_start (Q := fun v h L => Q15 Z xa yb h0 n0 v h L) ?_
  refine Goes.via (S' := (s₁.setTop (mkF m 0 #[.val (.ref xa)] []))) (fun t k => castTop (ef_15 m xa) k) ?_
  refine Goes.via (S' := (s₁.setTop (mkF m 1 #[.val (.ref xa)] [(.ref xa)]))) (fun t k => XS.aloadN X0.here hx rfl (hb hby d15_0) rfl rfl k) ?_
  obtain ⟨T1, X1, e1, st1⟩ := getF X0 hx hZ hown (host := "") (Or.inl (hw _ (List.mem_of_getElem? (i := 25) rfl))) Via.refl e0 f0_xa_value (g := (mkF m 1 #[.val (.ref xa)] [(.ref xa)])) rfl rfl (hb hby d15_1)
  refine Goes.via (S' := (T1.setTop (mkF m 4 #[.val (.ref xa)] [(.ref yb)]))) (fun t k => st1 _ k) ?_
  exact own_ret X1 hx Bd.notSynchronized Bd.returns rfl (Or.inr (Or.inr (Or.inr (Or.inr ⟨rfl, rfl, rfl⟩)))) (hb hby d15_4) e1 ⟨rfl, N0, rfl⟩ (by decide) (by decide)
theorem d17_0 : decode jdk_68_method_6_code 0 = .ok (.aload_n 0, 1) := by decide +kernel
theorem d17_1 : decode jdk_68_method_6_code 1 = .ok (.getfield 79, 3) := by decide +kernel
theorem d17_4 : decode jdk_68_method_6_code 4 = .ok (.ireturn, 1) := by decide +kernel
theorem ef_17 (m : MethodId) (xa : Addr) : entryFrame m #[(.ref xa)] 1 = mkF m 0 #[.val (.ref xa)] [] := by first | (simp [entryFrame, mkF, argsToLocals, Value.category]; done) | rfl
def Q17 (Z : State) (xa : Addr) (nc : Nat) (h0 : Heap) (n0 : Nat) (v : Option Value) (h : Heap) (L : List Loc) : Prop := v = some (.int (Int32.ofNat nc)) ∧ Fr n0 L ∧ h = h0
set_option maxRecDepth 65536 in
set_option maxHeartbeats 40000000 in
theorem rm17 (l : Launch) (Z : State) (a0 : Array Value) (hw : ∀ d ∈ tables_1, d.before a0 Z = true) (ws : List Jvm.Cond) (xa : Addr) (nc : Nat) (h0 : Heap) (n0 : Nat) (Z0 : n0 ≤ h0.size) (f0_xa_count : Fld Z h0 xa "java/lang/AbstractStringBuilder" "count" "I" (.int (Int32.ofNat nc))) :
    MetFree l (⟨"java/lang/AbstractStringBuilder", "length", "()I"⟩ : MethodName) (head1 (Jvm.Cond.code (⟨"java/lang/AbstractStringBuilder", "length", "()I"⟩ : MethodName) jdk_68_method_6_code 1 (some .int) :: ws) ({ frames := 0, cells := 0, slots := 0, locals := 0 } : Room)) (fun a U => a = #[(.ref xa)] ∧ Z.Warmed39 U.vm ∧ U.heap = h0) (fun _ _ _ _ _ => True) (fun _ U o U' => ∃ v L, o = .returned v ∧ Q17 Z xa nc h0 n0 v U'.heap L ∧ FrameEnd U o U' L 0 0) := by
  refine MetFree.of_bodySF (plainFor_of_name pn_13) hisR ?_
  intro p e s m args below meth c s₁ Bd hml0 hP hK
  obtain ⟨rfl, hZ, hh⟩ := hP
  have hx := Bd.exec
  have hby := Bd.bytes
  have hml : c.maxLocals = 1 := hml0
  have hown : s.vm.findClass "java/lang/AbstractStringBuilder" = some m.cls := findClass_of_methodNamed Bd.named
  have hnm := (name_of_methodNamed Bd.named Bd.method).1
  have X0 : Stand p l e ({ frames := 0, cells := 0, slots := 0, locals := 0 } : Room) s m #[(.ref xa)] below meth c s₁ [] 0 0 := Stand.of_body Bd
  have e0 : s₁.heap = h0 := by rw [← hh, Bd.state]; rfl
  have N0 := Fr.nil n0
  refine own_start (Q := fun v h L => Q17 Z xa nc h0 n0 v h L) ?_
  refine Goes.via (S' := (s₁.setTop (mkF m 0 #[.val (.ref xa)] []))) (fun t k => castTop (ef_17 m xa) k) ?_
  refine Goes.via (S' := (s₁.setTop (mkF m 1 #[.val (.ref xa)] [(.ref xa)]))) (fun t k => XS.aloadN X0.here hx rfl (hb hby d17_0) rfl rfl k) ?_
  obtain ⟨T1, X1, e1, st1⟩ := getF X0 hx hZ hown (host := "") (Or.inl (hw _ (List.mem_of_getElem? (i := 46) rfl))) Via.refl e0 f0_xa_count (g := (mkF m 1 #[.val (.ref xa)] [(.ref xa)])) rfl rfl (hb hby d17_1)
  refine Goes.via (S' := (T1.setTop (mkF m 4 #[.val (.ref xa)] [(.int (Int32.ofNat nc))]))) (fun t k => st1 _ k) ?_
  exact own_ret X1 hx Bd.notSynchronized Bd.returns rfl (Or.inl ⟨rfl, by simp, _, rfl⟩) (hb hby d17_4) e1 ⟨rfl, N0, rfl⟩ (by decide) (by decide)
theorem d16_0 : decode jdk_67_method_93_code 0 = .ok (.aload_n 0, 1) := by decide +kernel
theorem d16_1 : decode jdk_67_method_93_code 1 = .ok (.invokespecial 343, 3) := by decide +kernel
theorem d16_4 : decode jdk_67_method_93_code 4 = .ok (.ireturn, 1) := by decide +kernel
theorem ef_16 (m : MethodId) (xa : Addr) : entryFrame m #[(.ref xa)] 1 = mkF m 0 #[.val (.ref xa)] [] := by first | (simp [entryFrame, mkF, argsToLocals, Value.category]; done) | rfl
def Q16 (Z : State) (xa : Addr) (nc : Nat) (h0 : Heap) (n0 : Nat) (v : Option Value) (h : Heap) (L : List Loc) : Prop := v = some (.int (Int32.ofNat nc)) ∧ Fr n0 L ∧ h = h0
set_option maxRecDepth 65536 in
set_option maxHeartbeats 40000000 in
theorem rm16 (l : Launch) (Z : State) (a0 : Array Value) (hw : ∀ d ∈ tables_1, d.before a0 Z = true) (ws : List Jvm.Cond) (xa : Addr) (nc : Nat) (h0 : Heap) (n0 : Nat) (Z0 : n0 ≤ h0.size) (f0_xa : Exa Z h0 xa "java/lang/StringBuilder") (f1_xa_count : Fld Z h0 xa "java/lang/AbstractStringBuilder" "count" "I" (.int (Int32.ofNat nc))) :
    MetFree l (⟨"java/lang/StringBuilder", "length", "()I"⟩ : MethodName) (head1 (Jvm.Cond.code (⟨"java/lang/StringBuilder", "length", "()I"⟩ : MethodName) jdk_67_method_93_code 1 (some .int) :: ws) ({ frames := 1, cells := 0, slots := 0, locals := 12 } : Room)) (fun a U => a = #[(.ref xa)] ∧ Z.Warmed39 U.vm ∧ U.heap = h0) (fun _ _ _ _ _ => True) (fun _ U o U' => ∃ v L, o = .returned v ∧ Q16 Z xa nc h0 n0 v U'.heap L ∧ FrameEnd U o U' L 0 0) := by
  refine MetFree.of_bodySF (plainFor_of_name pn_18) hisR ?_
  intro p e s m args below meth c s₁ Bd hml0 hP hK
  obtain ⟨rfl, hZ, hh⟩ := hP
  have hx := Bd.exec
  have hby := Bd.bytes
  have hml : c.maxLocals = 1 := hml0
  have hown : s.vm.findClass "java/lang/StringBuilder" = some m.cls := findClass_of_methodNamed Bd.named
  have hnm := (name_of_methodNamed Bd.named Bd.method).1
  have X0 : Stand p l e ({ frames := 1, cells := 0, slots := 0, locals := 12 } : Room) s m #[(.ref xa)] below meth c s₁ [] 0 0 := Stand.of_body Bd
  have e0 : s₁.heap = h0 := by rw [← hh, Bd.state]; rfl
  have N0 := Fr.nil n0
  refine own_start (Q := fun v h L => Q16 Z xa nc h0 n0 v h L) ?_
  refine Goes.via (S' := (s₁.setTop (mkF m 0 #[.val (.ref xa)] []))) (fun t k => castTop (ef_16 m xa) k) ?_
  refine Goes.via (S' := (s₁.setTop (mkF m 1 #[.val (.ref xa)] [(.ref xa)]))) (fun t k => XS.aloadN X0.here hx rfl (hb hby d16_0) rfl rfl k) ?_
  obtain ⟨_, _, ⟨T1, L1, k1, n1⟩, -, X1, ⟨Lc1, hQ1, l1, y1, z1⟩, st1⟩ := superBack X0 hx hZ (y := (⟨"java/lang/AbstractStringBuilder", "length", "()I"⟩ : MethodName)) hown (hw _ (List.mem_of_getElem? (i := 93) rfl)) (own_same (y := (⟨"java/lang/AbstractStringBuilder", "length", "()I"⟩ : MethodName)) (hw _ (List.mem_of_getElem? (i := 88) rfl)) (hw _ (List.mem_of_getElem? (i := 56) rfl)) rfl (by decide)) (hw _ (List.mem_of_getElem? (i := 89) rfl)) (hw _ (List.mem_of_getElem? (i := 43) rfl)) (by decide) (backOf (W := 0) (rm17 l Z a0 hw [] xa nc h0 n0 Z0 f1_xa_count) hZ (hw _ (List.mem_of_getElem? (i := 94) rfl)) (hw _ (List.mem_of_getElem? (i := 19) rfl)) (by decide) (by decide)) e0 (Ins.self f0_xa) (g := (mkF m 1 #[.val (.ref xa)] [(.ref xa)])) rfl (by rw [hml]; rfl) (hw _ (List.mem_of_getElem? (i := 94) rfl)) (argsL := []) (rest := []) (lenOf pd_6 rfl) rfl (by show 2 * 0 + _ ≤ _; exact Nat.le_of_eq rfl) (hb hby d16_1) (fun _ _ => ⟨rfl, e0, (by decide : 0 + 0 ≤ _), (by decide : 0 + 0 ≤ _)⟩)
  dsimp only [Pt.U, Pt.locs, Pt.cells, Pt.slots] at X1 l1 y1 z1 st1 hQ1
  replace X1 := own_cast X1 l1 y1 z1
  obtain ⟨rfl, N1q, eq1⟩ := hQ1
  have N1 := Fr.app N0 N1q
  refine Goes.via (S' := (T1.setTop (mkF m 4 #[.val (.ref xa)] [(.int (Int32.ofNat nc))]))) (fun t k => st1.trans k) ?_
  exact own_ret X1 hx Bd.notSynchronized Bd.returns rfl (Or.inl ⟨rfl, by simp, _, rfl⟩) (hb hby d16_4) eq1 ⟨rfl, N1, rfl⟩ (by decide) (by decide)
theorem d20_0 : decode jdk_65_method_131_code 0 = .ok (.iload_n 1, 1) := by decide +kernel
theorem d20_1 : decode jdk_65_method_131_code 1 = .ok (.iload_n 0, 1) := by decide +kernel
theorem d20_2 : decode jdk_65_method_131_code 2 = .ok (.if_icmp .ge 35, 3) := by decide +kernel
theorem d20_37 : decode jdk_65_method_131_code 37 = .ok (.return_, 1) := by decide +kernel
theorem ef_20 (m : MethodId)  : entryFrame m #[(.int (0 : Int32)), (.int (Int32.ofNat nc))] 2 = mkF m 0 #[.val (.int (0 : Int32)), .val (.int (Int32.ofNat nc))] [] := by first | (simp [entryFrame, mkF, argsToLocals, Value.category]; done) | rfl
def Q20 (Z : State) (nc : Nat) (h0 : Heap) (n0 : Nat) (v : Option Value) (h : Heap) (L : List Loc) : Prop := v = none ∧ Fr n0 L ∧ h = h0
set_option maxRecDepth 65536 in
set_option maxHeartbeats 40000000 in
theorem rm20 (l : Launch) (Z : State) (a0 : Array Value) (hw : ∀ d ∈ tables_1, d.before a0 Z = true) (ws : List Jvm.Cond) (nc : Nat) (h0 : Heap) (n0 : Nat) (Z0 : n0 ≤ h0.size) (hnc : nc < 16) :
    MetFree l (⟨"java/util/Arrays", "checkLength", "(II)V"⟩ : MethodName) (head1 (Jvm.Cond.code (⟨"java/util/Arrays", "checkLength", "(II)V"⟩ : MethodName) jdk_65_method_131_code 2 none :: ws) ({ frames := 0, cells := 0, slots := 0, locals := 0 } : Room)) (fun a U => a = #[(.int (0 : Int32)), (.int (Int32.ofNat nc))] ∧ Z.Warmed39 U.vm ∧ U.heap = h0) (fun _ _ _ _ _ => True) (fun _ U o U' => ∃ v L, o = .returned v ∧ Q20 Z nc h0 n0 v U'.heap L ∧ FrameEnd U o U' L 0 0) := by
  refine MetFree.of_bodySF (plainFor_of_name pn_137) hisR ?_
  intro p e s m args below meth c s₁ Bd hml0 hP hK
  obtain ⟨rfl, hZ, hh⟩ := hP
  have hx := Bd.exec
  have hby := Bd.bytes
  have hml : c.maxLocals = 2 := hml0
  have hown : s.vm.findClass "java/util/Arrays" = some m.cls := findClass_of_methodNamed Bd.named
  have hnm := (name_of_methodNamed Bd.named Bd.method).1
  have X0 : Stand p l e ({ frames := 0, cells := 0, slots := 0, locals := 0 } : Room) s m #[(.int (0 : Int32)), (.int (Int32.ofNat nc))] below meth c s₁ [] 0 0 := Stand.of_body Bd
  have e0 : s₁.heap = h0 := by rw [← hh, Bd.state]; rfl
  have N0 := Fr.nil n0
  refine own_start (Q := fun v h L => Q20 Z nc h0 n0 v h L) ?_
  refine Goes.via (S' := (s₁.setTop (mkF m 0 #[.val (.int (0 : Int32)), .val (.int (Int32.ofNat nc))] []))) (fun t k => castTop (ef_20 m ) k) ?_
  refine Goes.via (S' := (s₁.setTop (mkF m 1 #[.val (.int (0 : Int32)), .val (.int (Int32.ofNat nc))] [(.int (Int32.ofNat nc))]))) (fun t k => XS.iloadN X0.here hx rfl (hb hby d20_0) rfl k) ?_
  refine Goes.via (S' := (s₁.setTop (mkF m 2 #[.val (.int (0 : Int32)), .val (.int (Int32.ofNat nc))] [(.int (0 : Int32)), (.int (Int32.ofNat nc))]))) (fun t k => XS.iloadN X0.here hx rfl (hb hby d20_1) rfl k) ?_
  refine Goes.via (S' := (s₁.setTop (mkF m 37 #[.val (.int (0 : Int32)), .val (.int (Int32.ofNat nc))] []))) (fun t k => XS.icmpYes X0.here hx rfl (pc0 := 2) (pc' := 37) rfl (hb hby d20_2) rfl (flt (own_nn hnc)).2.1 (by decide) (by decide) k) ?_
  exact own_retV X0 hx Bd.notSynchronized Bd.returns (hb hby d20_37) e0 ⟨rfl, N0, rfl⟩ (by decide) (by decide)
theorem d21_0 : decode jdk_29_method_69_code 0 = .ok (.iload_n 0, 1) := by decide +kernel
theorem d21_1 : decode jdk_29_method_69_code 1 = .ok (.iload_n 1, 1) := by decide +kernel
theorem d21_2 : decode jdk_29_method_69_code 2 = .ok (.if_icmp .gt 7, 3) := by decide +kernel
theorem d21_9 : decode jdk_29_method_69_code 9 = .ok (.iload_n 1, 1) := by decide +kernel
theorem d21_10 : decode jdk_29_method_69_code 10 = .ok (.ireturn, 1) := by decide +kernel
theorem ef_21 (m : MethodId)  : entryFrame m #[(.int (16 : Int32)), (.int (Int32.ofNat nc))] 2 = mkF m 0 #[.val (.int (16 : Int32)), .val (.int (Int32.ofNat nc))] [] := by first | (simp [entryFrame, mkF, argsToLocals, Value.category]; done) | rfl
def Q21 (Z : State) (nc : Nat) (h0 : Heap) (n0 : Nat) (v : Option Value) (h : Heap) (L : List Loc) : Prop := v = some (.int (Int32.ofNat nc)) ∧ Fr n0 L ∧ h = h0
set_option maxRecDepth 65536 in
set_option maxHeartbeats 40000000 in
theorem rm21 (l : Launch) (Z : State) (a0 : Array Value) (hw : ∀ d ∈ tables_1, d.before a0 Z = true) (ws : List Jvm.Cond) (nc : Nat) (h0 : Heap) (n0 : Nat) (Z0 : n0 ≤ h0.size) (hnc : nc < 16) :
    MetFree l (⟨"java/lang/Math", "min", "(II)I"⟩ : MethodName) (head1 (Jvm.Cond.code (⟨"java/lang/Math", "min", "(II)I"⟩ : MethodName) jdk_29_method_69_code 2 (some .int) :: ws) ({ frames := 0, cells := 0, slots := 0, locals := 0 } : Room)) (fun a U => a = #[(.int (16 : Int32)), (.int (Int32.ofNat nc))] ∧ Z.Warmed39 U.vm ∧ U.heap = h0) (fun _ _ _ _ _ => True) (fun _ U o U' => ∃ v L, o = .returned v ∧ Q21 Z nc h0 n0 v U'.heap L ∧ FrameEnd U o U' L 0 0) := by
  refine MetFree.of_bodySF (Jvm.Free.JP.mathPlain rfl (by decide +kernel)) hisR ?_
  intro p e s m args below meth c s₁ Bd hml0 hP hK
  obtain ⟨rfl, hZ, hh⟩ := hP
  have hx := Bd.exec
  have hby := Bd.bytes
  have hml : c.maxLocals = 2 := hml0
  have hown : s.vm.findClass "java/lang/Math" = some m.cls := findClass_of_methodNamed Bd.named
  have hnm := (name_of_methodNamed Bd.named Bd.method).1
  have X0 : Stand p l e ({ frames := 0, cells := 0, slots := 0, locals := 0 } : Room) s m #[(.int (16 : Int32)), (.int (Int32.ofNat nc))] below meth c s₁ [] 0 0 := Stand.of_body Bd
  have e0 : s₁.heap = h0 := by rw [← hh, Bd.state]; rfl
  have N0 := Fr.nil n0
  refine own_start (Q := fun v h L => Q21 Z nc h0 n0 v h L) ?_
  refine Goes.via (S' := (s₁.setTop (mkF m 0 #[.val (.int (16 : Int32)), .val (.int (Int32.ofNat nc))] []))) (fun t k => castTop (ef_21 m ) k) ?_
  refine Goes.via (S' := (s₁.setTop (mkF m 1 #[.val (.int (16 : Int32)), .val (.int (Int32.ofNat nc))] [(.int (16 : Int32))]))) (fun t k => XS.iloadN X0.here hx rfl (hb hby d21_0) rfl k) ?_
  refine Goes.via (S' := (s₁.setTop (mkF m 2 #[.val (.int (16 : Int32)), .val (.int (Int32.ofNat nc))] [(.int (Int32.ofNat nc)), (.int (16 : Int32))]))) (fun t k => XS.iloadN X0.here hx rfl (hb hby d21_1) rfl k) ?_
  refine Goes.via (S' := (s₁.setTop (mkF m 9 #[.val (.int (16 : Int32)), .val (.int (Int32.ofNat nc))] []))) (fun t k => XS.icmpYes X0.here hx rfl (pc0 := 2) (pc' := 9) rfl (hb hby d21_2) rfl (tlt (own_l16 hnc)).2.2.1 (by decide) (by decide) k) ?_
  refine Goes.via (S' := (s₁.setTop (mkF m 10 #[.val (.int (16 : Int32)), .val (.int (Int32.ofNat nc))] [(.int (Int32.ofNat nc))]))) (fun t k => XS.iloadN X0.here hx rfl (hb hby d21_9) rfl k) ?_
  exact own_ret X0 hx Bd.notSynchronized Bd.returns rfl (Or.inl ⟨rfl, by simp, _, rfl⟩) (hb hby d21_10) e0 ⟨rfl, N0, rfl⟩ (by decide) (by decide)
theorem d19_0 : decode jdk_65_method_133_code 0 = .ok (.iload_n 1, 1) := by decide +kernel
theorem d19_1 : decode jdk_65_method_133_code 1 = .ok (.iload_n 2, 1) := by decide +kernel
theorem d19_2 : decode jdk_65_method_133_code 2 = .ok (.invokestatic 343, 3) := by decide +kernel
theorem d19_5 : decode jdk_65_method_133_code 5 = .ok (.iload_n 2, 1) := by decide +kernel
theorem d19_6 : decode jdk_65_method_133_code 6 = .ok (.iload_n 1, 1) := by decide +kernel
theorem d19_7 : decode jdk_65_method_133_code 7 = .ok (.isub, 1) := by decide +kernel
theorem d19_8 : decode jdk_65_method_133_code 8 = .ok (.istore_n 3, 1) := by decide +kernel
theorem d19_9 : decode jdk_65_method_133_code 9 = .ok (.iload_n 3, 1) := by decide +kernel
theorem d19_10 : decode jdk_65_method_133_code 10 = .ok (.newarray .byte, 2) := by decide +kernel
theorem d19_12 : decode jdk_65_method_133_code 12 = .ok (.astore 4, 2) := by decide +kernel
theorem d19_14 : decode jdk_65_method_133_code 14 = .ok (.aload_n 0, 1) := by decide +kernel
theorem d19_15 : decode jdk_65_method_133_code 15 = .ok (.iload_n 1, 1) := by decide +kernel
theorem d19_16 : decode jdk_65_method_133_code 16 = .ok (.aload 4, 2) := by decide +kernel
theorem d19_18 : decode jdk_65_method_133_code 18 = .ok (.iconst 0, 1) := by decide +kernel
theorem d19_19 : decode jdk_65_method_133_code 19 = .ok (.aload_n 0, 1) := by decide +kernel
theorem d19_20 : decode jdk_65_method_133_code 20 = .ok (.arraylength, 1) := by decide +kernel
theorem d19_21 : decode jdk_65_method_133_code 21 = .ok (.iload_n 1, 1) := by decide +kernel
theorem d19_22 : decode jdk_65_method_133_code 22 = .ok (.isub, 1) := by decide +kernel
theorem d19_23 : decode jdk_65_method_133_code 23 = .ok (.iload_n 3, 1) := by decide +kernel
theorem d19_24 : decode jdk_65_method_133_code 24 = .ok (.invokestatic 304, 3) := by decide +kernel
theorem d19_27 : decode jdk_65_method_133_code 27 = .ok (.invokestatic 150, 3) := by decide +kernel
theorem d19_30 : decode jdk_65_method_133_code 30 = .ok (.aload 4, 2) := by decide +kernel
theorem d19_32 : decode jdk_65_method_133_code 32 = .ok (.areturn, 1) := by decide +kernel
theorem ef_19 (m : MethodId) (ya : Addr) : entryFrame m #[(.ref ya), (.int (0 : Int32)), (.int (Int32.ofNat nc))] 5 = mkF m 0 #[.val (.ref ya), .val (.int (0 : Int32)), .val (.int (Int32.ofNat nc)), .unset, .unset] [] := by first | (simp [entryFrame, mkF, argsToLocals, Value.category]; done) | rfl
def Q19 (Z : State) (ya : Addr) (ka : ClassId) (vs : List Value) (nc : Nat) (h0 : Heap) (n0 : Nat) (v : Option Value) (h : Heap) (L : List Loc) : Prop := ∃ (yn : Addr) (kn : ClassId) (vn : List Value), v = some (.ref yn) ∧ Fr n0 L ∧ Keep h0 h [] ∧ Arv Z h yn kn .byte (Int32.ofNat nc) vn (.int (0 : Int32)) ∧ n0 ≤ yn ∧ h0.size ≤ yn ∧ ∀ i, i < nc → vn.getD i (.int (0 : Int32)) = vs.getD i (.int (0 : Int32))
set_option maxRecDepth 65536 in
set_option maxHeartbeats 40000000 in
theorem rm19 (l : Launch) (Z : State) (a0 : Array Value) (hw : ∀ d ∈ tables_1, d.before a0 Z = true) (ws : List Jvm.Cond) (ya : Addr) (ka : ClassId) (vs : List Value) (nc : Nat) (h0 : Heap) (n0 : Nat) (Z0 : n0 ≤ h0.size) (f0_ya : Arv Z h0 ya ka .byte (16 : Int32) vs (.int (0 : Int32))) (hnc : nc < 16) :
    MetFree l (⟨"java/util/Arrays", "copyOfRangeByte", "([BII)[B"⟩ : MethodName) (head1 (Jvm.Cond.code (⟨"java/util/Arrays", "copyOfRangeByte", "([BII)[B"⟩ : MethodName) jdk_65_method_133_code 5 (some (.array .byte)) :: ws) ({ frames := 1, cells := 1, slots := 16, locals := 27 } : Room)) (fun a U => a = #[(.ref ya), (.int (0 : Int32)), (.int (Int32.ofNat nc))] ∧ Z.Warmed39 U.vm ∧ U.heap = h0) (fun _ _ _ _ _ => True) (fun _ U o U' => ∃ v L, o = .returned v ∧ Q19 Z ya ka vs nc h0 n0 v U'.heap L ∧ FrameEnd U o U' L 1 16) := by
  refine MetFree.of_bodySF (plainFor_of_name pn_137) hisR ?_
  intro p e s m args below meth c s₁ Bd hml0 hP hK
  obtain ⟨rfl, hZ, hh⟩ := hP
  have hx := Bd.exec
  have hby := Bd.bytes
  have hml : c.maxLocals = 5 := hml0
  have hown : s.vm.findClass "java/util/Arrays" = some m.cls := findClass_of_methodNamed Bd.named
  have hnm := (name_of_methodNamed Bd.named Bd.method).1
  have X0 : Stand p l e ({ frames := 1, cells := 1, slots := 16, locals := 27 } : Room) s m #[(.ref ya), (.int (0 : Int32)), (.int (Int32.ofNat nc))] below meth c s₁ [] 0 0 := Stand.of_body Bd
  have e0 : s₁.heap = h0 := by rw [← hh, Bd.state]; rfl
  have N0 := Fr.nil n0
  refine own_start (Q := fun v h L => Q19 Z ya ka vs nc h0 n0 v h L) ?_
  refine Goes.via (S' := (s₁.setTop (mkF m 0 #[.val (.ref ya), .val (.int (0 : Int32)), .val (.int (Int32.ofNat nc)), .unset, .unset] []))) (fun t k => castTop (ef_19 m ya) k) ?_
  refine Goes.via (S' := (s₁.setTop (mkF m 1 #[.val (.ref ya), .val (.int (0 : Int32)), .val (.int (Int32.ofNat nc)), .unset, .unset] [(.int (0 : Int32))]))) (fun t k => XS.iloadN X0.here hx rfl (hb hby d19_0) rfl k) ?_
  refine Goes.via (S' := (s₁.setTop (mkF m 2 #[.val (.ref ya), .val (.int (0 : Int32)), .val (.int (Int32.ofNat nc)), .unset, .unset] [(.int (Int32.ofNat nc)), (.int (0 : Int32))]))) (fun t k => XS.iloadN X0.here hx rfl (hb hby d19_1) rfl k) ?_
  obtain ⟨_, _, ⟨T1, L1, k1, n1⟩, -, X1, ⟨Lc1, hQ1, l1, y1, z1⟩, st1⟩ := Jvm.LawKit.callS X0 hx (y := (⟨"java/util/Arrays", "checkLength", "(II)V"⟩ : MethodName)) hown (mvT hZ (hw _ (List.mem_of_getElem? (i := 105) rfl))) (mvT hZ (hw _ (List.mem_of_getElem? (i := 106) rfl))) (mvT hZ (hw _ (List.mem_of_getElem? (i := 100) rfl))) (mvT hZ (hw _ (List.mem_of_getElem? (i := 107) rfl))) (by decide) (backOf (W := 0) (rm20 l Z a0 hw [] nc h0 n0 Z0 hnc) hZ (hw _ (List.mem_of_getElem? (i := 107) rfl)) (hw _ (List.mem_of_getElem? (i := 100) rfl)) (by decide) (by decide)) (g := (mkF m 2 #[.val (.ref ya), .val (.int (0 : Int32)), .val (.int (Int32.ofNat nc)), .unset, .unset] [(.int (Int32.ofNat nc)), (.int (0 : Int32))])) rfl (by rw [hml]; rfl) (argsL := [(.int (0 : Int32)), (.int (Int32.ofNat nc))]) (rest := []) (lenOf pd_7 rfl) rfl (by show 2 * 0 + _ ≤ _; exact Nat.le_of_eq rfl) (hb hby d19_2) (fun _ _ => ⟨rfl, e0, (by decide : 0 + 0 ≤ _), (by decide : 0 + 0 ≤ _)⟩)
  dsimp only [Pt.U, Pt.locs, Pt.cells, Pt.slots] at X1 l1 y1 z1 st1 hQ1
  replace X1 := own_cast X1 l1 y1 z1
  obtain ⟨rfl, N1q, eq1⟩ := hQ1
  have N1 := Fr.app N0 N1q
  refine Goes.via (S' := (T1.setTop (mkF m 5 #[.val (.ref ya), .val (.int (0 : Int32)), .val (.int (Int32.ofNat nc)), .unset, .unset] []))) (fun t k => st1 _ k) ?_
  refine Goes.via (S' := (T1.setTop (mkF m 6 #[.val (.ref ya), .val (.int (0 : Int32)), .val (.int (Int32.ofNat nc)), .unset, .unset] [(.int (Int32.ofNat nc))]))) (fun t k => XS.iloadN X1.here hx rfl (hb hby d19_5) rfl k) ?_
  refine Goes.via (S' := (T1.setTop (mkF m 7 #[.val (.ref ya), .val (.int (0 : Int32)), .val (.int (Int32.ofNat nc)), .unset, .unset] [(.int (0 : Int32)), (.int (Int32.ofNat nc))]))) (fun t k => XS.iloadN X1.here hx rfl (hb hby d19_6) rfl k) ?_
  refine Goes.via (S' := (T1.setTop (mkF m 8 #[.val (.ref ya), .val (.int (0 : Int32)), .val (.int (Int32.ofNat nc)), .unset, .unset] [(.int ((Int32.ofNat nc) - (0 : Int32)))]))) (fun t k => XS.isub X1.here hx rfl (hb hby d19_7) rfl k) ?_
  rw [Int32.sub_zero]
  refine Goes.via (S' := (T1.setTop (mkF m 9 #[.val (.ref ya), .val (.int (0 : Int32)), .val (.int (Int32.ofNat nc)), .val (.int (Int32.ofNat nc)), .unset] []))) (fun t k => XS.istoreN X1.here hx rfl (hb hby d19_8) rfl (l' := #[.val (.ref ya), .val (.int (0 : Int32)), .val (.int (Int32.ofNat nc)), .val (.int (Int32.ofNat nc)), .unset]) rfl k) ?_
  refine Goes.via (S' := (T1.setTop (mkF m 10 #[.val (.ref ya), .val (.int (0 : Int32)), .val (.int (Int32.ofNat nc)), .val (.int (Int32.ofNat nc)), .unset] [(.int (Int32.ofNat nc))]))) (fun t k => XS.iloadN X1.here hx rfl (hb hby d19_9) rfl k) ?_
  obtain ⟨T2, h2, k2, X2, e2, E2, A2, st2⟩ := newP X1 hx hZ (hw _ (List.mem_of_getElem? (i := 24) rfl)) eq1 (g := (mkF m 10 #[.val (.ref ya), .val (.int (0 : Int32)), .val (.int (Int32.ofNat nc)), .val (.int (Int32.ofNat nc)), .unset] [(.int (Int32.ofNat nc))])) rfl (hb hby d19_10) rfl (own_nn hnc) (cap := 16) (by rw [own_clamp (by omega)]; omega) (by decide) (by decide) (by decide)
  obtain ⟨b2, g2⟩ : ∃ z, z = h0.size := ⟨_, rfl⟩
  rw [← g2] at A2 st2
  have f3 : Arv Z h2 ya ka .byte (16 : Int32) vs (.int (0 : Int32)) := f0_ya.ext E2
  have K2 : Keep h0 h2 [] := Keep.ext (Keep.refl h0 []) E2
  have Z2 : n0 ≤ h2.size := Nat.le_trans Z0 K2.1
  have g_b2 : n0 ≤ b2 := Nat.le_trans Z0 (Nat.le_of_eq g2.symm)
  have sz_b2 : h0.size ≤ b2 := Nat.le_trans ((Keep.refl h0 [])).1 (Nat.le_of_eq g2.symm)
  have ne_ya_b2 : ya ≠ b2 := Nat.ne_of_lt (Nat.lt_of_lt_of_le f0_ya.lt (Nat.le_of_eq g2.symm))
  have f4 : Arv Z h2 b2 k2 .byte (Int32.ofNat nc) [(.int (0 : Int32)), (.int (0 : Int32)), (.int (0 : Int32)), (.int (0 : Int32)), (.int (0 : Int32)), (.int (0 : Int32)), (.int (0 : Int32)), (.int (0 : Int32)), (.int (0 : Int32)), (.int (0 : Int32)), (.int (0 : Int32)), (.int (0 : Int32)), (.int (0 : Int32)), (.int (0 : Int32)), (.int (0 : Int32)), (.int (0 : Int32))] (.int (0 : Int32)) := (Arv.new A2 (own_nn hnc)).pad (pad_rep [] (.int (0 : Int32)) 16)
  refine Goes.via (S' := (T2.setTop (mkF m 12 #[.val (.ref ya), .val (.int (0 : Int32)), .val (.int (Int32.ofNat nc)), .val (.int (Int32.ofNat nc)), .unset] [(.ref b2)]))) (fun t k => st2 _ k) ?_
  refine Goes.via (S' := (T2.setTop (mkF m 14 #[.val (.ref ya), .val (.int (0 : Int32)), .val (.int (Int32.ofNat nc)), .val (.int (Int32.ofNat nc)), .val (.ref b2)] []))) (fun t k => XS.astore X2.here hx rfl (hb hby d19_12) rfl rfl (l' := #[.val (.ref ya), .val (.int (0 : Int32)), .val (.int (Int32.ofNat nc)), .val (.int (Int32.ofNat nc)), .val (.ref b2)]) rfl k) ?_
  refine Goes.via (S' := (T2.setTop (mkF m 15 #[.val (.ref ya), .val (.int (0 : Int32)), .val (.int (Int32.ofNat nc)), .val (.int (Int32.ofNat nc)), .val (.ref b2)] [(.ref ya)]))) (fun t k => XS.aloadN X2.here hx rfl (hb hby d19_14) rfl rfl k) ?_
  refine Goes.via (S' := (T2.setTop (mkF m 16 #[.val (.ref ya), .val (.int (0 : Int32)), .val (.int (Int32.ofNat nc)), .val (.int (Int32.ofNat nc)), .val (.ref b2)] [(.int (0 : Int32)), (.ref ya)]))) (fun t k => XS.iloadN X2.here hx rfl (hb hby d19_15) rfl k) ?_
  refine Goes.via (S' := (T2.setTop (mkF m 18 #[.val (.ref ya), .val (.int (0 : Int32)), .val (.int (Int32.ofNat nc)), .val (.int (Int32.ofNat nc)), .val (.ref b2)] [(.ref b2), (.int (0 : Int32)), (.ref ya)]))) (fun t k => XS.aload X2.here hx rfl (hb hby d19_16) rfl rfl k) ?_
  refine Goes.via (S' := (T2.setTop (mkF m 19 #[.val (.ref ya), .val (.int (0 : Int32)), .val (.int (Int32.ofNat nc)), .val (.int (Int32.ofNat nc)), .val (.ref b2)] [(.int (0 : Int32)), (.ref b2), (.int (0 : Int32)), (.ref ya)]))) (fun t k => XS.iconst X2.here hx rfl (hb hby d19_18) k) ?_
  refine Goes.via (S' := (T2.setTop (mkF m 20 #[.val (.ref ya), .val (.int (0 : Int32)), .val (.int (Int32.ofNat nc)), .val (.int (Int32.ofNat nc)), .val (.ref b2)] [(.ref ya), (.int (0 : Int32)), (.ref b2), (.int (0 : Int32)), (.ref ya)]))) (fun t k => XS.aloadN X2.here hx rfl (hb hby d19_19) rfl rfl k) ?_
  obtain ⟨cl5, Ar5, q5, S5, M5, Hs5, G5⟩ := id f3
  refine Goes.via (S' := (T2.setTop (mkF m 21 #[.val (.ref ya), .val (.int (0 : Int32)), .val (.int (Int32.ofNat nc)), .val (.int (Int32.ofNat nc)), .val (.ref b2)] [(.int (16 : Int32)), (.int (0 : Int32)), (.ref b2), (.int (0 : Int32)), (.ref ya)]))) (fun t k => X2.arraylength hx (by rw [e2]; exact Ar5.1) (State.isArrayOf_alike hZ.alike Ar5.2.1) (g := (mkF m 20 #[.val (.ref ya), .val (.int (0 : Int32)), .val (.int (Int32.ofNat nc)), .val (.int (Int32.ofNat nc)), .val (.ref b2)] [(.ref ya), (.int (0 : Int32)), (.ref b2), (.int (0 : Int32)), (.ref ya)])) rfl rfl (hb hby d19_20) _ (by rw [len_of S5 M5]; exact k)) ?_
  refine Goes.via (S' := (T2.setTop (mkF m 22 #[.val (.ref ya), .val (.int (0 : Int32)), .val (.int (Int32.ofNat nc)), .val (.int (Int32.ofNat nc)), .val (.ref b2)] [(.int (0 : Int32)), (.int (16 : Int32)), (.int (0 : Int32)), (.ref b2), (.int (0 : Int32)), (.ref ya)]))) (fun t k => XS.iloadN X2.here hx rfl (hb hby d19_21) rfl k) ?_
  refine Goes.via (S' := (T2.setTop (mkF m 23 #[.val (.ref ya), .val (.int (0 : Int32)), .val (.int (Int32.ofNat nc)), .val (.int (Int32.ofNat nc)), .val (.ref b2)] [(.int (16 : Int32)), (.int (0 : Int32)), (.ref b2), (.int (0 : Int32)), (.ref ya)]))) (fun t k => XS.isub X2.here hx rfl (hb hby d19_22) rfl k) ?_
  refine Goes.via (S' := (T2.setTop (mkF m 24 #[.val (.ref ya), .val (.int (0 : Int32)), .val (.int (Int32.ofNat nc)), .val (.int (Int32.ofNat nc)), .val (.ref b2)] [(.int (Int32.ofNat nc)), (.int (16 : Int32)), (.int (0 : Int32)), (.ref b2), (.int (0 : Int32)), (.ref ya)]))) (fun t k => XS.iloadN X2.here hx rfl (hb hby d19_23) rfl k) ?_
  obtain ⟨_, _, ⟨T6, L6, k6, n6⟩, -, X6, ⟨Lc6, hQ6, l6, y6, z6⟩, st6⟩ := Jvm.LawKit.callS X2 hx (y := (⟨"java/lang/Math", "min", "(II)I"⟩ : MethodName)) hown (mvT hZ (hw _ (List.mem_of_getElem? (i := 108) rfl))) (mvT hZ (hw _ (List.mem_of_getElem? (i := 109) rfl))) (mvT hZ (hw _ (List.mem_of_getElem? (i := 110) rfl))) (mvT hZ (hw _ (List.mem_of_getElem? (i := 111) rfl))) (by decide) (backOf (W := 4) (rm21 l Z a0 hw [] nc h2 n0 Z2 hnc) hZ (hw _ (List.mem_of_getElem? (i := 111) rfl)) (hw _ (List.mem_of_getElem? (i := 110) rfl)) (by decide) (by decide)) (g := (mkF m 24 #[.val (.ref ya), .val (.int (0 : Int32)), .val (.int (Int32.ofNat nc)), .val (.int (Int32.ofNat nc)), .val (.ref b2)] [(.int (Int32.ofNat nc)), (.int (16 : Int32)), (.int (0 : Int32)), (.ref b2), (.int (0 : Int32)), (.ref ya)])) rfl (by rw [hml]; rfl) (argsL := [(.int (16 : Int32)), (.int (Int32.ofNat nc))]) (rest := [(.int (0 : Int32)), (.ref b2), (.int (0 : Int32)), (.ref ya)]) (lenOf pd_8 rfl) rfl (by show 2 * 0 + _ ≤ _; exact Nat.le_of_eq rfl) (hb hby d19_24) (fun _ _ => ⟨rfl, e2, (by decide : 1 + 0 ≤ _), (by decide : 16 + 0 ≤ _)⟩)
  dsimp only [Pt.U, Pt.locs, Pt.cells, Pt.slots] at X6 l6 y6 z6 st6 hQ6
  replace X6 := own_cast X6 l6 y6 z6
  obtain ⟨rfl, N6q, eq6⟩ := hQ6
  have N6 := Fr.app N1 N6q
  refine Goes.via (S' := (T6.setTop (mkF m 27 #[.val (.ref ya), .val (.int (0 : Int32)), .val (.int (Int32.ofNat nc)), .val (.int (Int32.ofNat nc)), .val (.ref b2)] [(.int (Int32.ofNat nc)), (.int (0 : Int32)), (.ref b2), (.int (0 : Int32)), (.ref ya)]))) (fun t k => st6 _ k) ?_
  obtain ⟨T7, h7, L7, X7, e7, N7, K7q, V7, st7⟩ := cpA X6 hx hZ hown (hw _ (List.mem_of_getElem? (i := 112) rfl)) (hw _ (List.mem_of_getElem? (i := 115) rfl)) (hw _ (List.mem_of_getElem? (i := 113) rfl)) (hw _ (List.mem_of_getElem? (i := 114) rfl)) eq6 (sp := (0 : Int32)) (dp := (0 : Int32)) (nn := (Int32.ofNat nc)) (us := ((List.range (Int32.ofNat nc).toNatClampNeg).map fun i => vs.getD ((0 : Int32).toNatClampNeg + i) (.int (0 : Int32)))) f3 f4 (Or.inl ⟨rfl, rfl⟩) (by decide) (by decide) (own_nn hnc) (by rw [own_clamp (by omega)]; show 0 + nc ≤ 16; omega) (by show 0 + _ ≤ _; omega) rfl (by rw [own_clamp (by omega)]; show 0 + nc ≤ 16; omega) N6 g_b2 (g := (mkF m 27 #[.val (.ref ya), .val (.int (0 : Int32)), .val (.int (Int32.ofNat nc)), .val (.int (Int32.ofNat nc)), .val (.ref b2)] [(.int (Int32.ofNat nc)), (.int (0 : Int32)), (.ref b2), (.int (0 : Int32)), (.ref ya)])) rfl (by rw [hml]; rfl) rfl (hb hby d19_27) (by decide) (W := 0) (by show 2 * 0 + _ ≤ _; exact Nat.le_of_eq rfl) (by decide)
  have f8 : Arv Z h7 ya ka .byte (16 : Int32) vs (.int (0 : Int32)) := f3.keep K7q (ninS ne_ya_b2 nin0)
  have K7 : Keep h0 h7 [] := Keep.trans K2 K7q (allS (Or.inr sz_b2) all0)
  have Z7 : n0 ≤ h7.size := Nat.le_trans Z0 K7.1
  obtain ⟨vn, hvn⟩ : ∃ z : List Value, z = (([(.int (0 : Int32)), (.int (0 : Int32)), (.int (0 : Int32)), (.int (0 : Int32)), (.int (0 : Int32)), (.int (0 : Int32)), (.int (0 : Int32)), (.int (0 : Int32)), (.int (0 : Int32)), (.int (0 : Int32)), (.int (0 : Int32)), (.int (0 : Int32)), (.int (0 : Int32)), (.int (0 : Int32)), (.int (0 : Int32)), (.int (0 : Int32))] : List Value).take ((0 : Int32).toNatClampNeg) ++ ((List.range (Int32.ofNat nc).toNatClampNeg).map fun i => vs.getD ((0 : Int32).toNatClampNeg + i) (.int (0 : Int32))) ++ ([(.int (0 : Int32)), (.int (0 : Int32)), (.int (0 : Int32)), (.int (0 : Int32)), (.int (0 : Int32)), (.int (0 : Int32)), (.int (0 : Int32)), (.int (0 : Int32)), (.int (0 : Int32)), (.int (0 : Int32)), (.int (0 : Int32)), (.int (0 : Int32)), (.int (0 : Int32)), (.int (0 : Int32)), (.int (0 : Int32)), (.int (0 : Int32))] : List Value).drop ((0 : Int32).toNatClampNeg + (Int32.ofNat nc).toNatClampNeg)) := ⟨_, rfl⟩
  rw [← hvn] at V7
  have f9 : Arv Z h7 b2 k2 .byte (Int32.ofNat nc) vn (.int (0 : Int32)) := V7
  refine Goes.via (S' := (T7.setTop (mkF m 30 #[.val (.ref ya), .val (.int (0 : Int32)), .val (.int (Int32.ofNat nc)), .val (.int (Int32.ofNat nc)), .val (.ref b2)] []))) (fun t k => st7 _ k) ?_
  refine Goes.via (S' := (T7.setTop (mkF m 32 #[.val (.ref ya), .val (.int (0 : Int32)), .val (.int (Int32.ofNat nc)), .val (.int (Int32.ofNat nc)), .val (.ref b2)] [(.ref b2)]))) (fun t k => XS.aload X7.here hx rfl (hb hby d19_30) rfl rfl k) ?_
  exact own_ret X7 hx Bd.notSynchronized Bd.returns rfl (Or.inr (Or.inr (Or.inr (Or.inr ⟨rfl, rfl, rfl⟩)))) (hb hby d19_32) e7 ⟨b2, k2, vn, rfl, N7, K7, f9, g_b2, sz_b2, (fun i hi => by rw [hvn]; exact own_cpget (by rw [own_clamp (by omega)]) i hi _)⟩ (by decide) (by decide)
theorem d18_0 : decode jdk_65_method_132_code 0 = .ok (.iload_n 1, 1) := by decide +kernel
theorem d18_1 : decode jdk_65_method_132_code 1 = .ok (.ifCond .ne 9, 3) := by decide +kernel
theorem d18_4 : decode jdk_65_method_132_code 4 = .ok (.iload_n 2, 1) := by decide +kernel
theorem d18_5 : decode jdk_65_method_132_code 5 = .ok (.aload_n 0, 1) := by decide +kernel
theorem d18_6 : decode jdk_65_method_132_code 6 = .ok (.arraylength, 1) := by decide +kernel
theorem d18_7 : decode jdk_65_method_132_code 7 = .ok (.if_icmp .eq 10, 3) := by decide +kernel
theorem d18_10 : decode jdk_65_method_132_code 10 = .ok (.aload_n 0, 1) := by decide +kernel
theorem d18_11 : decode jdk_65_method_132_code 11 = .ok (.iload_n 1, 1) := by decide +kernel
theorem d18_12 : decode jdk_65_method_132_code 12 = .ok (.iload_n 2, 1) := by decide +kernel
theorem d18_13 : decode jdk_65_method_132_code 13 = .ok (.invokestatic 339, 3) := by decide +kernel
theorem d18_16 : decode jdk_65_method_132_code 16 = .ok (.areturn, 1) := by decide +kernel
theorem ef_18 (m : MethodId) (ya : Addr) : entryFrame m #[(.ref ya), (.int (0 : Int32)), (.int (Int32.ofNat nc))] 3 = mkF m 0 #[.val (.ref ya), .val (.int (0 : Int32)), .val (.int (Int32.ofNat nc))] [] := by first | (simp [entryFrame, mkF, argsToLocals, Value.category]; done) | rfl
def Q18 (Z : State) (ya : Addr) (ka : ClassId) (vs : List Value) (nc : Nat) (h0 : Heap) (n0 : Nat) (v : Option Value) (h : Heap) (L : List Loc) : Prop := ∃ (yn : Addr) (kn : ClassId) (vn : List Value), v = some (.ref yn) ∧ Fr n0 L ∧ Keep h0 h [] ∧ Arv Z h yn kn .byte (Int32.ofNat nc) vn (.int (0 : Int32)) ∧ n0 ≤ yn ∧ h0.size ≤ yn ∧ ∀ i, i < nc → vn.getD i (.int (0 : Int32)) = vs.getD i (.int (0 : Int32))
set_option maxRecDepth 65536 in
set_option maxHeartbeats 40000000 in
theorem rm18 (l : Launch) (Z : State) (a0 : Array Value) (hw : ∀ d ∈ tables_1, d.before a0 Z = true) (ws : List Jvm.Cond) (ya : Addr) (ka : ClassId) (vs : List Value) (nc : Nat) (h0 : Heap) (n0 : Nat) (Z0 : n0 ≤ h0.size) (f0_ya : Arv Z h0 ya ka .byte (16 : Int32) vs (.int (0 : Int32))) (hnc : nc < 16) :
    MetFree l (⟨"java/util/Arrays", "copyOfRange", "([BII)[B"⟩ : MethodName) (head1 (Jvm.Cond.code (⟨"java/util/Arrays", "copyOfRange", "([BII)[B"⟩ : MethodName) jdk_65_method_132_code 3 (some (.array .byte)) :: ws) ({ frames := 2, cells := 1, slots := 16, locals := 43 } : Room)) (fun a U => a = #[(.ref ya), (.int (0 : Int32)), (.int (Int32.ofNat nc))] ∧ Z.Warmed39 U.vm ∧ U.heap = h0) (fun _ _ _ _ _ => True) (fun _ U o U' => ∃ v L, o = .returned v ∧ Q18 Z ya ka vs nc h0 n0 v U'.heap L ∧ FrameEnd U o U' L 1 16) := by
  refine MetFree.of_bodySF (plainFor_of_name pn_137) hisR ?_
  intro p e s m args below meth c s₁ Bd hml0 hP hK
  obtain ⟨rfl, hZ, hh⟩ := hP
  have hx := Bd.exec
  have hby := Bd.bytes
  have hml : c.maxLocals = 3 := hml0
  have hown : s.vm.findClass "java/util/Arrays" = some m.cls := findClass_of_methodNamed Bd.named
  have hnm := (name_of_methodNamed Bd.named Bd.method).1
  have X0 : Stand p l e ({ frames := 2, cells := 1, slots := 16, locals := 43 } : Room) s m #[(.ref ya), (.int (0 : Int32)), (.int (Int32.ofNat nc))] below meth c s₁ [] 0 0 := Stand.of_body Bd
  have e0 : s₁.heap = h0 := by rw [← hh, Bd.state]; rfl
  have N0 := Fr.nil n0
  refine own_start (Q := fun v h L => Q18 Z ya ka vs nc h0 n0 v h L) ?_
  refine Goes.via (S' := (s₁.setTop (mkF m 0 #[.val (.ref ya), .val (.int (0 : Int32)), .val (.int (Int32.ofNat nc))] []))) (fun t k => castTop (ef_18 m ya) k) ?_
  refine Goes.via (S' := (s₁.setTop (mkF m 1 #[.val (.ref ya), .val (.int (0 : Int32)), .val (.int (Int32.ofNat nc))] [(.int (0 : Int32))]))) (fun t k => XS.iloadN X0.here hx rfl (hb hby d18_0) rfl k) ?_
  refine Goes.via (S' := (s₁.setTop (mkF m 4 #[.val (.ref ya), .val (.int (0 : Int32)), .val (.int (Int32.ofNat nc))] []))) (fun t k => XS.ifNo X0.here hx rfl (hb hby d18_1) rfl ((if0 _ _).trans (teq rfl).2) k) ?_
  refine Goes.via (S' := (s₁.setTop (mkF m 5 #[.val (.ref ya), .val (.int (0 : Int32)), .val (.int (Int32.ofNat nc))] [(.int (Int32.ofNat nc))]))) (fun t k => XS.iloadN X0.here hx rfl (hb hby d18_4) rfl k) ?_
  refine Goes.via (S' := (s₁.setTop (mkF m 6 #[.val (.ref ya), .val (.int (0 : Int32)), .val (.int (Int32.ofNat nc))] [(.ref ya), (.int (Int32.ofNat nc))]))) (fun t k => XS.aloadN X0.here hx rfl (hb hby d18_5) rfl rfl k) ?_
  obtain ⟨cl1, Ar1, q1, S1, M1, Hs1, G1⟩ := id f0_ya
  refine Goes.via (S' := (s₁.setTop (mkF m 7 #[.val (.ref ya), .val (.int (0 : Int32)), .val (.int (Int32.ofNat nc))] [(.int (16 : Int32)), (.int (Int32.ofNat nc))]))) (fun t k => X0.arraylength hx (by rw [e0]; exact Ar1.1) (State.isArrayOf_alike hZ.alike Ar1.2.1) (g := (mkF m 6 #[.val (.ref ya), .val (.int (0 : Int32)), .val (.int (Int32.ofNat nc))] [(.ref ya), (.int (Int32.ofNat nc))])) rfl rfl (hb hby d18_6) _ (by rw [len_of S1 M1]; exact k)) ?_
  refine Goes.via (S' := (s₁.setTop (mkF m 10 #[.val (.ref ya), .val (.int (0 : Int32)), .val (.int (Int32.ofNat nc))] []))) (fun t k => XS.icmpNo X0.here hx rfl (hb hby d18_7) rfl (feq (own_n16 hnc)).1 k) ?_
  refine Goes.via (S' := (s₁.setTop (mkF m 11 #[.val (.ref ya), .val (.int (0 : Int32)), .val (.int (Int32.ofNat nc))] [(.ref ya)]))) (fun t k => XS.aloadN X0.here hx rfl (hb hby d18_10) rfl rfl k) ?_
  refine Goes.via (S' := (s₁.setTop (mkF m 12 #[.val (.ref ya), .val (.int (0 : Int32)), .val (.int (Int32.ofNat nc))] [(.int (0 : Int32)), (.ref ya)]))) (fun t k => XS.iloadN X0.here hx rfl (hb hby d18_11) rfl k) ?_
  refine Goes.via (S' := (s₁.setTop (mkF m 13 #[.val (.ref ya), .val (.int (0 : Int32)), .val (.int (Int32.ofNat nc))] [(.int (Int32.ofNat nc)), (.int (0 : Int32)), (.ref ya)]))) (fun t k => XS.iloadN X0.here hx rfl (hb hby d18_12) rfl k) ?_
  obtain ⟨_, _, ⟨T2, L2, k2, n2⟩, -, X2, ⟨Lc2, hQ2, l2, y2, z2⟩, st2⟩ := Jvm.LawKit.callS X0 hx (y := (⟨"java/util/Arrays", "copyOfRangeByte", "([BII)[B"⟩ : MethodName)) hown (mvT hZ (hw _ (List.mem_of_getElem? (i := 102) rfl))) (mvT hZ (hw _ (List.mem_of_getElem? (i := 103) rfl))) (mvT hZ (hw _ (List.mem_of_getElem? (i := 100) rfl))) (mvT hZ (hw _ (List.mem_of_getElem? (i := 104) rfl))) (by decide) (backOf (W := 0) (rm19 l Z a0 hw [] ya ka vs nc h0 n0 Z0 f0_ya hnc) hZ (hw _ (List.mem_of_getElem? (i := 104) rfl)) (hw _ (List.mem_of_getElem? (i := 100) rfl)) (by decide) (by decide)) (g := (mkF m 13 #[.val (.ref ya), .val (.int (0 : Int32)), .val (.int (Int32.ofNat nc))] [(.int (Int32.ofNat nc)), (.int (0 : Int32)), (.ref ya)])) rfl (by rw [hml]; rfl) (argsL := [(.ref ya), (.int (0 : Int32)), (.int (Int32.ofNat nc))]) (rest := []) (lenOf pd_9 rfl) rfl (by show 2 * 0 + _ ≤ _; exact Nat.le_of_eq rfl) (hb hby d18_13) (fun _ _ => ⟨rfl, e0, (by decide : 0 + 1 ≤ _), (by decide : 0 + 16 ≤ _)⟩)
  dsimp only [Pt.U, Pt.locs, Pt.cells, Pt.slots] at X2 l2 y2 z2 st2 hQ2
  replace X2 := own_cast X2 l2 y2 z2
  obtain ⟨yn_2, kn_2, vn_2, rfl, N2q, K2q, po2_0, px2_g_yn, px2_sz_yn, px2_cp⟩ := hQ2
  have N2 := Fr.app N0 N2q
  have f3 : Arv Z T2.heap ya ka .byte (16 : Int32) vs (.int (0 : Int32)) := f0_ya.keep K2q nin0
  have K2 : Keep h0 T2.heap [] := Keep.trans (Keep.refl h0 []) K2q all0
  have Z2 : n0 ≤ T2.heap.size := Nat.le_trans Z0 K2.1
  have g_yn_2 := px2_g_yn
  have sz_yn_2 : h0.size ≤ yn_2 := Nat.le_trans ((Keep.refl h0 [])).1 px2_sz_yn
  have ne_ya_yn_2 : ya ≠ yn_2 := Nat.ne_of_lt (Nat.lt_of_lt_of_le f0_ya.lt px2_sz_yn)
  refine Goes.via (S' := (T2.setTop (mkF m 16 #[.val (.ref ya), .val (.int (0 : Int32)), .val (.int (Int32.ofNat nc))] [(.ref yn_2)]))) (fun t k => st2 _ k) ?_
  exact own_ret X2 hx Bd.notSynchronized Bd.returns rfl (Or.inr (Or.inr (Or.inr (Or.inr ⟨rfl, rfl, rfl⟩)))) (hb hby d18_16) rfl ⟨yn_2, kn_2, vn_2, rfl, N2, K2, po2_0, px2_g_yn, px2_sz_yn, px2_cp⟩ (by decide) (by decide)
theorem d14_0 : decode jdk_42_method_150_code 0 = .ok (.aload_n 0, 1) := by decide +kernel
theorem d14_1 : decode jdk_42_method_150_code 1 = .ok (.invokespecial 1, 3) := by decide +kernel
theorem d14_4 : decode jdk_42_method_150_code 4 = .ok (.aload_n 1, 1) := by decide +kernel
theorem d14_5 : decode jdk_42_method_150_code 5 = .ok (.invokevirtual 552, 3) := by decide +kernel
theorem d14_8 : decode jdk_42_method_150_code 8 = .ok (.astore_n 3, 1) := by decide +kernel
theorem d14_9 : decode jdk_42_method_150_code 9 = .ok (.aload_n 1, 1) := by decide +kernel
theorem d14_10 : decode jdk_42_method_150_code 10 = .ok (.invokevirtual 549, 3) := by decide +kernel
theorem d14_13 : decode jdk_42_method_150_code 13 = .ok (.istore 4, 2) := by decide +kernel
theorem d14_15 : decode jdk_42_method_150_code 15 = .ok (.aload_n 1, 1) := by decide +kernel
theorem d14_16 : decode jdk_42_method_150_code 16 = .ok (.invokevirtual 1047, 3) := by decide +kernel
theorem d14_19 : decode jdk_42_method_150_code 19 = .ok (.ifCond .eq 22, 3) := by decide +kernel
theorem d14_22 : decode jdk_42_method_150_code 22 = .ok (.aload_n 0, 1) := by decide +kernel
theorem d14_23 : decode jdk_42_method_150_code 23 = .ok (.iconst 0, 1) := by decide +kernel
theorem d14_24 : decode jdk_42_method_150_code 24 = .ok (.putfield 15, 3) := by decide +kernel
theorem d14_27 : decode jdk_42_method_150_code 27 = .ok (.aload_n 0, 1) := by decide +kernel
theorem d14_28 : decode jdk_42_method_150_code 28 = .ok (.aload_n 3, 1) := by decide +kernel
theorem d14_29 : decode jdk_42_method_150_code 29 = .ok (.iconst 0, 1) := by decide +kernel
theorem d14_30 : decode jdk_42_method_150_code 30 = .ok (.iload 4, 2) := by decide +kernel
theorem d14_32 : decode jdk_42_method_150_code 32 = .ok (.invokestatic 54, 3) := by decide +kernel
theorem d14_35 : decode jdk_42_method_150_code 35 = .ok (.putfield 9, 3) := by decide +kernel
theorem d14_38 : decode jdk_42_method_150_code 38 = .ok (.goto 59, 3) := by decide +kernel
theorem d14_97 : decode jdk_42_method_150_code 97 = .ok (.return_, 1) := by decide +kernel
theorem ef_14 (m : MethodId) (xs : Addr) (xa : Addr) : entryFrame m #[(.ref xs), (.ref xa), .null] 5 = mkF m 0 #[.val (.ref xs), .val (.ref xa), .val .null, .unset, .unset] [] := by first | (simp [entryFrame, mkF, argsToLocals, Value.category]; done) | rfl
def Q14 (Z : State) (xs : Addr) (xa : Addr) (yb : Addr) (kb : ClassId) (vs : List Value) (nc : Nat) (wc : Int32) (u0 : Value) (u1 : Value) (h0 : Heap) (n0 : Nat) (v : Option Value) (h : Heap) (L : List Loc) : Prop := ∃ (yn : Addr) (kn : ClassId) (vn : List Value), v = none ∧ Fr n0 L ∧ Keep h0 h [xs] ∧ Exa Z h xs "java/lang/String" ∧ Fld Z h xs "java/lang/String" "coder" "B" (.int (0 : Int32)) ∧ Fld Z h xs "java/lang/String" "value" "[B" (.ref yn) ∧ Arv Z h yn kn .byte (Int32.ofNat nc) vn (.int (0 : Int32)) ∧ n0 ≤ yn ∧ h0.size ≤ yn ∧ ∀ i, i < nc → vn.getD i (.int (0 : Int32)) = vs.getD i (.int (0 : Int32))
set_option maxRecDepth 65536 in
set_option maxHeartbeats 40000000 in
theorem rm14 (l : Launch) (Z : State) (a0 : Array Value) (hw : ∀ d ∈ tables_1, d.before a0 Z = true) (ws : List Jvm.Cond) (xs : Addr) (xa : Addr) (yb : Addr) (kb : ClassId) (vs : List Value) (nc : Nat) (wc : Int32) (u0 : Value) (u1 : Value) (h0 : Heap) (n0 : Nat) (Z0 : n0 ≤ h0.size) (f0_xs : Exa Z h0 xs "java/lang/String") (f1_xs_coder : Fld Z h0 xs "java/lang/String" "coder" "B" u0) (f2_xs_value : Fld Z h0 xs "java/lang/String" "value" "[B" u1) (f3_xa : Exa Z h0 xa "java/lang/StringBuilder") (f4_xa_value : Fld Z h0 xa "java/lang/AbstractStringBuilder" "value" "[B" (.ref yb)) (f5_xa_coder : Fld Z h0 xa "java/lang/AbstractStringBuilder" "coder" "B" (.int (0 : Int32))) (f6_xa_count : Fld Z h0 xa "java/lang/AbstractStringBuilder" "count" "I" (.int (Int32.ofNat nc))) (f7_yb : Arv Z h0 yb kb .byte (16 : Int32) vs (.int (0 : Int32))) (f8_COMPACT_STRINGS : Sta Z h0 "java/lang/String" "COMPACT_STRINGS" "Z" (.int wc)) (ne_xs_xa : xs ≠ xa) (ne_xs_yb : xs ≠ yb) (g_xs : n0 ≤ xs) (hnc : nc < 16) (hwc : ¬ wc = (0 : Int32)) :
    MetFree l (⟨"java/lang/String", "<init>", "(Ljava/lang/AbstractStringBuilder;Ljava/lang/Void;)V"⟩ : MethodName) (head1 (Jvm.Cond.code (⟨"java/lang/String", "<init>", "(Ljava/lang/AbstractStringBuilder;Ljava/lang/Void;)V"⟩ : MethodName) jdk_42_method_150_code 5 none :: ws) ({ frames := 3, cells := 1, slots := 16, locals := 58 } : Room)) (fun a U => a = #[(.ref xs), (.ref xa), .null] ∧ Z.Warmed39 U.vm ∧ U.heap = h0) (fun _ _ _ _ _ => True) (fun _ U o U' => ∃ v L, o = .returned v ∧ Q14 Z xs xa yb kb vs nc wc u0 u1 h0 n0 v U'.heap L ∧ FrameEnd U o U' L 1 16) := by
  refine MetFree.of_bodySF (plainFor_of_name pn_200) hisR ?_
  intro p e s m args below meth c s₁ Bd hml0 hP hK
  obtain ⟨rfl, hZ, hh⟩ := hP
  have hx := Bd.exec
  have hby := Bd.bytes
  have hml : c.maxLocals = 5 := hml0
  have hown : s.vm.findClass "java/lang/String" = some m.cls := findClass_of_methodNamed Bd.named
  have hnm := (name_of_methodNamed Bd.named Bd.method).1
  have X0 : Stand p l e ({ frames := 3, cells := 1, slots := 16, locals := 58 } : Room) s m #[(.ref xs), (.ref xa), .null] below meth c s₁ [] 0 0 := Stand.of_body Bd
  have e0 : s₁.heap = h0 := by rw [← hh, Bd.state]; rfl
  have N0 := Fr.nil n0
  refine own_start (Q := fun v h L => Q14 Z xs xa yb kb vs nc wc u0 u1 h0 n0 v h L) ?_
  refine Goes.via (S' := (s₁.setTop (mkF m 0 #[.val (.ref xs), .val (.ref xa), .val .null, .unset, .unset] []))) (fun t k => castTop (ef_14 m xs xa) k) ?_
  refine Goes.via (S' := (s₁.setTop (mkF m 1 #[.val (.ref xs), .val (.ref xa), .val .null, .unset, .unset] [(.ref xs)]))) (fun t k => XS.aloadN X0.here hx rfl (hb hby d14_0) rfl rfl k) ?_
  obtain ⟨T1, X1, e1, st1⟩ := initO X0 hx hZ hown (hw _ (List.mem_of_getElem? (i := 81) rfl)) (hw _ (List.mem_of_getElem? (i := 7) rfl)) (hw _ (List.mem_of_getElem? (i := 8) rfl)) e0 (g := (mkF m 1 #[.val (.ref xs), .val (.ref xa), .val .null, .unset, .unset] [(.ref xs)])) rfl (by rw [hml]; rfl) rfl (hb hby d14_1) (by decide) (W := 0) (by show 2 * 0 + _ ≤ _; exact Nat.le_of_eq rfl) (by decide)
  refine Goes.via (S' := (T1.setTop (mkF m 4 #[.val (.ref xs), .val (.ref xa), .val .null, .unset, .unset] []))) (fun t k => st1 _ k) ?_
  refine Goes.via (S' := (T1.setTop (mkF m 5 #[.val (.ref xs), .val (.ref xa), .val .null, .unset, .unset] [(.ref xa)]))) (fun t k => XS.aloadN X1.here hx rfl (hb hby d14_4) rfl rfl k) ?_
  obtain ⟨cq2, kq2, q2a, q2b, q2c⟩ := isOf hZ e1 f3_xa
  obtain ⟨_, _, ⟨T2, L2, k2, n2⟩, -, X2, ⟨Lc2, hQ2, l2, y2, z2⟩, st2⟩ := X1.virtualBack hx (y := (⟨"java/lang/AbstractStringBuilder", "getValue", "()[B"⟩ : MethodName)) (z := (⟨"java/lang/AbstractStringBuilder", "getValue", "()[B"⟩ : MethodName)) hown (mvT hZ (hw _ (List.mem_of_getElem? (i := 82) rfl))) (mvT hZ (hw _ (List.mem_of_getElem? (i := 83) rfl))) (notFace_of_selects (args := #[]) (mvT hZ (hw _ (List.mem_of_getElem? (i := 85) rfl)))) (mvT hZ (hw _ (List.mem_of_getElem? (i := 85) rfl))) (mvT hZ (hw _ (List.mem_of_getElem? (i := 84) rfl))) (by decide) (backOf (W := 0) (rm15 l Z a0 hw [] xa yb h0 n0 Z0 f4_xa_value) hZ (hw _ (List.mem_of_getElem? (i := 86) rfl)) (hw _ (List.mem_of_getElem? (i := 19) rfl)) (by decide) (by decide)) q2a q2c (g := (mkF m 5 #[.val (.ref xs), .val (.ref xa), .val .null, .unset, .unset] [(.ref xa)])) rfl (by rw [hml]; rfl) (Steps.refl _) (argsL := []) (rest := []) (lenOf pd_10 rfl) rfl (by show 2 * 0 + _ ≤ _; exact Nat.le_of_eq rfl) (hb hby d14_5) (fun _ _ => ⟨rfl, e1, (by decide : 0 + 0 ≤ _), (by decide : 0 + 0 ≤ _)⟩)
  dsimp only [Pt.U, Pt.locs, Pt.cells, Pt.slots] at X2 l2 y2 z2 st2 hQ2
  replace X2 := own_cast X2 l2 y2 z2
  obtain ⟨rfl, N2q, eq2⟩ := hQ2
  have N2 := Fr.app N0 N2q
  refine Goes.via (S' := (T2.setTop (mkF m 8 #[.val (.ref xs), .val (.ref xa), .val .null, .unset, .unset] [(.ref yb)]))) (fun t k => st2.trans k) ?_
  refine Goes.via (S' := (T2.setTop (mkF m 9 #[.val (.ref xs), .val (.ref xa), .val .null, .val (.ref yb), .unset] []))) (fun t k => XS.astoreN X2.here hx rfl (hb hby d14_8) rfl rfl (l' := #[.val (.ref xs), .val (.ref xa), .val .null, .val (.ref yb), .unset]) rfl k) ?_
  refine Goes.via (S' := (T2.setTop (mkF m 10 #[.val (.ref xs), .val (.ref xa), .val .null, .val (.ref yb), .unset] [(.ref xa)]))) (fun t k => XS.aloadN X2.here hx rfl (hb hby d14_9) rfl rfl k) ?_
  obtain ⟨cq3, kq3, q3a, q3b, q3c⟩ := isOf hZ eq2 f3_xa
  obtain ⟨_, _, ⟨T3, L3, k3, n3⟩, -, X3, ⟨Lc3, hQ3, l3, y3, z3⟩, st3⟩ := X2.virtualBack hx (y := (⟨"java/lang/AbstractStringBuilder", "length", "()I"⟩ : MethodName)) (z := (⟨"java/lang/StringBuilder", "length", "()I"⟩ : MethodName)) hown (mvT hZ (hw _ (List.mem_of_getElem? (i := 87) rfl))) (mvT hZ (hw _ (List.mem_of_getElem? (i := 88) rfl))) (own_nf (mvT hZ (args := #[]) (hw _ (List.mem_of_getElem? (i := 56) rfl))) rfl) (mvT hZ (hw _ (List.mem_of_getElem? (i := 90) rfl))) (mvT hZ (hw _ (List.mem_of_getElem? (i := 91) rfl))) (by decide) (backOf (W := 0) (rm16 l Z a0 hw [] xa nc h0 n0 Z0 f3_xa f6_xa_count) hZ (hw _ (List.mem_of_getElem? (i := 92) rfl)) (hw _ (List.mem_of_getElem? (i := 11) rfl)) (by decide) (by decide)) q3a q3c (g := (mkF m 10 #[.val (.ref xs), .val (.ref xa), .val .null, .val (.ref yb), .unset] [(.ref xa)])) rfl (by rw [hml]; rfl) (Steps.refl _) (argsL := []) (rest := []) (lenOf pd_6 rfl) rfl (by show 2 * 0 + _ ≤ _; exact Nat.le_of_eq rfl) (hb hby d14_10) (fun _ _ => ⟨rfl, eq2, (by decide : 0 + 0 ≤ _), (by decide : 0 + 0 ≤ _)⟩)
  dsimp only [Pt.U, Pt.locs, Pt.cells, Pt.slots] at X3 l3 y3 z3 st3 hQ3
  replace X3 := own_cast X3 l3 y3 z3
  obtain ⟨rfl, N3q, eq3⟩ := hQ3
  have N3 := Fr.app N2 N3q
  refine Goes.via (S' := (T3.setTop (mkF m 13 #[.val (.ref xs), .val (.ref xa), .val .null, .val (.ref yb), .unset] [(.int (Int32.ofNat nc))]))) (fun t k => st3.trans k) ?_
  refine Goes.via (S' := (T3.setTop (mkF m 15 #[.val (.ref xs), .val (.ref xa), .val .null, .val (.ref yb), .val (.int (Int32.ofNat nc))] []))) (fun t k => XS.istore X3.here hx rfl (hb hby d14_13) rfl (l' := #[.val (.ref xs), .val (.ref xa), .val .null, .val (.ref yb), .val (.int (Int32.ofNat nc))]) rfl k) ?_
  refine Goes.via (S' := (T3.setTop (mkF m 16 #[.val (.ref xs), .val (.ref xa), .val .null, .val (.ref yb), .val (.int (Int32.ofNat nc))] [(.ref xa)]))) (fun t k => XS.aloadN X3.here hx rfl (hb hby d14_15) rfl rfl k) ?_
  obtain ⟨cq4, kq4, q4a, q4b, q4c⟩ := isOf hZ eq3 f3_xa
  obtain ⟨_, _, ⟨T4, L4, k4, n4⟩, -, X4, ⟨Lc4, hQ4, l4, y4, z4⟩, st4⟩ := X3.virtualBack hx (y := (⟨"java/lang/AbstractStringBuilder", "isLatin1", "()Z"⟩ : MethodName)) (z := (⟨"java/lang/AbstractStringBuilder", "isLatin1", "()Z"⟩ : MethodName)) hown (mvT hZ (hw _ (List.mem_of_getElem? (i := 95) rfl))) (mvT hZ (hw _ (List.mem_of_getElem? (i := 54) rfl))) (notFace_of_selects (args := #[]) (mvT hZ (hw _ (List.mem_of_getElem? (i := 56) rfl)))) (mvT hZ (hw _ (List.mem_of_getElem? (i := 56) rfl))) (mvT hZ (hw _ (List.mem_of_getElem? (i := 55) rfl))) (by decide) (backOf (W := 0) (rm9 l Z a0 hw [] xa wc h0 n0 Z0 f5_xa_coder f8_COMPACT_STRINGS hwc) hZ (hw _ (List.mem_of_getElem? (i := 57) rfl)) (hw _ (List.mem_of_getElem? (i := 19) rfl)) (by decide) (by decide)) q4a q4c (g := (mkF m 16 #[.val (.ref xs), .val (.ref xa), .val .null, .val (.ref yb), .val (.int (Int32.ofNat nc))] [(.ref xa)])) rfl (by rw [hml]; rfl) (Steps.refl _) (argsL := []) (rest := []) (lenOf pd_2 rfl) rfl (by show 2 * 0 + _ ≤ _; exact Nat.le_of_eq rfl) (hb hby d14_16) (fun _ _ => ⟨rfl, eq3, (by decide : 0 + 0 ≤ _), (by decide : 0 + 0 ≤ _)⟩)
  dsimp only [Pt.U, Pt.locs, Pt.cells, Pt.slots] at X4 l4 y4 z4 st4 hQ4
  replace X4 := own_cast X4 l4 y4 z4
  obtain ⟨rfl, N4q, eq4⟩ := hQ4
  have N4 := Fr.app N3 N4q
  refine Goes.via (S' := (T4.setTop (mkF m 19 #[.val (.ref xs), .val (.ref xa), .val .null, .val (.ref yb), .val (.int (Int32.ofNat nc))] [(.int (1 : Int32))]))) (fun t k => st4.trans k) ?_
  refine Goes.via (S' := (T4.setTop (mkF m 22 #[.val (.ref xs), .val (.ref xa), .val .null, .val (.ref yb), .val (.int (Int32.ofNat nc))] []))) (fun t k => XS.ifNo X4.here hx rfl (hb hby d14_19) rfl ((if0 _ _).trans (feq (by decide : ¬ ((1 : Int32) = (0 : Int32)))).1) k) ?_
  refine Goes.via (S' := (T4.setTop (mkF m 23 #[.val (.ref xs), .val (.ref xa), .val .null, .val (.ref yb), .val (.int (Int32.ofNat nc))] [(.ref xs)]))) (fun t k => XS.aloadN X4.here hx rfl (hb hby d14_22) rfl rfl k) ?_
  refine Goes.via (S' := (T4.setTop (mkF m 24 #[.val (.ref xs), .val (.ref xa), .val .null, .val (.ref yb), .val (.int (Int32.ofNat nc))] [(.int (0 : Int32)), (.ref xs)]))) (fun t k => XS.iconst X4.here hx rfl (hb hby d14_23) k) ?_
  obtain ⟨T5, h5, X5, e5, W5, st5⟩ := putFN X4 hx hZ hown (hw _ (List.mem_of_getElem? (i := 96) rfl)) Via.refl eq4 f1_xs_coder f0_xs (Or.inr ⟨(hw _ (List.mem_of_getElem? (i := 97) rfl)), rfl, hnm⟩) (hw _ (List.mem_of_getElem? (i := 73) rfl)) (ty := .byte) (v' := (.int (0 : Int32))) (by decide) rfl rfl (g := (mkF m 24 #[.val (.ref xs), .val (.ref xa), .val .null, .val (.ref yb), .val (.int (Int32.ofNat nc))] [(.int (0 : Int32)), (.ref xs)])) rfl rfl (hb hby d14_24)
  have f6 : Exa Z h5 xs "java/lang/String" := f0_xs.wr W5
  have f7 : Fld Z h5 xs "java/lang/String" "value" "[B" u1 := f2_xs_value.other W5 (Or.inr (slot_ne (Or.inr (hw _ (List.mem_of_getElem? (i := 117) rfl))) (Or.inr (hw _ (List.mem_of_getElem? (i := 97) rfl))) (by decide) (t := (.array .byte)) (t' := .byte) (by decide) (by decide)))
  have f8 : Exa Z h5 xa "java/lang/StringBuilder" := f3_xa.wr W5
  have f9 : Fld Z h5 xa "java/lang/AbstractStringBuilder" "value" "[B" (.ref yb) := f4_xa_value.other W5 (Or.inl (Ne.symm ne_xs_xa))
  have f10 : Fld Z h5 xa "java/lang/AbstractStringBuilder" "coder" "B" (.int (0 : Int32)) := f5_xa_coder.other W5 (Or.inl (Ne.symm ne_xs_xa))
  have f11 : Fld Z h5 xa "java/lang/AbstractStringBuilder" "count" "I" (.int (Int32.ofNat nc)) := f6_xa_count.other W5 (Or.inl (Ne.symm ne_xs_xa))
  have f12 : Arv Z h5 yb kb .byte (16 : Int32) vs (.int (0 : Int32)) := f7_yb.other W5 (Ne.symm ne_xs_yb)
  have f13 : Sta Z h5 "java/lang/String" "COMPACT_STRINGS" "Z" (.int wc) := f8_COMPACT_STRINGS.wr W5
  have f14 : Fld Z h5 xs "java/lang/String" "coder" "B" (.int (0 : Int32)) := f1_xs_coder.same W5
  have K5 : Keep h0 h5 [xs] := Keep.wr (Keep.refl h0 [xs]) W5 (Or.inl (List.mem_of_getElem? (i := 0) rfl))
  have Z5 : n0 ≤ h5.size := Nat.le_trans Z0 K5.1
  have N5 := Fr.snoc X5 N4 g_xs
  refine Goes.via (S' := (T5.setTop (mkF m 27 #[.val (.ref xs), .val (.ref xa), .val .null, .val (.ref yb), .val (.int (Int32.ofNat nc))] []))) (fun t k => st5 _ k) ?_
  refine Goes.via (S' := (T5.setTop (mkF m 28 #[.val (.ref xs), .val (.ref xa), .val .null, .val (.ref yb), .val (.int (Int32.ofNat nc))] [(.ref xs)]))) (fun t k => XS.aloadN X5.here hx rfl (hb hby d14_27) rfl rfl k) ?_
  refine Goes.via (S' := (T5.setTop (mkF m 29 #[.val (.ref xs), .val (.ref xa), .val .null, .val (.ref yb), .val (.int (Int32.ofNat nc))] [(.ref yb), (.ref xs)]))) (fun t k => XS.aloadN X5.here hx rfl (hb hby d14_28) rfl rfl k) ?_
  refine Goes.via (S' := (T5.setTop (mkF m 30 #[.val (.ref xs), .val (.ref xa), .val .null, .val (.ref yb), .val (.int (Int32.ofNat nc))] [(.int (0 : Int32)), (.ref yb), (.ref xs)]))) (fun t k => XS.iconst X5.here hx rfl (hb hby d14_29) k) ?_
  refine Goes.via (S' := (T5.setTop (mkF m 32 #[.val (.ref xs), .val (.ref xa), .val .null, .val (.ref yb), .val (.int (Int32.ofNat nc))] [(.int (Int32.ofNat nc)), (.int (0 : Int32)), (.ref yb), (.ref xs)]))) (fun t k => XS.iload X5.here hx rfl (hb hby d14_30) rfl k) ?_
  obtain ⟨_, _, ⟨T15, L15, k15, n15⟩, -, X15, ⟨Lc15, hQ15, l15, y15, z15⟩, st15⟩ := Jvm.LawKit.callS X5 hx (y := (⟨"java/util/Arrays", "copyOfRange", "([BII)[B"⟩ : MethodName)) hown (mvT hZ (hw _ (List.mem_of_getElem? (i := 98) rfl))) (mvT hZ (hw _ (List.mem_of_getElem? (i := 99) rfl))) (mvT hZ (hw _ (List.mem_of_getElem? (i := 100) rfl))) (mvT hZ (hw _ (List.mem_of_getElem? (i := 101) rfl))) (by decide) (backOf (W := 1) (rm18 l Z a0 hw [] yb kb vs nc h5 n0 Z5 f12 hnc) hZ (hw _ (List.mem_of_getElem? (i := 101) rfl)) (hw _ (List.mem_of_getElem? (i := 100) rfl)) (by decide) (by decide)) (g := (mkF m 32 #[.val (.ref xs), .val (.ref xa), .val .null, .val (.ref yb), .val (.int (Int32.ofNat nc))] [(.int (Int32.ofNat nc)), (.int (0 : Int32)), (.ref yb), (.ref xs)])) rfl (by rw [hml]; rfl) (argsL := [(.ref yb), (.int (0 : Int32)), (.int (Int32.ofNat nc))]) (rest := [(.ref xs)]) (lenOf pd_9 rfl) rfl (by show 2 * 0 + _ ≤ _; exact Nat.le_of_eq rfl) (hb hby d14_32) (fun _ _ => ⟨rfl, e5, (by decide : 0 + 1 ≤ _), (by decide : 0 + 16 ≤ _)⟩)
  dsimp only [Pt.U, Pt.locs, Pt.cells, Pt.slots] at X15 l15 y15 z15 st15 hQ15
  replace X15 := own_cast X15 l15 y15 z15
  obtain ⟨yn_15, kn_15, vn_15, rfl, N15q, K15q, po15_0, px15_g_yn, px15_sz_yn, px15_cp⟩ := hQ15
  have N15 := Fr.app N5 N15q
  have f16 : Exa Z T15.heap xs "java/lang/String" := f6.keep K15q
  have f17 : Fld Z T15.heap xs "java/lang/String" "value" "[B" u1 := f7.keep K15q nin0
  have f18 : Exa Z T15.heap xa "java/lang/StringBuilder" := f8.keep K15q
  have f19 : Fld Z T15.heap xa "java/lang/AbstractStringBuilder" "value" "[B" (.ref yb) := f9.keep K15q nin0
  have f20 : Fld Z T15.heap xa "java/lang/AbstractStringBuilder" "coder" "B" (.int (0 : Int32)) := f10.keep K15q nin0
  have f21 : Fld Z T15.heap xa "java/lang/AbstractStringBuilder" "count" "I" (.int (Int32.ofNat nc)) := f11.keep K15q nin0
  have f22 : Arv Z T15.heap yb kb .byte (16 : Int32) vs (.int (0 : Int32)) := f12.keep K15q nin0
  have f23 : Sta Z T15.heap "java/lang/String" "COMPACT_STRINGS" "Z" (.int wc) := own_staKeep f13 K15q all0
  have f24 : Fld Z T15.heap xs "java/lang/String" "coder" "B" (.int (0 : Int32)) := f14.keep K15q nin0
  have K15 : Keep h0 T15.heap [xs] := Keep.trans K5 K15q all0
  have Z15 : n0 ≤ T15.heap.size := Nat.le_trans Z0 K15.1
  have g_yn_15 := px15_g_yn
  have sz_yn_15 : h0.size ≤ yn_15 := Nat.le_trans (K5).1 px15_sz_yn
  have ne_xs_yn_15 : xs ≠ yn_15 := Nat.ne_of_lt (Nat.lt_of_lt_of_le f6.lt px15_sz_yn)
  have ne_xa_yn_15 : xa ≠ yn_15 := Nat.ne_of_lt (Nat.lt_of_lt_of_le f8.lt px15_sz_yn)
  have ne_yb_yn_15 : yb ≠ yn_15 := Nat.ne_of_lt (Nat.lt_of_lt_of_le f12.lt px15_sz_yn)
  refine Goes.via (S' := (T15.setTop (mkF m 35 #[.val (.ref xs), .val (.ref xa), .val .null, .val (.ref yb), .val (.int (Int32.ofNat nc))] [(.ref yn_15), (.ref xs)]))) (fun t k => st15 _ k) ?_
  obtain ⟨T25, h25, X25, e25, W25, st25⟩ := putF X15 hx hZ hown (host := "") (Or.inl (hw _ (List.mem_of_getElem? (i := 116) rfl))) Via.refl rfl f17 f16 (Or.inr ⟨(hw _ (List.mem_of_getElem? (i := 117) rfl)), rfl, hnm⟩) (hw _ (List.mem_of_getElem? (i := 73) rfl)) (ty := (.array .byte)) (by decide) rfl rfl (g := (mkF m 35 #[.val (.ref xs), .val (.ref xa), .val .null, .val (.ref yb), .val (.int (Int32.ofNat nc))] [(.ref yn_15), (.ref xs)])) rfl rfl (hb hby d14_35)
  have f26 : Exa Z h25 xs "java/lang/String" := f16.wr W25
  have f27 : Exa Z h25 xa "java/lang/StringBuilder" := f18.wr W25
  have f28 : Fld Z h25 xa "java/lang/AbstractStringBuilder" "value" "[B" (.ref yb) := f19.other W25 (Or.inl (Ne.symm ne_xs_xa))
  have f29 : Fld Z h25 xa "java/lang/AbstractStringBuilder" "coder" "B" (.int (0 : Int32)) := f20.other W25 (Or.inl (Ne.symm ne_xs_xa))
  have f30 : Fld Z h25 xa "java/lang/AbstractStringBuilder" "count" "I" (.int (Int32.ofNat nc)) := f21.other W25 (Or.inl (Ne.symm ne_xs_xa))
  have f31 : Arv Z h25 yb kb .byte (16 : Int32) vs (.int (0 : Int32)) := f22.other W25 (Ne.symm ne_xs_yb)
  have f32 : Sta Z h25 "java/lang/String" "COMPACT_STRINGS" "Z" (.int wc) := f23.wr W25
  have f33 : Fld Z h25 xs "java/lang/String" "coder" "B" (.int (0 : Int32)) := f24.other W25 (Or.inr (slot_ne (Or.inr (hw _ (List.mem_of_getElem? (i := 97) rfl))) (Or.inr (hw _ (List.mem_of_getElem? (i := 117) rfl))) (by decide) (t := .byte) (t' := (.array .byte)) (by decide) (by decide)))
  have f34 : Arv Z h25 yn_15 kn_15 .byte (Int32.ofNat nc) vn_15 (.int (0 : Int32)) := po15_0.other W25 (Ne.symm ne_xs_yn_15)
  have f35 : Fld Z h25 xs "java/lang/String" "value" "[B" (.ref yn_15) := f17.same W25
  have K25 : Keep h0 h25 [xs] := Keep.wr K15 W25 (Or.inl (List.mem_of_getElem? (i := 0) rfl))
  have Z25 : n0 ≤ h25.size := Nat.le_trans Z0 K25.1
  have N25 := Fr.snoc X25 N15 g_xs
  refine Goes.via (S' := (T25.setTop (mkF m 38 #[.val (.ref xs), .val (.ref xa), .val .null, .val (.ref yb), .val (.int (Int32.ofNat nc))] []))) (fun t k => st25 _ k) ?_
  refine Goes.via (S' := (T25.setTop (mkF m 97 #[.val (.ref xs), .val (.ref xa), .val .null, .val (.ref yb), .val (.int (Int32.ofNat nc))] []))) (fun t k => XS.goto X25.here hx rfl (pc0 := 38) (pc' := 97) rfl (hb hby d14_38) (by decide) (by decide) k) ?_
  exact own_retV X25 hx Bd.notSynchronized Bd.returns (hb hby d14_97) e25 ⟨yn_15, kn_15, vn_15, rfl, N25, K25, f26, f33, f35, f34, px15_g_yn, sz_yn_15, px15_cp⟩ (by decide) (by decide)
theorem d13_0 : decode jdk_42_method_53_code 0 = .ok (.aload_n 0, 1) := by decide +kernel
theorem d13_1 : decode jdk_42_method_53_code 1 = .ok (.aload_n 1, 1) := by decide +kernel
theorem d13_2 : decode jdk_42_method_53_code 2 = .ok (.aconst_null, 1) := by decide +kernel
theorem d13_3 : decode jdk_42_method_53_code 3 = .ok (.invokespecial 489, 3) := by decide +kernel
theorem d13_6 : decode jdk_42_method_53_code 6 = .ok (.return_, 1) := by decide +kernel
theorem ef_13 (m : MethodId) (xs : Addr) (xa : Addr) : entryFrame m #[(.ref xs), (.ref xa)] 2 = mkF m 0 #[.val (.ref xs), .val (.ref xa)] [] := by first | (simp [entryFrame, mkF, argsToLocals, Value.category]; done) | rfl
def Q13 (Z : State) (xs : Addr) (xa : Addr) (yb : Addr) (kb : ClassId) (vs : List Value) (nc : Nat) (wc : Int32) (u0 : Value) (u1 : Value) (h0 : Heap) (n0 : Nat) (v : Option Value) (h : Heap) (L : List Loc) : Prop := ∃ (yn : Addr) (kn : ClassId) (vn : List Value), v = none ∧ Fr n0 L ∧ Keep h0 h [xs] ∧ Exa Z h xs "java/lang/String" ∧ Fld Z h xs "java/lang/String" "coder" "B" (.int (0 : Int32)) ∧ Fld Z h xs "java/lang/String" "value" "[B" (.ref yn) ∧ Arv Z h yn kn .byte (Int32.ofNat nc) vn (.int (0 : Int32)) ∧ n0 ≤ yn ∧ h0.size ≤ yn ∧ ∀ i, i < nc → vn.getD i (.int (0 : Int32)) = vs.getD i (.int (0 : Int32))
set_option maxRecDepth 65536 in
set_option maxHeartbeats 40000000 in
theorem rm13 (l : Launch) (Z : State) (a0 : Array Value) (hw : ∀ d ∈ tables_1, d.before a0 Z = true) (ws : List Jvm.Cond) (xs : Addr) (xa : Addr) (yb : Addr) (kb : ClassId) (vs : List Value) (nc : Nat) (wc : Int32) (u0 : Value) (u1 : Value) (h0 : Heap) (n0 : Nat) (Z0 : n0 ≤ h0.size) (f0_xs : Exa Z h0 xs "java/lang/String") (f1_xs_coder : Fld Z h0 xs "java/lang/String" "coder" "B" u0) (f2_xs_value : Fld Z h0 xs "java/lang/String" "value" "[B" u1) (f3_xa : Exa Z h0 xa "java/lang/StringBuilder") (f4_xa_value : Fld Z h0 xa "java/lang/AbstractStringBuilder" "value" "[B" (.ref yb)) (f5_xa_coder : Fld Z h0 xa "java/lang/AbstractStringBuilder" "coder" "B" (.int (0 : Int32))) (f6_xa_count : Fld Z h0 xa "java/lang/AbstractStringBuilder" "count" "I" (.int (Int32.ofNat nc))) (f7_yb : Arv Z h0 yb kb .byte (16 : Int32) vs (.int (0 : Int32))) (f8_COMPACT_STRINGS : Sta Z h0 "java/lang/String" "COMPACT_STRINGS" "Z" (.int wc)) (ne_xs_xa : xs ≠ xa) (ne_xs_yb : xs ≠ yb) (g_xs : n0 ≤ xs) (hnc : nc < 16) (hwc : ¬ wc = (0 : Int32)) :
    MetFree l (⟨"java/lang/String", "<init>", "(Ljava/lang/StringBuilder;)V"⟩ : MethodName) (head1 (Jvm.Cond.code (⟨"java/lang/String", "<init>", "(Ljava/lang/StringBuilder;)V"⟩ : MethodName) jdk_42_method_53_code 2 none :: ws) ({ frames := 4, cells := 1, slots := 16, locals := 74 } : Room)) (fun a U => a = #[(.ref xs), (.ref xa)] ∧ Z.Warmed39 U.vm ∧ U.heap = h0) (fun _ _ _ _ _ => True) (fun _ U o U' => ∃ v L, o = .returned v ∧ Q13 Z xs xa yb kb vs nc wc u0 u1 h0 n0 v U'.heap L ∧ FrameEnd U o U' L 1 16) := by
  refine MetFree.of_bodySF (plainFor_of_name pn_200) hisR ?_
  intro p e s m args below meth c s₁ Bd hml0 hP hK
  obtain ⟨rfl, hZ, hh⟩ := hP
  have hx := Bd.exec
  have hby := Bd.bytes
  have hml : c.maxLocals = 2 := hml0
  have hown : s.vm.findClass "java/lang/String" = some m.cls := findClass_of_methodNamed Bd.named
  have hnm := (name_of_methodNamed Bd.named Bd.method).1
  have X0 : Stand p l e ({ frames := 4, cells := 1, slots := 16, locals := 74 } : Room) s m #[(.ref xs), (.ref xa)] below meth c s₁ [] 0 0 := Stand.of_body Bd
  have e0 : s₁.heap = h0 := by rw [← hh, Bd.state]; rfl
  have N0 := Fr.nil n0
  refine own_start (Q := fun v h L => Q13 Z xs xa yb kb vs nc wc u0 u1 h0 n0 v h L) ?_
  refine Goes.via (S' := (s₁.setTop (mkF m 0 #[.val (.ref xs), .val (.ref xa)] []))) (fun t k => castTop (ef_13 m xs xa) k) ?_
  refine Goes.via (S' := (s₁.setTop (mkF m 1 #[.val (.ref xs), .val (.ref xa)] [(.ref xs)]))) (fun t k => XS.aloadN X0.here hx rfl (hb hby d13_0) rfl rfl k) ?_
  refine Goes.via (S' := (s₁.setTop (mkF m 2 #[.val (.ref xs), .val (.ref xa)] [(.ref xa), (.ref xs)]))) (fun t k => XS.aloadN X0.here hx rfl (hb hby d13_1) rfl rfl k) ?_
  refine Goes.via (S' := (s₁.setTop (mkF m 3 #[.val (.ref xs), .val (.ref xa)] [.null, (.ref xa), (.ref xs)]))) (fun t k => XS.aconstNull X0.here hx rfl (hb hby d13_2) k) ?_
  obtain ⟨_, _, ⟨T1, L1, k1, n1⟩, -, X1, ⟨Lc1, hQ1, l1, y1, z1⟩, st1⟩ := X0.specialBack hx (y := (⟨"java/lang/String", "<init>", "(Ljava/lang/AbstractStringBuilder;Ljava/lang/Void;)V"⟩ : MethodName)) rfl hown (mvT hZ (hw _ (List.mem_of_getElem? (i := 78) rfl))) (mvT hZ (hw _ (List.mem_of_getElem? (i := 79) rfl))) (mvT hZ (hw _ (List.mem_of_getElem? (i := 80) rfl))) (by decide) (backOf (W := 0) (rm14 l Z a0 hw [] xs xa yb kb vs nc wc u0 u1 h0 n0 Z0 f0_xs f1_xs_coder f2_xs_value f3_xa f4_xa_value f5_xa_coder f6_xa_count f7_yb f8_COMPACT_STRINGS ne_xs_xa ne_xs_yb g_xs hnc hwc) hZ (hw _ (List.mem_of_getElem? (i := 80) rfl)) (hw _ (List.mem_of_getElem? (i := 23) rfl)) (by decide) (by decide)) (g := (mkF m 3 #[.val (.ref xs), .val (.ref xa)] [.null, (.ref xa), (.ref xs)])) rfl (by rw [hml]; rfl) (Steps.refl _) (a := xs) (argsL := [(.ref xa), .null]) (rest := []) (lenOf pd_11 rfl) rfl (by show 2 * 0 + _ ≤ _; exact Nat.le_of_eq rfl) (hb hby d13_3) (fun _ _ => ⟨rfl, e0, (by decide : 0 + 1 ≤ _), (by decide : 0 + 16 ≤ _)⟩)
  dsimp only [Pt.U, Pt.locs, Pt.cells, Pt.slots] at X1 l1 y1 z1 st1 hQ1
  replace X1 := own_cast X1 l1 y1 z1
  obtain ⟨yn_1, kn_1, vn_1, rfl, N1q, K1q, po1_0, po1_1, po1_2, po1_3, px1_g_yn, px1_sz_yn, px1_cp⟩ := hQ1
  have N1 := Fr.app N0 N1q
  have f2 : Exa Z T1.heap xs "java/lang/String" := f0_xs.keep K1q
  have f3 : Exa Z T1.heap xa "java/lang/StringBuilder" := f3_xa.keep K1q
  have f4 : Fld Z T1.heap xa "java/lang/AbstractStringBuilder" "value" "[B" (.ref yb) := f4_xa_value.keep K1q (ninS (Ne.symm ne_xs_xa) nin0)
  have f5 : Fld Z T1.heap xa "java/lang/AbstractStringBuilder" "coder" "B" (.int (0 : Int32)) := f5_xa_coder.keep K1q (ninS (Ne.symm ne_xs_xa) nin0)
  have f6 : Fld Z T1.heap xa "java/lang/AbstractStringBuilder" "count" "I" (.int (Int32.ofNat nc)) := f6_xa_count.keep K1q (ninS (Ne.symm ne_xs_xa) nin0)
  have f7 : Arv Z T1.heap yb kb .byte (16 : Int32) vs (.int (0 : Int32)) := f7_yb.keep K1q (ninS (Ne.symm ne_xs_yb) nin0)
  have f8 : Sta Z T1.heap "java/lang/String" "COMPACT_STRINGS" "Z" (.int wc) := own_staKeep f8_COMPACT_STRINGS K1q (allS (own_nst f0_xs) all0)
  have K1 : Keep h0 T1.heap [xs] := Keep.trans (Keep.refl h0 [xs]) K1q (allS (Or.inl (List.mem_of_getElem? (i := 0) rfl)) all0)
  have Z1 : n0 ≤ T1.heap.size := Nat.le_trans Z0 K1.1
  have g_yn_1 := px1_g_yn
  have sz_yn_1 : h0.size ≤ yn_1 := Nat.le_trans ((Keep.refl h0 [xs])).1 px1_sz_yn
  have ne_xs_yn_1 : xs ≠ yn_1 := Nat.ne_of_lt (Nat.lt_of_lt_of_le f0_xs.lt px1_sz_yn)
  have ne_xa_yn_1 : xa ≠ yn_1 := Nat.ne_of_lt (Nat.lt_of_lt_of_le f3_xa.lt px1_sz_yn)
  have ne_yb_yn_1 : yb ≠ yn_1 := Nat.ne_of_lt (Nat.lt_of_lt_of_le f7_yb.lt px1_sz_yn)
  refine Goes.via (S' := (T1.setTop (mkF m 6 #[.val (.ref xs), .val (.ref xa)] []))) (fun t k => st1.trans k) ?_
  exact own_retV X1 hx Bd.notSynchronized Bd.returns (hb hby d13_6) rfl ⟨yn_1, kn_1, vn_1, rfl, N1, K1, po1_0, po1_1, po1_2, po1_3, px1_g_yn, sz_yn_1, px1_cp⟩ (by decide) (by decide)
theorem d12_0 : decode jdk_67_method_42_code 0 = .ok (.new 18, 3) := by decide +kernel
theorem d12_3 : decode jdk_67_method_42_code 3 = .ok (.dup, 1) := by decide +kernel
theorem d12_4 : decode jdk_67_method_42_code 4 = .ok (.aload_n 0, 1) := by decide +kernel
theorem d12_5 : decode jdk_67_method_42_code 5 = .ok (.invokespecial 137, 3) := by decide +kernel
theorem d12_8 : decode jdk_67_method_42_code 8 = .ok (.areturn, 1) := by decide +kernel
theorem ef_12 (m : MethodId) (xa : Addr) : entryFrame m #[(.ref xa)] 1 = mkF m 0 #[.val (.ref xa)] [] := by first | (simp [entryFrame, mkF, argsToLocals, Value.category]; done) | rfl
def Q12 (Z : State) (xa : Addr) (yb : Addr) (kb : ClassId) (vs : List Value) (nc : Nat) (wc : Int32) (h0 : Heap) (n0 : Nat) (v : Option Value) (h : Heap) (L : List Loc) : Prop := ∃ (xs : Addr) (yn : Addr) (kn : ClassId) (vn : List Value), v = some (.ref xs) ∧ Fr n0 L ∧ Keep h0 h [] ∧ Exa Z h xs "java/lang/String" ∧ Fld Z h xs "java/lang/String" "coder" "B" (.int (0 : Int32)) ∧ Fld Z h xs "java/lang/String" "value" "[B" (.ref yn) ∧ Arv Z h yn kn .byte (Int32.ofNat nc) vn (.int (0 : Int32)) ∧ n0 ≤ xs ∧ h0.size ≤ xs ∧ n0 ≤ yn ∧ h0.size ≤ yn ∧ ∀ i, i < nc → vn.getD i (.int (0 : Int32)) = vs.getD i (.int (0 : Int32))
set_option maxRecDepth 65536 in
set_option maxHeartbeats 40000000 in
theorem rm12 (l : Launch) (Z : State) (a0 : Array Value) (hw : ∀ d ∈ tables_1, d.before a0 Z = true) (ws : List Jvm.Cond) (xa : Addr) (yb : Addr) (kb : ClassId) (vs : List Value) (nc : Nat) (wc : Int32) (h0 : Heap) (n0 : Nat) (Z0 : n0 ≤ h0.size) (f0_xa : Exa Z h0 xa "java/lang/StringBuilder") (f1_xa_value : Fld Z h0 xa "java/lang/AbstractStringBuilder" "value" "[B" (.ref yb)) (f2_xa_coder : Fld Z h0 xa "java/lang/AbstractStringBuilder" "coder" "B" (.int (0 : Int32))) (f3_xa_count : Fld Z h0 xa "java/lang/AbstractStringBuilder" "count" "I" (.int (Int32.ofNat nc))) (f4_yb : Arv Z h0 yb kb .byte (16 : Int32) vs (.int (0 : Int32))) (f5_COMPACT_STRINGS : Sta Z h0 "java/lang/String" "COMPACT_STRINGS" "Z" (.int wc)) (hnc : nc < 16) (hwc : ¬ wc = (0 : Int32)) :
    MetFree l (⟨"java/lang/StringBuilder", "toString", "()Ljava/lang/String;"⟩ : MethodName) (head1 (Jvm.Cond.code (⟨"java/lang/StringBuilder", "toString", "()Ljava/lang/String;"⟩ : MethodName) jdk_67_method_42_code 1 (some (.object "java/lang/String")) :: ws) ({ frames := 5, cells := 2, slots := 20, locals := 88 } : Room)) (fun a U => a = #[(.ref xa)] ∧ Z.Warmed39 U.vm ∧ U.heap = h0) (fun _ _ _ _ _ => True) (fun _ U o U' => ∃ v L, o = .returned v ∧ Q12 Z xa yb kb vs nc wc h0 n0 v U'.heap L ∧ FrameEnd U o U' L 2 20) := by
  refine MetFree.of_bodySF (plainFor_of_name pn_18) hisR ?_
  intro p e s m args below meth c s₁ Bd hml0 hP hK
  obtain ⟨rfl, hZ, hh⟩ := hP
  have hx := Bd.exec
  have hby := Bd.bytes
  have hml : c.maxLocals = 1 := hml0
  have hown : s.vm.findClass "java/lang/StringBuilder" = some m.cls := findClass_of_methodNamed Bd.named
  have hnm := (name_of_methodNamed Bd.named Bd.method).1
  have X0 : Stand p l e ({ frames := 5, cells := 2, slots := 20, locals := 88 } : Room) s m #[(.ref xa)] below meth c s₁ [] 0 0 := Stand.of_body Bd
  have e0 : s₁.heap = h0 := by rw [← hh, Bd.state]; rfl
  have N0 := Fr.nil n0
  refine own_start (Q := fun v h L => Q12 Z xa yb kb vs nc wc h0 n0 v h L) ?_
  refine Goes.via (S' := (s₁.setTop (mkF m 0 #[.val (.ref xa)] []))) (fun t k => castTop (ef_12 m xa) k) ?_
  obtain ⟨T1, h1, X1, e1, E1, A1, D1, -, st1⟩ := newO X0 hx hZ hown (hw _ (List.mem_of_getElem? (i := 72) rfl)) (hw _ (List.mem_of_getElem? (i := 73) rfl)) (hw _ (List.mem_of_getElem? (i := 23) rfl)) e0 (g := (mkF m 0 #[.val (.ref xa)] [])) rfl (hb hby d12_0) (by decide) (by decide)
  obtain ⟨b1, g1⟩ : ∃ z, z = h0.size := ⟨_, rfl⟩
  rw [← g1] at A1 D1 st1
  have f2 : Exa Z h1 xa "java/lang/StringBuilder" := f0_xa.ext E1
  have f3 : Fld Z h1 xa "java/lang/AbstractStringBuilder" "value" "[B" (.ref yb) := f1_xa_value.ext E1
  have f4 : Fld Z h1 xa "java/lang/AbstractStringBuilder" "coder" "B" (.int (0 : Int32)) := f2_xa_coder.ext E1
  have f5 : Fld Z h1 xa "java/lang/AbstractStringBuilder" "count" "I" (.int (Int32.ofNat nc)) := f3_xa_count.ext E1
  have f6 : Arv Z h1 yb kb .byte (16 : Int32) vs (.int (0 : Int32)) := f4_yb.ext E1
  have f7 : Sta Z h1 "java/lang/String" "COMPACT_STRINGS" "Z" (.int wc) := f5_COMPACT_STRINGS.ext E1
  have K1 : Keep h0 h1 [] := Keep.ext (Keep.refl h0 []) E1
  have Z1 : n0 ≤ h1.size := Nat.le_trans Z0 K1.1
  have g_b1 : n0 ≤ b1 := Nat.le_trans Z0 (Nat.le_of_eq g1.symm)
  have sz_b1 : h0.size ≤ b1 := Nat.le_trans ((Keep.refl h0 [])).1 (Nat.le_of_eq g1.symm)
  have ne_xa_b1 : xa ≠ b1 := Nat.ne_of_lt (Nat.lt_of_lt_of_le f0_xa.lt (Nat.le_of_eq g1.symm))
  have ne_yb_b1 : yb ≠ b1 := Nat.ne_of_lt (Nat.lt_of_lt_of_le f4_yb.lt (Nat.le_of_eq g1.symm))
  have f8 : Exa Z h1 b1 "java/lang/String" := A1
  have f9 : Fld Z h1 b1 "java/lang/String" "coder" "B" (.int (0 : Int32)) := D1 (Or.inr (hw _ (List.mem_of_getElem? (i := 97) rfl))) (ty := .byte) (by decide)
  have f10 : Fld Z h1 b1 "java/lang/String" "value" "[B" .null := D1 (Or.inr (hw _ (List.mem_of_getElem? (i := 117) rfl))) (ty := (.array .byte)) (by decide)
  refine Goes.via (S' := (T1.setTop (mkF m 3 #[.val (.ref xa)] [(.ref b1)]))) (fun t k => st1 _ k) ?_
  refine Goes.via (S' := (T1.setTop (mkF m 4 #[.val (.ref xa)] [(.ref b1), (.ref b1)]))) (fun t k => XS.dup X1.here hx rfl (hb hby d12_3) rfl rfl k) ?_
  refine Goes.via (S' := (T1.setTop (mkF m 5 #[.val (.ref xa)] [(.ref xa), (.ref b1), (.ref b1)]))) (fun t k => XS.aloadN X1.here hx rfl (hb hby d12_4) rfl rfl k) ?_
  obtain ⟨_, _, ⟨T11, L11, k11, n11⟩, -, X11, ⟨Lc11, hQ11, l11, y11, z11⟩, st11⟩ := X1.specialBack hx (y := (⟨"java/lang/String", "<init>", "(Ljava/lang/StringBuilder;)V"⟩ : MethodName)) rfl hown (mvT hZ (hw _ (List.mem_of_getElem? (i := 74) rfl))) (mvT hZ (hw _ (List.mem_of_getElem? (i := 75) rfl))) (mvT hZ (hw _ (List.mem_of_getElem? (i := 77) rfl))) (by decide) (backOf (W := 1) (rm13 l Z a0 hw [] b1 xa yb kb vs nc wc (.int (0 : Int32)) .null h1 n0 Z1 f8 f9 f10 f2 f3 f4 f5 f6 f7 (Ne.symm ne_xa_b1) (Ne.symm ne_yb_b1) g_b1 hnc hwc) hZ (hw _ (List.mem_of_getElem? (i := 77) rfl)) (hw _ (List.mem_of_getElem? (i := 23) rfl)) (by decide) (by decide)) (g := (mkF m 5 #[.val (.ref xa)] [(.ref xa), (.ref b1), (.ref b1)])) rfl (by rw [hml]; rfl) (Steps.refl _) (a := b1) (argsL := [(.ref xa)]) (rest := [(.ref b1)]) (lenOf pd_12 rfl) rfl (by show 2 * 0 + _ ≤ _; exact Nat.le_of_eq rfl) (hb hby d12_5) (fun _ _ => ⟨rfl, e1, (by decide : 1 + 1 ≤ _), (by decide : 4 + 16 ≤ _)⟩)
  dsimp only [Pt.U, Pt.locs, Pt.cells, Pt.slots] at X11 l11 y11 z11 st11 hQ11
  replace X11 := own_cast X11 l11 y11 z11
  obtain ⟨yn_11, kn_11, vn_11, rfl, N11q, K11q, po11_0, po11_1, po11_2, po11_3, px11_g_yn, px11_sz_yn, px11_cp⟩ := hQ11
  have N11 := Fr.app N0 N11q
  have f12 : Exa Z T11.heap xa "java/lang/StringBuilder" := f2.keep K11q
  have f13 : Fld Z T11.heap xa "java/lang/AbstractStringBuilder" "value" "[B" (.ref yb) := f3.keep K11q (ninS ne_xa_b1 nin0)
  have f14 : Fld Z T11.heap xa "java/lang/AbstractStringBuilder" "coder" "B" (.int (0 : Int32)) := f4.keep K11q (ninS ne_xa_b1 nin0)
  have f15 : Fld Z T11.heap xa "java/lang/AbstractStringBuilder" "count" "I" (.int (Int32.ofNat nc)) := f5.keep K11q (ninS ne_xa_b1 nin0)
  have f16 : Arv Z T11.heap yb kb .byte (16 : Int32) vs (.int (0 : Int32)) := f6.keep K11q (ninS ne_yb_b1 nin0)
  have f17 : Sta Z T11.heap "java/lang/String" "COMPACT_STRINGS" "Z" (.int wc) := own_staKeep f7 K11q (allS (own_nst f8) all0)
  have f18 : Exa Z T11.heap b1 "java/lang/String" := f8.keep K11q
  have K11 : Keep h0 T11.heap [] := Keep.trans K1 K11q (allS (Or.inr sz_b1) all0)
  have Z11 : n0 ≤ T11.heap.size := Nat.le_trans Z0 K11.1
  have g_yn_11 := px11_g_yn
  have sz_yn_11 : h0.size ≤ yn_11 := Nat.le_trans (K1).1 px11_sz_yn
  have ne_xa_yn_11 : xa ≠ yn_11 := Nat.ne_of_lt (Nat.lt_of_lt_of_le f2.lt px11_sz_yn)
  have ne_yb_yn_11 : yb ≠ yn_11 := Nat.ne_of_lt (Nat.lt_of_lt_of_le f6.lt px11_sz_yn)
  have ne_b1_yn_11 : b1 ≠ yn_11 := Nat.ne_of_lt (Nat.lt_of_lt_of_le f8.lt px11_sz_yn)
  refine Goes.via (S' := (T11.setTop (mkF m 8 #[.val (.ref xa)] [(.ref b1)]))) (fun t k => st11.trans k) ?_
  exact own_ret X11 hx Bd.notSynchronized Bd.returns rfl (Or.inr (Or.inr (Or.inr (Or.inr ⟨rfl, rfl, rfl⟩)))) (hb hby d12_8) rfl ⟨b1, yn_11, kn_11, vn_11, rfl, N11, K11, po11_0, po11_1, po11_2, po11_3, g_b1, sz_b1, g_yn_11, sz_yn_11, px11_cp⟩ (by decide) (by decide)
theorem d11_0 : decode prog_88_method_7_code 0 = .ok (.aload_n 0, 1) := by decide +kernel
theorem d11_1 : decode prog_88_method_7_code 1 = .ok (.getfield 12, 3) := by decide +kernel
theorem d11_4 : decode prog_88_method_7_code 4 = .ok (.invokevirtual 46, 3) := by decide +kernel
theorem d11_7 : decode prog_88_method_7_code 7 = .ok (.areturn, 1) := by decide +kernel
theorem ef_11 (m : MethodId) (xw : Addr) : entryFrame m #[(.ref xw)] 1 = mkF m 0 #[.val (.ref xw)] [] := by first | (simp [entryFrame, mkF, argsToLocals, Value.category]; done) | rfl
def Q11 (Z : State) (xw : Addr) (xa : Addr) (yb : Addr) (kb : ClassId) (vs : List Value) (nc : Nat) (wc : Int32) (h0 : Heap) (n0 : Nat) (v : Option Value) (h : Heap) (L : List Loc) : Prop := ∃ (xs : Addr) (yn : Addr) (kn : ClassId) (vn : List Value), v = some (.ref xs) ∧ Fr n0 L ∧ Keep h0 h [] ∧ Exa Z h xs "java/lang/String" ∧ Fld Z h xs "java/lang/String" "coder" "B" (.int (0 : Int32)) ∧ Fld Z h xs "java/lang/String" "value" "[B" (.ref yn) ∧ Arv Z h yn kn .byte (Int32.ofNat nc) vn (.int (0 : Int32)) ∧ n0 ≤ xs ∧ h0.size ≤ xs ∧ n0 ≤ yn ∧ h0.size ≤ yn ∧ ∀ i, i < nc → vn.getD i (.int (0 : Int32)) = vs.getD i (.int (0 : Int32))
set_option maxRecDepth 65536 in
set_option maxHeartbeats 40000000 in
theorem rm11 (l : Launch) (Z : State) (a0 : Array Value) (hw : ∀ d ∈ tables_1, d.before a0 Z = true) (ws : List Jvm.Cond) (xw : Addr) (xa : Addr) (yb : Addr) (kb : ClassId) (vs : List Value) (nc : Nat) (wc : Int32) (h0 : Heap) (n0 : Nat) (Z0 : n0 ≤ h0.size) (f0_xw_text : Fld Z h0 xw "com/example/parsewright/parsewright/runtime/Packing$Writer" "text" "Ljava/lang/StringBuilder;" (.ref xa)) (f1_xa : Exa Z h0 xa "java/lang/StringBuilder") (f2_xa_value : Fld Z h0 xa "java/lang/AbstractStringBuilder" "value" "[B" (.ref yb)) (f3_xa_coder : Fld Z h0 xa "java/lang/AbstractStringBuilder" "coder" "B" (.int (0 : Int32))) (f4_xa_count : Fld Z h0 xa "java/lang/AbstractStringBuilder" "count" "I" (.int (Int32.ofNat nc))) (f5_yb : Arv Z h0 yb kb .byte (16 : Int32) vs (.int (0 : Int32))) (f6_COMPACT_STRINGS : Sta Z h0 "java/lang/String" "COMPACT_STRINGS" "Z" (.int wc)) (hnc : nc < 16) (hwc : ¬ wc = (0 : Int32)) :
    MetFree l (⟨"com/example/parsewright/parsewright/runtime/Packing$Writer", "toString", "()Ljava/lang/String;"⟩ : MethodName) (head1 (Jvm.Cond.code (⟨"com/example/parsewright/parsewright/runtime/Packing$Writer", "toString", "()Ljava/lang/String;"⟩ : MethodName) prog_88_method_7_code 1 (some (.object "java/lang/String")) :: ws) ({ frames := 6, cells := 2, slots := 20, locals := 100 } : Room)) (fun a U => a = #[(.ref xw)] ∧ Z.Warmed39 U.vm ∧ U.heap = h0) (fun _ _ _ _ _ => True) (fun _ U o U' => ∃ v L, o = .returned v ∧ Q11 Z xw xa yb kb vs nc wc h0 n0 v U'.heap L ∧ FrameEnd U o U' L 2 20) := by
  refine MetFree.of_bodySF (plainFor_of_name pn_27) hisR ?_
  intro p e s m args below meth c s₁ Bd hml0 hP hK
  obtain ⟨rfl, hZ, hh⟩ := hP
  have hx := Bd.exec
  have hby := Bd.bytes
  have hml : c.maxLocals = 1 := hml0
  have hown : s.vm.findClass "com/example/parsewright/parsewright/runtime/Packing$Writer" = some m.cls := findClass_of_methodNamed Bd.named
  have hnm := (name_of_methodNamed Bd.named Bd.method).1
  have X0 : Stand p l e ({ frames := 6, cells := 2, slots := 20, locals := 100 } : Room) s m #[(.ref xw)] below meth c s₁ [] 0 0 := Stand.of_body Bd
  have e0 : s₁.heap = h0 := by rw [← hh, Bd.state]; rfl
  have N0 := Fr.nil n0
  refine own_start (Q := fun v h L => Q11 Z xw xa yb kb vs nc wc h0 n0 v h L) ?_
  refine Goes.via (S' := (s₁.setTop (mkF m 0 #[.val (.ref xw)] []))) (fun t k => castTop (ef_11 m xw) k) ?_
  refine Goes.via (S' := (s₁.setTop (mkF m 1 #[.val (.ref xw)] [(.ref xw)]))) (fun t k => XS.aloadN X0.here hx rfl (hb hby d11_0) rfl rfl k) ?_
  obtain ⟨T1, X1, e1, st1⟩ := getF X0 hx hZ hown (host := "") (Or.inl (hw _ (List.mem_of_getElem? (i := 29) rfl))) Via.refl e0 f0_xw_text (g := (mkF m 1 #[.val (.ref xw)] [(.ref xw)])) rfl rfl (hb hby d11_1)
  refine Goes.via (S' := (T1.setTop (mkF m 4 #[.val (.ref xw)] [(.ref xa)]))) (fun t k => st1 _ k) ?_
  obtain ⟨cq2, kq2, q2a, q2b, q2c⟩ := isOf hZ e1 f1_xa
  obtain ⟨_, _, ⟨T2, L2, k2, n2⟩, -, X2, ⟨Lc2, hQ2, l2, y2, z2⟩, st2⟩ := X1.virtualBack hx (y := (⟨"java/lang/StringBuilder", "toString", "()Ljava/lang/String;"⟩ : MethodName)) (z := (⟨"java/lang/StringBuilder", "toString", "()Ljava/lang/String;"⟩ : MethodName)) hown (mvT hZ (hw _ (List.mem_of_getElem? (i := 67) rfl))) (mvT hZ (hw _ (List.mem_of_getElem? (i := 68) rfl))) (notFace_of_selects (args := #[]) (mvT hZ (hw _ (List.mem_of_getElem? (i := 70) rfl)))) (mvT hZ (hw _ (List.mem_of_getElem? (i := 70) rfl))) (mvT hZ (hw _ (List.mem_of_getElem? (i := 69) rfl))) (by decide) (backOf (W := 0) (rm12 l Z a0 hw [] xa yb kb vs nc wc h0 n0 Z0 f1_xa f2_xa_value f3_xa_coder f4_xa_count f5_yb f6_COMPACT_STRINGS hnc hwc) hZ (hw _ (List.mem_of_getElem? (i := 71) rfl)) (hw _ (List.mem_of_getElem? (i := 11) rfl)) (by decide) (by decide)) q2a q2c (g := (mkF m 4 #[.val (.ref xw)] [(.ref xa)])) rfl (by rw [hml]; rfl) (Steps.refl _) (argsL := []) (rest := []) (lenOf pd_13 rfl) rfl (by show 2 * 0 + _ ≤ _; exact Nat.le_of_eq rfl) (hb hby d11_4) (fun _ _ => ⟨rfl, e1, (by decide : 0 + 2 ≤ _), (by decide : 0 + 20 ≤ _)⟩)
  dsimp only [Pt.U, Pt.locs, Pt.cells, Pt.slots] at X2 l2 y2 z2 st2 hQ2
  replace X2 := own_cast X2 l2 y2 z2
  obtain ⟨xs_2, yn_2, kn_2, vn_2, rfl, N2q, K2q, po2_0, po2_1, po2_2, po2_3, px2_g_xs, px2_sz_xs, px2_g_yn, px2_sz_yn, px2_cp⟩ := hQ2
  have N2 := Fr.app N0 N2q
  have f3 : Fld Z T2.heap xw "com/example/parsewright/parsewright/runtime/Packing$Writer" "text" "Ljava/lang/StringBuilder;" (.ref xa) := f0_xw_text.keep K2q nin0
  have f4 : Exa Z T2.heap xa "java/lang/StringBuilder" := f1_xa.keep K2q
  have f5 : Fld Z T2.heap xa "java/lang/AbstractStringBuilder" "value" "[B" (.ref yb) := f2_xa_value.keep K2q nin0
  have f6 : Fld Z T2.heap xa "java/lang/AbstractStringBuilder" "coder" "B" (.int (0 : Int32)) := f3_xa_coder.keep K2q nin0
  have f7 : Fld Z T2.heap xa "java/lang/AbstractStringBuilder" "count" "I" (.int (Int32.ofNat nc)) := f4_xa_count.keep K2q nin0
  have f8 : Arv Z T2.heap yb kb .byte (16 : Int32) vs (.int (0 : Int32)) := f5_yb.keep K2q nin0
  have f9 : Sta Z T2.heap "java/lang/String" "COMPACT_STRINGS" "Z" (.int wc) := own_staKeep f6_COMPACT_STRINGS K2q all0
  have K2 : Keep h0 T2.heap [] := Keep.trans (Keep.refl h0 []) K2q all0
  have Z2 : n0 ≤ T2.heap.size := Nat.le_trans Z0 K2.1
  have g_xs_2 := px2_g_xs
  have sz_xs_2 : h0.size ≤ xs_2 := Nat.le_trans ((Keep.refl h0 [])).1 px2_sz_xs
  have ne_xw_xs_2 : xw ≠ xs_2 := Nat.ne_of_lt (Nat.lt_of_lt_of_le f0_xw_text.lt px2_sz_xs)
  have ne_xa_xs_2 : xa ≠ xs_2 := Nat.ne_of_lt (Nat.lt_of_lt_of_le f1_xa.lt px2_sz_xs)
  have ne_yb_xs_2 : yb ≠ xs_2 := Nat.ne_of_lt (Nat.lt_of_lt_of_le f5_yb.lt px2_sz_xs)
  have g_yn_2 := px2_g_yn
  have sz_yn_2 : h0.size ≤ yn_2 := Nat.le_trans ((Keep.refl h0 [])).1 px2_sz_yn
  have ne_xw_yn_2 : xw ≠ yn_2 := Nat.ne_of_lt (Nat.lt_of_lt_of_le f0_xw_text.lt px2_sz_yn)
  have ne_xa_yn_2 : xa ≠ yn_2 := Nat.ne_of_lt (Nat.lt_of_lt_of_le f1_xa.lt px2_sz_yn)
  have ne_yb_yn_2 : yb ≠ yn_2 := Nat.ne_of_lt (Nat.lt_of_lt_of_le f5_yb.lt px2_sz_yn)
  refine Goes.via (S' := (T2.setTop (mkF m 7 #[.val (.ref xw)] [(.ref xs_2)]))) (fun t k => st2.trans k) ?_
  exact own_ret X2 hx Bd.notSynchronized Bd.returns rfl (Or.inr (Or.inr (Or.inr (Or.inr ⟨rfl, rfl, rfl⟩)))) (hb hby d11_7) rfl ⟨xs_2, yn_2, kn_2, vn_2, rfl, N2, K2, po2_0, po2_1, po2_2, po2_3, g_xs_2, sz_xs_2, g_yn_2, sz_yn_2, px2_cp⟩ (by decide) (by decide)
theorem d22_0 : decode method_3_code 0 = .ok (.iload_n 0, 1) := by decide +kernel
theorem d22_1 : decode method_3_code 1 = .ok (.i2l, 1) := by decide +kernel
theorem d22_2 : decode method_3_code 2 = .ok (.lstore_n 1, 1) := by decide +kernel
theorem d22_3 : decode method_3_code 3 = .ok (.lload_n 1, 1) := by decide +kernel
theorem d22_4 : decode method_3_code 4 = .ok (.lconst 0, 1) := by decide +kernel
theorem d22_5 : decode method_3_code 5 = .ok (.lcmp, 1) := by decide +kernel
theorem d22_6 : decode method_3_code 6 = .ok (.ifCond .lt 9, 3) := by decide +kernel
theorem d22_9 : decode method_3_code 9 = .ok (.ldc2_w 38, 3) := by decide +kernel
theorem d22_12 : decode method_3_code 12 = .ok (.lload_n 1, 1) := by decide +kernel
theorem d22_13 : decode method_3_code 13 = .ok (.lmul, 1) := by decide +kernel
theorem d22_14 : decode method_3_code 14 = .ok (.lreturn, 1) := by decide +kernel
theorem d22_15 : decode method_3_code 15 = .ok (.ldc2_w 40, 3) := by decide +kernel
theorem d22_18 : decode method_3_code 18 = .ok (.lload_n 1, 1) := by decide +kernel
theorem d22_19 : decode method_3_code 19 = .ok (.lmul, 1) := by decide +kernel
theorem d22_20 : decode method_3_code 20 = .ok (.lconst 1, 1) := by decide +kernel
theorem d22_21 : decode method_3_code 21 = .ok (.lsub, 1) := by decide +kernel
theorem d22_22 : decode method_3_code 22 = .ok (.lreturn, 1) := by decide +kernel
theorem ef_22 (m : MethodId) (p0 : Int32) : entryFrame m #[(.int p0)] 3 = mkF m 0 #[.val (.int p0), .unset, .unset] [] := by first | (simp [entryFrame, mkF, argsToLocals, Value.category]; done) | rfl
def Q22 (Z : State) (p0 : Int32) (h0 : Heap) (n0 : Nat) (v : Option Value) (h : Heap) (L : List Loc) : Prop := ∃ r : Int64, v = some (.long r) ∧ (r.toInt = (own_z p0 : Int)) ∧ Fr n0 L ∧ h = h0
set_option maxRecDepth 65536 in
set_option maxHeartbeats 40000000 in
theorem rm22 (l : Launch) (Z : State) (a0 : Array Value) (hw : ∀ d ∈ tables_1, d.before a0 Z = true) (ws : List Jvm.Cond) (p0 : Int32) (h0 : Heap) (n0 : Nat) (Z0 : n0 ≤ h0.size) :
    MetFree l (⟨"com/example/parsewright/parsewright/runtime/WriterNumberPinLaw", "zig", "(I)J"⟩ : MethodName) (head1 (Jvm.Cond.code (⟨"com/example/parsewright/parsewright/runtime/WriterNumberPinLaw", "zig", "(I)J"⟩ : MethodName) method_3_code 3 (some .long) :: ws) ({ frames := 0, cells := 0, slots := 0, locals := 0 } : Room)) (fun a U => a = #[(.int p0)] ∧ Z.Warmed39 U.vm ∧ U.heap = h0) (fun _ _ _ _ _ => True) (fun _ U o U' => ∃ v L, o = .returned v ∧ Q22 Z p0 h0 n0 v U'.heap L ∧ FrameEnd U o U' L 0 0) := by
  refine MetFree.of_bodySF (plainFor_of_name pn_232) hisR ?_
  intro p e s m args below meth c s₁ Bd hml0 hP hK
  obtain ⟨rfl, hZ, hh⟩ := hP
  have hx := Bd.exec
  have hby := Bd.bytes
  have hml : c.maxLocals = 3 := hml0
  have hown : s.vm.findClass "com/example/parsewright/parsewright/runtime/WriterNumberPinLaw" = some m.cls := findClass_of_methodNamed Bd.named
  have hnm := (name_of_methodNamed Bd.named Bd.method).1
  have X0 : Stand p l e ({ frames := 0, cells := 0, slots := 0, locals := 0 } : Room) s m #[(.int p0)] below meth c s₁ [] 0 0 := Stand.of_body Bd
  have e0 : s₁.heap = h0 := by rw [← hh, Bd.state]; rfl
  have N0 := Fr.nil n0
  refine own_start (Q := fun v h L => Q22 Z p0 h0 n0 v h L) ?_
  refine Goes.via (S' := (s₁.setTop (mkF m 0 #[.val (.int p0), .unset, .unset] []))) (fun t k => castTop (ef_22 m p0) k) ?_
  refine Goes.via (S' := (s₁.setTop (mkF m 1 #[.val (.int p0), .unset, .unset] [(.int p0)]))) (fun t k => XS.iloadN X0.here hx rfl (hb hby d22_0) rfl k) ?_
  refine Goes.via (S' := (s₁.setTop (mkF m 2 #[.val (.int p0), .unset, .unset] [(.long (p0.toInt64))]))) (fun t k => XS.i2l X0.here hx rfl (hb hby d22_1) rfl k) ?_
  refine Goes.via (S' := (s₁.setTop (mkF m 3 #[.val (.int p0), .val (.long (p0.toInt64)), .second] []))) (fun t k => XS.lstoreN X0.here hx rfl (hb hby d22_2) rfl (l' := #[.val (.int p0), .val (.long (p0.toInt64)), .second]) rfl k) ?_
  refine Goes.via (S' := (s₁.setTop (mkF m 4 #[.val (.int p0), .val (.long (p0.toInt64)), .second] [(.long (p0.toInt64))]))) (fun t k => XS.lloadN X0.here hx rfl (hb hby d22_3) rfl k) ?_
  refine Goes.via (S' := (s₁.setTop (mkF m 5 #[.val (.int p0), .val (.long (p0.toInt64)), .second] [(.long (0 : Int64)), (.long (p0.toInt64))]))) (fun t k => XS.lconst X0.here hx rfl (hb hby d22_4) k) ?_
  refine Goes.via (S' := (s₁.setTop (mkF m 6 #[.val (.int p0), .val (.long (p0.toInt64)), .second] [(.int (lcmpW (p0.toInt64) (0 : Int64)))]))) (fun t k => XS.lcmp X0.here hx rfl (hb hby d22_5) rfl k) ?_
  by_cases hc1 : ((p0.toInt64) < (0 : Int64))
  · refine Goes.via (S' := (s₁.setTop (mkF m 15 #[.val (.int p0), .val (.long (p0.toInt64)), .second] []))) (fun t k => XS.ifYes X0.here hx rfl (pc0 := 6) (pc' := 15) rfl (hb hby d22_6) rfl ((if0 _ _).trans (tlt (own_lt hc1)).1) (by decide) (by decide) k) ?_
    refine Goes.via (S' := (s₁.setTop (mkF m 18 #[.val (.int p0), .val (.long (p0.toInt64)), .second] [(.long (-2 : Int64))]))) (fun t k => X0.ldc2Long hx hown (mvT hZ (hw _ (List.mem_of_getElem? (i := 169) rfl))) (g := (mkF m 15 #[.val (.int p0), .val (.long (p0.toInt64)), .second] [])) rfl (hb hby d22_15) _ k) ?_
    refine Goes.via (S' := (s₁.setTop (mkF m 19 #[.val (.int p0), .val (.long (p0.toInt64)), .second] [(.long (p0.toInt64)), (.long (-2 : Int64))]))) (fun t k => XS.lloadN X0.here hx rfl (hb hby d22_18) rfl k) ?_
    refine Goes.via (S' := (s₁.setTop (mkF m 20 #[.val (.int p0), .val (.long (p0.toInt64)), .second] [(.long ((-2 : Int64) * (p0.toInt64)))]))) (fun t k => XS.lmul X0.here hx rfl (hb hby d22_19) rfl k) ?_
    refine Goes.via (S' := (s₁.setTop (mkF m 21 #[.val (.int p0), .val (.long (p0.toInt64)), .second] [(.long (1 : Int64)), (.long ((-2 : Int64) * (p0.toInt64)))]))) (fun t k => XS.lconst X0.here hx rfl (hb hby d22_20) k) ?_
    refine Goes.via (S' := (s₁.setTop (mkF m 22 #[.val (.int p0), .val (.long (p0.toInt64)), .second] [(.long (((-2 : Int64) * (p0.toInt64)) - (1 : Int64)))]))) (fun t k => XS.lsub X0.here hx rfl (hb hby d22_21) rfl k) ?_
    exact own_ret X0 hx Bd.notSynchronized Bd.returns rfl (Or.inr (Or.inl ⟨rfl, rfl, _, rfl⟩)) (hb hby d22_22) e0 ⟨(((-2 : Int64) * (p0.toInt64)) - (1 : Int64)), rfl, (own_zg1 hc1), N0, rfl⟩ (by decide) (by decide)
  · refine Goes.via (S' := (s₁.setTop (mkF m 9 #[.val (.int p0), .val (.long (p0.toInt64)), .second] []))) (fun t k => XS.ifNo X0.here hx rfl (hb hby d22_6) rfl ((if0 _ _).trans (flt (own_nlt hc1)).1) k) ?_
    refine Goes.via (S' := (s₁.setTop (mkF m 12 #[.val (.int p0), .val (.long (p0.toInt64)), .second] [(.long (2 : Int64))]))) (fun t k => X0.ldc2Long hx hown (mvT hZ (hw _ (List.mem_of_getElem? (i := 122) rfl))) (g := (mkF m 9 #[.val (.int p0), .val (.long (p0.toInt64)), .second] [])) rfl (hb hby d22_9) _ k) ?_
    refine Goes.via (S' := (s₁.setTop (mkF m 13 #[.val (.int p0), .val (.long (p0.toInt64)), .second] [(.long (p0.toInt64)), (.long (2 : Int64))]))) (fun t k => XS.lloadN X0.here hx rfl (hb hby d22_12) rfl k) ?_
    refine Goes.via (S' := (s₁.setTop (mkF m 14 #[.val (.int p0), .val (.long (p0.toInt64)), .second] [(.long ((2 : Int64) * (p0.toInt64)))]))) (fun t k => XS.lmul X0.here hx rfl (hb hby d22_13) rfl k) ?_
    exact own_ret X0 hx Bd.notSynchronized Bd.returns rfl (Or.inr (Or.inl ⟨rfl, rfl, _, rfl⟩)) (hb hby d22_14) e0 ⟨((2 : Int64) * (p0.toInt64)), rfl, (own_zg0 hc1), N0, rfl⟩ (by decide) (by decide)
theorem d23_0 : decode method_4_code 0 = .ok (.lload_n 0, 1) := by decide +kernel
theorem d23_1 : decode method_4_code 1 = .ok (.ldc2_w 42, 3) := by decide +kernel
theorem d23_4 : decode method_4_code 4 = .ok (.lcmp, 1) := by decide +kernel
theorem d23_5 : decode method_4_code 5 = .ok (.ifCond .ge 5, 3) := by decide +kernel
theorem d23_8 : decode method_4_code 8 = .ok (.iconst 1, 1) := by decide +kernel
theorem d23_9 : decode method_4_code 9 = .ok (.ireturn, 1) := by decide +kernel
theorem d23_10 : decode method_4_code 10 = .ok (.lload_n 0, 1) := by decide +kernel
theorem d23_11 : decode method_4_code 11 = .ok (.ldc2_w 44, 3) := by decide +kernel
theorem d23_14 : decode method_4_code 14 = .ok (.lcmp, 1) := by decide +kernel
theorem d23_15 : decode method_4_code 15 = .ok (.ifCond .ge 5, 3) := by decide +kernel
theorem d23_18 : decode method_4_code 18 = .ok (.iconst 2, 1) := by decide +kernel
theorem d23_19 : decode method_4_code 19 = .ok (.ireturn, 1) := by decide +kernel
theorem d23_20 : decode method_4_code 20 = .ok (.lload_n 0, 1) := by decide +kernel
theorem d23_21 : decode method_4_code 21 = .ok (.ldc2_w 46, 3) := by decide +kernel
theorem d23_24 : decode method_4_code 24 = .ok (.lcmp, 1) := by decide +kernel
theorem d23_25 : decode method_4_code 25 = .ok (.ifCond .ge 5, 3) := by decide +kernel
theorem d23_28 : decode method_4_code 28 = .ok (.iconst 3, 1) := by decide +kernel
theorem d23_29 : decode method_4_code 29 = .ok (.ireturn, 1) := by decide +kernel
theorem d23_30 : decode method_4_code 30 = .ok (.lload_n 0, 1) := by decide +kernel
theorem d23_31 : decode method_4_code 31 = .ok (.ldc2_w 48, 3) := by decide +kernel
theorem d23_34 : decode method_4_code 34 = .ok (.lcmp, 1) := by decide +kernel
theorem d23_35 : decode method_4_code 35 = .ok (.ifCond .ge 5, 3) := by decide +kernel
theorem d23_38 : decode method_4_code 38 = .ok (.iconst 4, 1) := by decide +kernel
theorem d23_39 : decode method_4_code 39 = .ok (.ireturn, 1) := by decide +kernel
theorem d23_40 : decode method_4_code 40 = .ok (.lload_n 0, 1) := by decide +kernel
theorem d23_41 : decode method_4_code 41 = .ok (.ldc2_w 50, 3) := by decide +kernel
theorem d23_44 : decode method_4_code 44 = .ok (.lcmp, 1) := by decide +kernel
theorem d23_45 : decode method_4_code 45 = .ok (.ifCond .ge 5, 3) := by decide +kernel
theorem d23_48 : decode method_4_code 48 = .ok (.iconst 5, 1) := by decide +kernel
theorem d23_49 : decode method_4_code 49 = .ok (.ireturn, 1) := by decide +kernel
theorem d23_50 : decode method_4_code 50 = .ok (.lload_n 0, 1) := by decide +kernel
theorem d23_51 : decode method_4_code 51 = .ok (.ldc2_w 52, 3) := by decide +kernel
theorem d23_54 : decode method_4_code 54 = .ok (.lcmp, 1) := by decide +kernel
theorem d23_55 : decode method_4_code 55 = .ok (.ifCond .ge 6, 3) := by decide +kernel
theorem d23_58 : decode method_4_code 58 = .ok (.bipush 6, 2) := by decide +kernel
theorem d23_60 : decode method_4_code 60 = .ok (.ireturn, 1) := by decide +kernel
theorem d23_61 : decode method_4_code 61 = .ok (.bipush 7, 2) := by decide +kernel
theorem d23_63 : decode method_4_code 63 = .ok (.ireturn, 1) := by decide +kernel
theorem ef_23 (m : MethodId) (q0 : Int64) : entryFrame m #[(.long q0)] 2 = mkF m 0 #[.val (.long q0), .second] [] := by first | (simp [entryFrame, mkF, argsToLocals, Value.category]; done) | rfl
def Q23 (Z : State) (q0 : Int64) (uu : Nat) (h0 : Heap) (n0 : Nat) (v : Option Value) (h : Heap) (L : List Loc) : Prop := ∃ r : Int32, v = some (.int r) ∧ (r = Int32.ofNat (own_enc 6 uu).length) ∧ Fr n0 L ∧ h = h0
set_option maxRecDepth 65536 in
set_option maxHeartbeats 40000000 in
theorem rm23 (l : Launch) (Z : State) (a0 : Array Value) (hw : ∀ d ∈ tables_1, d.before a0 Z = true) (ws : List Jvm.Cond) (q0 : Int64) (uu : Nat) (h0 : Heap) (n0 : Nat) (Z0 : n0 ≤ h0.size) (hU : q0.toInt = (uu : Int)) :
    MetFree l (⟨"com/example/parsewright/parsewright/runtime/WriterNumberPinLaw", "len", "(J)I"⟩ : MethodName) (head1 (Jvm.Cond.code (⟨"com/example/parsewright/parsewright/runtime/WriterNumberPinLaw", "len", "(J)I"⟩ : MethodName) method_4_code 2 (some .int) :: ws) ({ frames := 0, cells := 0, slots := 0, locals := 0 } : Room)) (fun a U => a = #[(.long q0)] ∧ Z.Warmed39 U.vm ∧ U.heap = h0) (fun _ _ _ _ _ => True) (fun _ U o U' => ∃ v L, o = .returned v ∧ Q23 Z q0 uu h0 n0 v U'.heap L ∧ FrameEnd U o U' L 0 0) := by
  refine MetFree.of_bodySF (plainFor_of_name pn_232) hisR ?_
  intro p e s m args below meth c s₁ Bd hml0 hP hK
  obtain ⟨rfl, hZ, hh⟩ := hP
  have hx := Bd.exec
  have hby := Bd.bytes
  have hml : c.maxLocals = 2 := hml0
  have hown : s.vm.findClass "com/example/parsewright/parsewright/runtime/WriterNumberPinLaw" = some m.cls := findClass_of_methodNamed Bd.named
  have hnm := (name_of_methodNamed Bd.named Bd.method).1
  have X0 : Stand p l e ({ frames := 0, cells := 0, slots := 0, locals := 0 } : Room) s m #[(.long q0)] below meth c s₁ [] 0 0 := Stand.of_body Bd
  have e0 : s₁.heap = h0 := by rw [← hh, Bd.state]; rfl
  have N0 := Fr.nil n0
  refine own_start (Q := fun v h L => Q23 Z q0 uu h0 n0 v h L) ?_
  refine Goes.via (S' := (s₁.setTop (mkF m 0 #[.val (.long q0), .second] []))) (fun t k => castTop (ef_23 m q0) k) ?_
  refine Goes.via (S' := (s₁.setTop (mkF m 1 #[.val (.long q0), .second] [(.long q0)]))) (fun t k => XS.lloadN X0.here hx rfl (hb hby d23_0) rfl k) ?_
  refine Goes.via (S' := (s₁.setTop (mkF m 4 #[.val (.long q0), .second] [(.long (32 : Int64)), (.long q0)]))) (fun t k => X0.ldc2Long hx hown (mvT hZ (hw _ (List.mem_of_getElem? (i := 126) rfl))) (g := (mkF m 1 #[.val (.long q0), .second] [(.long q0)])) rfl (hb hby d23_1) _ k) ?_
  refine Goes.via (S' := (s₁.setTop (mkF m 5 #[.val (.long q0), .second] [(.int (lcmpW q0 (32 : Int64)))]))) (fun t k => XS.lcmp X0.here hx rfl (hb hby d23_4) rfl k) ?_
  by_cases hc1 : (q0 < (32 : Int64))
  · refine Goes.via (S' := (s₁.setTop (mkF m 8 #[.val (.long q0), .second] []))) (fun t k => XS.ifNo X0.here hx rfl (hb hby d23_5) rfl ((if0 _ _).trans (tlt (own_lt hc1)).2.1) k) ?_
    refine Goes.via (S' := (s₁.setTop (mkF m 9 #[.val (.long q0), .second] [(.int (1 : Int32))]))) (fun t k => XS.iconst X0.here hx rfl (hb hby d23_8) k) ?_
    exact own_ret X0 hx Bd.notSynchronized Bd.returns rfl (Or.inl ⟨rfl, by simp, _, rfl⟩) (hb hby d23_9) e0 ⟨(1 : Int32), rfl, (by rw [own_lenI hU, if_pos hc1]), N0, rfl⟩ (by decide) (by decide)
  · refine Goes.via (S' := (s₁.setTop (mkF m 10 #[.val (.long q0), .second] []))) (fun t k => XS.ifYes X0.here hx rfl (pc0 := 5) (pc' := 10) rfl (hb hby d23_5) rfl ((if0 _ _).trans (flt (own_nlt hc1)).2.1) (by decide) (by decide) k) ?_
    refine Goes.via (S' := (s₁.setTop (mkF m 11 #[.val (.long q0), .second] [(.long q0)]))) (fun t k => XS.lloadN X0.here hx rfl (hb hby d23_10) rfl k) ?_
    refine Goes.via (S' := (s₁.setTop (mkF m 14 #[.val (.long q0), .second] [(.long (1024 : Int64)), (.long q0)]))) (fun t k => X0.ldc2Long hx hown (mvT hZ (hw _ (List.mem_of_getElem? (i := 166) rfl))) (g := (mkF m 11 #[.val (.long q0), .second] [(.long q0)])) rfl (hb hby d23_11) _ k) ?_
    refine Goes.via (S' := (s₁.setTop (mkF m 15 #[.val (.long q0), .second] [(.int (lcmpW q0 (1024 : Int64)))]))) (fun t k => XS.lcmp X0.here hx rfl (hb hby d23_14) rfl k) ?_
    by_cases hc2 : (q0 < (1024 : Int64))
    · refine Goes.via (S' := (s₁.setTop (mkF m 18 #[.val (.long q0), .second] []))) (fun t k => XS.ifNo X0.here hx rfl (hb hby d23_15) rfl ((if0 _ _).trans (tlt (own_lt hc2)).2.1) k) ?_
      refine Goes.via (S' := (s₁.setTop (mkF m 19 #[.val (.long q0), .second] [(.int (2 : Int32))]))) (fun t k => XS.iconst X0.here hx rfl (hb hby d23_18) k) ?_
      exact own_ret X0 hx Bd.notSynchronized Bd.returns rfl (Or.inl ⟨rfl, by simp, _, rfl⟩) (hb hby d23_19) e0 ⟨(2 : Int32), rfl, (by rw [own_lenI hU, if_neg hc1, if_pos hc2]), N0, rfl⟩ (by decide) (by decide)
    · refine Goes.via (S' := (s₁.setTop (mkF m 20 #[.val (.long q0), .second] []))) (fun t k => XS.ifYes X0.here hx rfl (pc0 := 15) (pc' := 20) rfl (hb hby d23_15) rfl ((if0 _ _).trans (flt (own_nlt hc2)).2.1) (by decide) (by decide) k) ?_
      refine Goes.via (S' := (s₁.setTop (mkF m 21 #[.val (.long q0), .second] [(.long q0)]))) (fun t k => XS.lloadN X0.here hx rfl (hb hby d23_20) rfl k) ?_
      refine Goes.via (S' := (s₁.setTop (mkF m 24 #[.val (.long q0), .second] [(.long (32768 : Int64)), (.long q0)]))) (fun t k => X0.ldc2Long hx hown (mvT hZ (hw _ (List.mem_of_getElem? (i := 170) rfl))) (g := (mkF m 21 #[.val (.long q0), .second] [(.long q0)])) rfl (hb hby d23_21) _ k) ?_
      refine Goes.via (S' := (s₁.setTop (mkF m 25 #[.val (.long q0), .second] [(.int (lcmpW q0 (32768 : Int64)))]))) (fun t k => XS.lcmp X0.here hx rfl (hb hby d23_24) rfl k) ?_
      by_cases hc3 : (q0 < (32768 : Int64))
      · refine Goes.via (S' := (s₁.setTop (mkF m 28 #[.val (.long q0), .second] []))) (fun t k => XS.ifNo X0.here hx rfl (hb hby d23_25) rfl ((if0 _ _).trans (tlt (own_lt hc3)).2.1) k) ?_
        refine Goes.via (S' := (s₁.setTop (mkF m 29 #[.val (.long q0), .second] [(.int (3 : Int32))]))) (fun t k => XS.iconst X0.here hx rfl (hb hby d23_28) k) ?_
        exact own_ret X0 hx Bd.notSynchronized Bd.returns rfl (Or.inl ⟨rfl, by simp, _, rfl⟩) (hb hby d23_29) e0 ⟨(3 : Int32), rfl, (by rw [own_lenI hU, if_neg hc1, if_neg hc2, if_pos hc3]), N0, rfl⟩ (by decide) (by decide)
      · refine Goes.via (S' := (s₁.setTop (mkF m 30 #[.val (.long q0), .second] []))) (fun t k => XS.ifYes X0.here hx rfl (pc0 := 25) (pc' := 30) rfl (hb hby d23_25) rfl ((if0 _ _).trans (flt (own_nlt hc3)).2.1) (by decide) (by decide) k) ?_
        refine Goes.via (S' := (s₁.setTop (mkF m 31 #[.val (.long q0), .second] [(.long q0)]))) (fun t k => XS.lloadN X0.here hx rfl (hb hby d23_30) rfl k) ?_
        refine Goes.via (S' := (s₁.setTop (mkF m 34 #[.val (.long q0), .second] [(.long (1048576 : Int64)), (.long q0)]))) (fun t k => X0.ldc2Long hx hown (mvT hZ (hw _ (List.mem_of_getElem? (i := 171) rfl))) (g := (mkF m 31 #[.val (.long q0), .second] [(.long q0)])) rfl (hb hby d23_31) _ k) ?_
        refine Goes.via (S' := (s₁.setTop (mkF m 35 #[.val (.long q0), .second] [(.int (lcmpW q0 (1048576 : Int64)))]))) (fun t k => XS.lcmp X0.here hx rfl (hb hby d23_34) rfl k) ?_
        by_cases hc4 : (q0 < (1048576 : Int64))
        · refine Goes.via (S' := (s₁.setTop (mkF m 38 #[.val (.long q0), .second] []))) (fun t k => XS.ifNo X0.here hx rfl (hb hby d23_35) rfl ((if0 _ _).trans (tlt (own_lt hc4)).2.1) k) ?_
          refine Goes.via (S' := (s₁.setTop (mkF m 39 #[.val (.long q0), .second] [(.int (4 : Int32))]))) (fun t k => XS.iconst X0.here hx rfl (hb hby d23_38) k) ?_
          exact own_ret X0 hx Bd.notSynchronized Bd.returns rfl (Or.inl ⟨rfl, by simp, _, rfl⟩) (hb hby d23_39) e0 ⟨(4 : Int32), rfl, (by rw [own_lenI hU, if_neg hc1, if_neg hc2, if_neg hc3, if_pos hc4]), N0, rfl⟩ (by decide) (by decide)
        · refine Goes.via (S' := (s₁.setTop (mkF m 40 #[.val (.long q0), .second] []))) (fun t k => XS.ifYes X0.here hx rfl (pc0 := 35) (pc' := 40) rfl (hb hby d23_35) rfl ((if0 _ _).trans (flt (own_nlt hc4)).2.1) (by decide) (by decide) k) ?_
          refine Goes.via (S' := (s₁.setTop (mkF m 41 #[.val (.long q0), .second] [(.long q0)]))) (fun t k => XS.lloadN X0.here hx rfl (hb hby d23_40) rfl k) ?_
          refine Goes.via (S' := (s₁.setTop (mkF m 44 #[.val (.long q0), .second] [(.long (33554432 : Int64)), (.long q0)]))) (fun t k => X0.ldc2Long hx hown (mvT hZ (hw _ (List.mem_of_getElem? (i := 172) rfl))) (g := (mkF m 41 #[.val (.long q0), .second] [(.long q0)])) rfl (hb hby d23_41) _ k) ?_
          refine Goes.via (S' := (s₁.setTop (mkF m 45 #[.val (.long q0), .second] [(.int (lcmpW q0 (33554432 : Int64)))]))) (fun t k => XS.lcmp X0.here hx rfl (hb hby d23_44) rfl k) ?_
          by_cases hc5 : (q0 < (33554432 : Int64))
          · refine Goes.via (S' := (s₁.setTop (mkF m 48 #[.val (.long q0), .second] []))) (fun t k => XS.ifNo X0.here hx rfl (hb hby d23_45) rfl ((if0 _ _).trans (tlt (own_lt hc5)).2.1) k) ?_
            refine Goes.via (S' := (s₁.setTop (mkF m 49 #[.val (.long q0), .second] [(.int (5 : Int32))]))) (fun t k => XS.iconst X0.here hx rfl (hb hby d23_48) k) ?_
            exact own_ret X0 hx Bd.notSynchronized Bd.returns rfl (Or.inl ⟨rfl, by simp, _, rfl⟩) (hb hby d23_49) e0 ⟨(5 : Int32), rfl, (by rw [own_lenI hU, if_neg hc1, if_neg hc2, if_neg hc3, if_neg hc4, if_pos hc5]), N0, rfl⟩ (by decide) (by decide)
          · refine Goes.via (S' := (s₁.setTop (mkF m 50 #[.val (.long q0), .second] []))) (fun t k => XS.ifYes X0.here hx rfl (pc0 := 45) (pc' := 50) rfl (hb hby d23_45) rfl ((if0 _ _).trans (flt (own_nlt hc5)).2.1) (by decide) (by decide) k) ?_
            refine Goes.via (S' := (s₁.setTop (mkF m 51 #[.val (.long q0), .second] [(.long q0)]))) (fun t k => XS.lloadN X0.here hx rfl (hb hby d23_50) rfl k) ?_
            refine Goes.via (S' := (s₁.setTop (mkF m 54 #[.val (.long q0), .second] [(.long (1073741824 : Int64)), (.long q0)]))) (fun t k => X0.ldc2Long hx hown (mvT hZ (hw _ (List.mem_of_getElem? (i := 173) rfl))) (g := (mkF m 51 #[.val (.long q0), .second] [(.long q0)])) rfl (hb hby d23_51) _ k) ?_
            refine Goes.via (S' := (s₁.setTop (mkF m 55 #[.val (.long q0), .second] [(.int (lcmpW q0 (1073741824 : Int64)))]))) (fun t k => XS.lcmp X0.here hx rfl (hb hby d23_54) rfl k) ?_
            by_cases hc6 : (q0 < (1073741824 : Int64))
            · refine Goes.via (S' := (s₁.setTop (mkF m 58 #[.val (.long q0), .second] []))) (fun t k => XS.ifNo X0.here hx rfl (hb hby d23_55) rfl ((if0 _ _).trans (tlt (own_lt hc6)).2.1) k) ?_
              refine Goes.via (S' := (s₁.setTop (mkF m 60 #[.val (.long q0), .second] [(.int (6 : Int32))]))) (fun t k => XS.bipush X0.here hx rfl (hb hby d23_58) k) ?_
              exact own_ret X0 hx Bd.notSynchronized Bd.returns rfl (Or.inl ⟨rfl, by simp, _, rfl⟩) (hb hby d23_60) e0 ⟨(6 : Int32), rfl, (by rw [own_lenI hU, if_neg hc1, if_neg hc2, if_neg hc3, if_neg hc4, if_neg hc5, if_pos hc6]), N0, rfl⟩ (by decide) (by decide)
            · refine Goes.via (S' := (s₁.setTop (mkF m 61 #[.val (.long q0), .second] []))) (fun t k => XS.ifYes X0.here hx rfl (pc0 := 55) (pc' := 61) rfl (hb hby d23_55) rfl ((if0 _ _).trans (flt (own_nlt hc6)).2.1) (by decide) (by decide) k) ?_
              refine Goes.via (S' := (s₁.setTop (mkF m 63 #[.val (.long q0), .second] [(.int (7 : Int32))]))) (fun t k => XS.bipush X0.here hx rfl (hb hby d23_61) k) ?_
              exact own_ret X0 hx Bd.notSynchronized Bd.returns rfl (Or.inl ⟨rfl, by simp, _, rfl⟩) (hb hby d23_63) e0 ⟨(7 : Int32), rfl, (by rw [own_lenI hU, if_neg hc1, if_neg hc2, if_neg hc3, if_neg hc4, if_neg hc5, if_neg hc6]), N0, rfl⟩ (by decide) (by decide)
theorem d25_0 : decode jdk_42_method_152_code 0 = .ok (.getstatic 38, 3) := by decide +kernel
theorem d25_3 : decode jdk_42_method_152_code 3 = .ok (.ifCond .eq 10, 3) := by decide +kernel
theorem d25_6 : decode jdk_42_method_152_code 6 = .ok (.aload_n 0, 1) := by decide +kernel
theorem d25_7 : decode jdk_42_method_152_code 7 = .ok (.getfield 15, 3) := by decide +kernel
theorem d25_10 : decode jdk_42_method_152_code 10 = .ok (.goto 4, 3) := by decide +kernel
theorem d25_14 : decode jdk_42_method_152_code 14 = .ok (.ireturn, 1) := by decide +kernel
theorem ef_25 (m : MethodId) (xs : Addr) : entryFrame m #[(.ref xs)] 1 = mkF m 0 #[.val (.ref xs)] [] := by first | (simp [entryFrame, mkF, argsToLocals, Value.category]; done) | rfl
def Q25 (Z : State) (xs : Addr) (wc : Int32) (h0 : Heap) (n0 : Nat) (v : Option Value) (h : Heap) (L : List Loc) : Prop := v = some (.int (0 : Int32)) ∧ Fr n0 L ∧ h = h0
set_option maxRecDepth 65536 in
set_option maxHeartbeats 40000000 in
theorem rm25 (l : Launch) (Z : State) (a0 : Array Value) (hw : ∀ d ∈ tables_1, d.before a0 Z = true) (ws : List Jvm.Cond) (xs : Addr) (wc : Int32) (h0 : Heap) (n0 : Nat) (Z0 : n0 ≤ h0.size) (f0_xs_coder : Fld Z h0 xs "java/lang/String" "coder" "B" (.int (0 : Int32))) (f1_COMPACT_STRINGS : Sta Z h0 "java/lang/String" "COMPACT_STRINGS" "Z" (.int wc)) (hwc : ¬ wc = (0 : Int32)) :
    MetFree l (⟨"java/lang/String", "coder", "()B"⟩ : MethodName) (head1 (Jvm.Cond.code (⟨"java/lang/String", "coder", "()B"⟩ : MethodName) jdk_42_method_152_code 1 (some .byte) :: ws) ({ frames := 0, cells := 0, slots := 0, locals := 0 } : Room)) (fun a U => a = #[(.ref xs)] ∧ Z.Warmed39 U.vm ∧ U.heap = h0) (fun _ _ _ _ _ => True) (fun _ U o U' => ∃ v L, o = .returned v ∧ Q25 Z xs wc h0 n0 v U'.heap L ∧ FrameEnd U o U' L 0 0) := by
  refine MetFree.of_bodySF (plainFor_of_name pn_200) hisR ?_
  intro p e s m args below meth c s₁ Bd hml0 hP hK
  obtain ⟨rfl, hZ, hh⟩ := hP
  have hx := Bd.exec
  have hby := Bd.bytes
  have hml : c.maxLocals = 1 := hml0
  have hown : s.vm.findClass "java/lang/String" = some m.cls := findClass_of_methodNamed Bd.named
  have hnm := (name_of_methodNamed Bd.named Bd.method).1
  have X0 : Stand p l e ({ frames := 0, cells := 0, slots := 0, locals := 0 } : Room) s m #[(.ref xs)] below meth c s₁ [] 0 0 := Stand.of_body Bd
  have e0 : s₁.heap = h0 := by rw [← hh, Bd.state]; rfl
  have N0 := Fr.nil n0
  refine own_start (Q := fun v h L => Q25 Z xs wc h0 n0 v h L) ?_
  refine Goes.via (S' := (s₁.setTop (mkF m 0 #[.val (.ref xs)] []))) (fun t k => castTop (ef_25 m xs) k) ?_
  obtain ⟨T1, X1, e1, st1⟩ := getS2 X0 hx hZ hown (host := "") (Or.inl (hw _ (List.mem_of_getElem? (i := 137) rfl))) Via.refl e0 f1_COMPACT_STRINGS (g := (mkF m 0 #[.val (.ref xs)] [])) rfl (hb hby d25_0)
  refine Goes.via (S' := (T1.setTop (mkF m 3 #[.val (.ref xs)] [(.int wc)]))) (fun t k => st1 _ k) ?_
  refine Goes.via (S' := (T1.setTop (mkF m 6 #[.val (.ref xs)] []))) (fun t k => XS.ifNo X1.here hx rfl (hb hby d25_3) rfl ((if0 _ _).trans (feq hwc).1) k) ?_
  refine Goes.via (S' := (T1.setTop (mkF m 7 #[.val (.ref xs)] [(.ref xs)]))) (fun t k => XS.aloadN X1.here hx rfl (hb hby d25_6) rfl rfl k) ?_
  obtain ⟨T2, X2, e2, st2⟩ := getF X1 hx hZ hown (host := "") (Or.inl (hw _ (List.mem_of_getElem? (i := 96) rfl))) Via.refl e1 f0_xs_coder (g := (mkF m 7 #[.val (.ref xs)] [(.ref xs)])) rfl rfl (hb hby d25_7)
  refine Goes.via (S' := (T2.setTop (mkF m 10 #[.val (.ref xs)] [(.int (0 : Int32))]))) (fun t k => st2 _ k) ?_
  refine Goes.via (S' := (T2.setTop (mkF m 14 #[.val (.ref xs)] [(.int (0 : Int32))]))) (fun t k => XS.goto X2.here hx rfl (pc0 := 10) (pc' := 14) rfl (hb hby d25_10) (by decide) (by decide) k) ?_
  exact own_ret X2 hx Bd.notSynchronized Bd.returns rfl (Or.inl ⟨rfl, by simp, _, rfl⟩) (hb hby d25_14) e2 ⟨rfl, N0, rfl⟩ (by decide) (by decide)
theorem d24_0 : decode jdk_42_method_54_code 0 = .ok (.aload_n 0, 1) := by decide +kernel
theorem d24_1 : decode jdk_42_method_54_code 1 = .ok (.getfield 9, 3) := by decide +kernel
theorem d24_4 : decode jdk_42_method_54_code 4 = .ok (.arraylength, 1) := by decide +kernel
theorem d24_5 : decode jdk_42_method_54_code 5 = .ok (.aload_n 0, 1) := by decide +kernel
theorem d24_6 : decode jdk_42_method_54_code 6 = .ok (.invokevirtual 335, 3) := by decide +kernel
theorem d24_9 : decode jdk_42_method_54_code 9 = .ok (.ishr, 1) := by decide +kernel
theorem d24_10 : decode jdk_42_method_54_code 10 = .ok (.ireturn, 1) := by decide +kernel
theorem ef_24 (m : MethodId) (xs : Addr) : entryFrame m #[(.ref xs)] 1 = mkF m 0 #[.val (.ref xs)] [] := by first | (simp [entryFrame, mkF, argsToLocals, Value.category]; done) | rfl
def Q24 (Z : State) (xs : Addr) (yn : Addr) (kn : ClassId) (vn : List Value) (nc : Nat) (wc : Int32) (h0 : Heap) (n0 : Nat) (v : Option Value) (h : Heap) (L : List Loc) : Prop := v = some (.int (Int32.ofNat nc)) ∧ Fr n0 L ∧ h = h0
set_option maxRecDepth 65536 in
set_option maxHeartbeats 40000000 in
theorem rm24 (l : Launch) (Z : State) (a0 : Array Value) (hw : ∀ d ∈ tables_1, d.before a0 Z = true) (ws : List Jvm.Cond) (xs : Addr) (yn : Addr) (kn : ClassId) (vn : List Value) (nc : Nat) (wc : Int32) (h0 : Heap) (n0 : Nat) (Z0 : n0 ≤ h0.size) (f0_xs : Exa Z h0 xs "java/lang/String") (f1_xs_coder : Fld Z h0 xs "java/lang/String" "coder" "B" (.int (0 : Int32))) (f2_xs_value : Fld Z h0 xs "java/lang/String" "value" "[B" (.ref yn)) (f3_yn : Arv Z h0 yn kn .byte (Int32.ofNat nc) vn (.int (0 : Int32))) (f4_COMPACT_STRINGS : Sta Z h0 "java/lang/String" "COMPACT_STRINGS" "Z" (.int wc)) (hwc : ¬ wc = (0 : Int32)) :
    MetFree l (⟨"java/lang/String", "length", "()I"⟩ : MethodName) (head1 (Jvm.Cond.code (⟨"java/lang/String", "length", "()I"⟩ : MethodName) jdk_42_method_54_code 1 (some .int) :: ws) ({ frames := 1, cells := 0, slots := 0, locals := 13 } : Room)) (fun a U => a = #[(.ref xs)] ∧ Z.Warmed39 U.vm ∧ U.heap = h0) (fun _ _ _ _ _ => True) (fun _ U o U' => ∃ v L, o = .returned v ∧ Q24 Z xs yn kn vn nc wc h0 n0 v U'.heap L ∧ FrameEnd U o U' L 0 0) := by
  refine MetFree.of_bodySF (plainFor_of_name pn_200) hisR ?_
  intro p e s m args below meth c s₁ Bd hml0 hP hK
  obtain ⟨rfl, hZ, hh⟩ := hP
  have hx := Bd.exec
  have hby := Bd.bytes
  have hml : c.maxLocals = 1 := hml0
  have hown : s.vm.findClass "java/lang/String" = some m.cls := findClass_of_methodNamed Bd.named
  have hnm := (name_of_methodNamed Bd.named Bd.method).1
  have X0 : Stand p l e ({ frames := 1, cells := 0, slots := 0, locals := 13 } : Room) s m #[(.ref xs)] below meth c s₁ [] 0 0 := Stand.of_body Bd
  have e0 : s₁.heap = h0 := by rw [← hh, Bd.state]; rfl
  have N0 := Fr.nil n0
  refine own_start (Q := fun v h L => Q24 Z xs yn kn vn nc wc h0 n0 v h L) ?_
  refine Goes.via (S' := (s₁.setTop (mkF m 0 #[.val (.ref xs)] []))) (fun t k => castTop (ef_24 m xs) k) ?_
  refine Goes.via (S' := (s₁.setTop (mkF m 1 #[.val (.ref xs)] [(.ref xs)]))) (fun t k => XS.aloadN X0.here hx rfl (hb hby d24_0) rfl rfl k) ?_
  obtain ⟨T1, X1, e1, st1⟩ := getF X0 hx hZ hown (host := "") (Or.inl (hw _ (List.mem_of_getElem? (i := 116) rfl))) Via.refl e0 f2_xs_value (g := (mkF m 1 #[.val (.ref xs)] [(.ref xs)])) rfl rfl (hb hby d24_1)
  refine Goes.via (S' := (T1.setTop (mkF m 4 #[.val (.ref xs)] [(.ref yn)]))) (fun t k => st1 _ k) ?_
  obtain ⟨cl2, Ar2, q2, S2, M2, Hs2, G2⟩ := id f3_yn
  refine Goes.via (S' := (T1.setTop (mkF m 5 #[.val (.ref xs)] [(.int (Int32.ofNat nc))]))) (fun t k => X1.arraylength hx (by rw [e1]; exact Ar2.1) (State.isArrayOf_alike hZ.alike Ar2.2.1) (g := (mkF m 4 #[.val (.ref xs)] [(.ref yn)])) rfl rfl (hb hby d24_4) _ (by rw [len_of S2 M2]; exact k)) ?_
  refine Goes.via (S' := (T1.setTop (mkF m 6 #[.val (.ref xs)] [(.ref xs), (.int (Int32.ofNat nc))]))) (fun t k => XS.aloadN X1.here hx rfl (hb hby d24_5) rfl rfl k) ?_
  obtain ⟨cq3, kq3, q3a, q3b, q3c⟩ := isOf hZ e1 f0_xs
  obtain ⟨_, _, ⟨T3, L3, k3, n3⟩, -, X3, ⟨Lc3, hQ3, l3, y3, z3⟩, st3⟩ := X1.virtualBack hx (y := (⟨"java/lang/String", "coder", "()B"⟩ : MethodName)) (z := (⟨"java/lang/String", "coder", "()B"⟩ : MethodName)) hown (mvT hZ (hw _ (List.mem_of_getElem? (i := 132) rfl))) (mvT hZ (hw _ (List.mem_of_getElem? (i := 133) rfl))) (notFace_of_selects (args := #[]) (mvT hZ (hw _ (List.mem_of_getElem? (i := 135) rfl)))) (mvT hZ (hw _ (List.mem_of_getElem? (i := 135) rfl))) (mvT hZ (hw _ (List.mem_of_getElem? (i := 134) rfl))) (by decide) (backOf (W := 1) (rm25 l Z a0 hw [] xs wc h0 n0 Z0 f1_xs_coder f4_COMPACT_STRINGS hwc) hZ (hw _ (List.mem_of_getElem? (i := 136) rfl)) (hw _ (List.mem_of_getElem? (i := 23) rfl)) (by decide) (by decide)) q3a q3c (g := (mkF m 6 #[.val (.ref xs)] [(.ref xs), (.int (Int32.ofNat nc))])) rfl (by rw [hml]; rfl) (Steps.refl _) (argsL := []) (rest := [(.int (Int32.ofNat nc))]) (lenOf pd_14 rfl) rfl (by show 2 * 0 + _ ≤ _; exact Nat.le_of_eq rfl) (hb hby d24_6) (fun _ _ => ⟨rfl, e1, (by decide : 0 + 0 ≤ _), (by decide : 0 + 0 ≤ _)⟩)
  dsimp only [Pt.U, Pt.locs, Pt.cells, Pt.slots] at X3 l3 y3 z3 st3 hQ3
  replace X3 := own_cast X3 l3 y3 z3
  obtain ⟨rfl, N3q, eq3⟩ := hQ3
  have N3 := Fr.app N0 N3q
  refine Goes.via (S' := (T3.setTop (mkF m 9 #[.val (.ref xs)] [(.int (0 : Int32)), (.int (Int32.ofNat nc))]))) (fun t k => st3.trans k) ?_
  refine Goes.via (S' := (T3.setTop (mkF m 10 #[.val (.ref xs)] [(.int ((Int32.ofNat nc) >>> ((0 : Int32) &&& 31)))]))) (fun t k => XS.ishr X3.here hx rfl (hb hby d24_9) rfl k) ?_
  rw [own_shr0]
  exact own_ret X3 hx Bd.notSynchronized Bd.returns rfl (Or.inl ⟨rfl, by simp, _, rfl⟩) (hb hby d24_10) eq3 ⟨rfl, N3, rfl⟩ (by decide) (by decide)
theorem d29_0 : decode jdk_42_method_154_code 0 = .ok (.getstatic 38, 3) := by decide +kernel
theorem d29_3 : decode jdk_42_method_154_code 3 = .ok (.ifCond .eq 14, 3) := by decide +kernel
theorem d29_6 : decode jdk_42_method_154_code 6 = .ok (.aload_n 0, 1) := by decide +kernel
theorem d29_7 : decode jdk_42_method_154_code 7 = .ok (.getfield 15, 3) := by decide +kernel
theorem d29_10 : decode jdk_42_method_154_code 10 = .ok (.ifCond .ne 7, 3) := by decide +kernel
theorem d29_13 : decode jdk_42_method_154_code 13 = .ok (.iconst 1, 1) := by decide +kernel
theorem d29_14 : decode jdk_42_method_154_code 14 = .ok (.goto 4, 3) := by decide +kernel
theorem d29_18 : decode jdk_42_method_154_code 18 = .ok (.ireturn, 1) := by decide +kernel
theorem ef_29 (m : MethodId) (xs : Addr) : entryFrame m #[(.ref xs)] 1 = mkF m 0 #[.val (.ref xs)] [] := by first | (simp [entryFrame, mkF, argsToLocals, Value.category]; done) | rfl
def Q29 (Z : State) (xs : Addr) (wc : Int32) (h0 : Heap) (n0 : Nat) (v : Option Value) (h : Heap) (L : List Loc) : Prop := v = some (.int (1 : Int32)) ∧ Fr n0 L ∧ h = h0
set_option maxRecDepth 65536 in
set_option maxHeartbeats 40000000 in
theorem rm29 (l : Launch) (Z : State) (a0 : Array Value) (hw : ∀ d ∈ tables_1, d.before a0 Z = true) (ws : List Jvm.Cond) (xs : Addr) (wc : Int32) (h0 : Heap) (n0 : Nat) (Z0 : n0 ≤ h0.size) (f0_xs_coder : Fld Z h0 xs "java/lang/String" "coder" "B" (.int (0 : Int32))) (f1_COMPACT_STRINGS : Sta Z h0 "java/lang/String" "COMPACT_STRINGS" "Z" (.int wc)) (hwc : ¬ wc = (0 : Int32)) :
    MetFree l (⟨"java/lang/String", "isLatin1", "()Z"⟩ : MethodName) (head1 (Jvm.Cond.code (⟨"java/lang/String", "isLatin1", "()Z"⟩ : MethodName) jdk_42_method_154_code 1 (some .boolean) :: ws) ({ frames := 0, cells := 0, slots := 0, locals := 0 } : Room)) (fun a U => a = #[(.ref xs)] ∧ Z.Warmed39 U.vm ∧ U.heap = h0) (fun _ _ _ _ _ => True) (fun _ U o U' => ∃ v L, o = .returned v ∧ Q29 Z xs wc h0 n0 v U'.heap L ∧ FrameEnd U o U' L 0 0) := by
  refine MetFree.of_bodySF (plainFor_of_name pn_200) hisR ?_
  intro p e s m args below meth c s₁ Bd hml0 hP hK
  obtain ⟨rfl, hZ, hh⟩ := hP
  have hx := Bd.exec
  have hby := Bd.bytes
  have hml : c.maxLocals = 1 := hml0
  have hown : s.vm.findClass "java/lang/String" = some m.cls := findClass_of_methodNamed Bd.named
  have hnm := (name_of_methodNamed Bd.named Bd.method).1
  have X0 : Stand p l e ({ frames := 0, cells := 0, slots := 0, locals := 0 } : Room) s m #[(.ref xs)] below meth c s₁ [] 0 0 := Stand.of_body Bd
  have e0 : s₁.heap = h0 := by rw [← hh, Bd.state]; rfl
  have N0 := Fr.nil n0
  refine own_start (Q := fun v h L => Q29 Z xs wc h0 n0 v h L) ?_
  refine Goes.via (S' := (s₁.setTop (mkF m 0 #[.val (.ref xs)] []))) (fun t k => castTop (ef_29 m xs) k) ?_
  obtain ⟨T1, X1, e1, st1⟩ := getS2 X0 hx hZ hown (host := "") (Or.inl (hw _ (List.mem_of_getElem? (i := 137) rfl))) Via.refl e0 f1_COMPACT_STRINGS (g := (mkF m 0 #[.val (.ref xs)] [])) rfl (hb hby d29_0)
  refine Goes.via (S' := (T1.setTop (mkF m 3 #[.val (.ref xs)] [(.int wc)]))) (fun t k => st1 _ k) ?_
  refine Goes.via (S' := (T1.setTop (mkF m 6 #[.val (.ref xs)] []))) (fun t k => XS.ifNo X1.here hx rfl (hb hby d29_3) rfl ((if0 _ _).trans (feq hwc).1) k) ?_
  refine Goes.via (S' := (T1.setTop (mkF m 7 #[.val (.ref xs)] [(.ref xs)]))) (fun t k => XS.aloadN X1.here hx rfl (hb hby d29_6) rfl rfl k) ?_
  obtain ⟨T2, X2, e2, st2⟩ := getF X1 hx hZ hown (host := "") (Or.inl (hw _ (List.mem_of_getElem? (i := 96) rfl))) Via.refl e1 f0_xs_coder (g := (mkF m 7 #[.val (.ref xs)] [(.ref xs)])) rfl rfl (hb hby d29_7)
  refine Goes.via (S' := (T2.setTop (mkF m 10 #[.val (.ref xs)] [(.int (0 : Int32))]))) (fun t k => st2 _ k) ?_
  refine Goes.via (S' := (T2.setTop (mkF m 13 #[.val (.ref xs)] []))) (fun t k => XS.ifNo X2.here hx rfl (hb hby d29_10) rfl ((if0 _ _).trans (teq rfl).2) k) ?_
  refine Goes.via (S' := (T2.setTop (mkF m 14 #[.val (.ref xs)] [(.int (1 : Int32))]))) (fun t k => XS.iconst X2.here hx rfl (hb hby d29_13) k) ?_
  refine Goes.via (S' := (T2.setTop (mkF m 18 #[.val (.ref xs)] [(.int (1 : Int32))]))) (fun t k => XS.goto X2.here hx rfl (pc0 := 14) (pc' := 18) rfl (hb hby d29_14) (by decide) (by decide) k) ?_
  exact own_ret X2 hx Bd.notSynchronized Bd.returns rfl (Or.inl ⟨rfl, by simp, _, rfl⟩) (hb hby d29_18) e2 ⟨rfl, N0, rfl⟩ (by decide) (by decide)
theorem d32_0 : decode jdk_41_method_11_code 0 = .ok (.iload_n 0, 1) := by decide +kernel
theorem d32_1 : decode jdk_41_method_11_code 1 = .ok (.ifCond .lt 8, 3) := by decide +kernel
theorem d32_4 : decode jdk_41_method_11_code 4 = .ok (.iload_n 0, 1) := by decide +kernel
theorem d32_5 : decode jdk_41_method_11_code 5 = .ok (.iload_n 1, 1) := by decide +kernel
theorem d32_6 : decode jdk_41_method_11_code 6 = .ok (.if_icmp .lt 10, 3) := by decide +kernel
theorem d32_16 : decode jdk_41_method_11_code 16 = .ok (.iload_n 0, 1) := by decide +kernel
theorem d32_17 : decode jdk_41_method_11_code 17 = .ok (.ireturn, 1) := by decide +kernel
theorem ef_32 (m : MethodId) (p0 : Int32) (p1 : Int32) (vB : Value) (hr_vB : vB.isRef = true) : entryFrame m #[(.int p0), (.int p1), vB] 3 = mkF m 0 #[.val (.int p0), .val (.int p1), .val vB] [] := by
  rcases ref_cases hr_vB with q_vB | ⟨_, q_vB⟩ <;> subst q_vB <;> first | (simp [entryFrame, mkF, argsToLocals, Value.category]; done) | rfl
def Q32 (Z : State) (p0 : Int32) (p1 : Int32) (vB : Value) (h0 : Heap) (n0 : Nat) (v : Option Value) (h : Heap) (L : List Loc) : Prop := v = some (.int p0) ∧ Fr n0 L ∧ h = h0
set_option maxRecDepth 65536 in
set_option maxHeartbeats 40000000 in
theorem rm32 (l : Launch) (Z : State) (a0 : Array Value) (hw : ∀ d ∈ tables_1, d.before a0 Z = true) (ws : List Jvm.Cond) (p0 : Int32) (p1 : Int32) (vB : Value) (h0 : Heap) (n0 : Nat) (Z0 : n0 ≤ h0.size) (hr_vB : vB.isRef = true) (hb1 : ¬ p0 < 0) (hb2 : p0 < p1) :
    MetFree l (⟨"jdk/internal/util/Preconditions", "checkIndex", "(IILjava/util/function/BiFunction;)I"⟩ : MethodName) (head1 (Jvm.Cond.code (⟨"jdk/internal/util/Preconditions", "checkIndex", "(IILjava/util/function/BiFunction;)I"⟩ : MethodName) jdk_41_method_11_code 3 (some .int) :: ws) ({ frames := 0, cells := 0, slots := 0, locals := 0 } : Room)) (fun a U => a = #[(.int p0), (.int p1), vB] ∧ Z.Warmed39 U.vm ∧ U.heap = h0) (fun _ _ _ _ _ => True) (fun _ U o U' => ∃ v L, o = .returned v ∧ Q32 Z p0 p1 vB h0 n0 v U'.heap L ∧ FrameEnd U o U' L 0 0) := by
  refine MetFree.of_bodySF (plainFor_of_name pn_299) hisR ?_
  intro p e s m args below meth c s₁ Bd hml0 hP hK
  obtain ⟨rfl, hZ, hh⟩ := hP
  have hx := Bd.exec
  have hby := Bd.bytes
  have hml : c.maxLocals = 3 := hml0
  have hown : s.vm.findClass "jdk/internal/util/Preconditions" = some m.cls := findClass_of_methodNamed Bd.named
  have hnm := (name_of_methodNamed Bd.named Bd.method).1
  have X0 : Stand p l e ({ frames := 0, cells := 0, slots := 0, locals := 0 } : Room) s m #[(.int p0), (.int p1), vB] below meth c s₁ [] 0 0 := Stand.of_body Bd
  have e0 : s₁.heap = h0 := by rw [← hh, Bd.state]; rfl
  have N0 := Fr.nil n0
  refine own_start (Q := fun v h L => Q32 Z p0 p1 vB h0 n0 v h L) ?_
  refine Goes.via (S' := (s₁.setTop (mkF m 0 #[.val (.int p0), .val (.int p1), .val vB] []))) (fun t k => castTop (ef_32 m p0 p1 vB hr_vB) k) ?_
  refine Goes.via (S' := (s₁.setTop (mkF m 1 #[.val (.int p0), .val (.int p1), .val vB] [(.int p0)]))) (fun t k => XS.iloadN X0.here hx rfl (hb hby d32_0) rfl k) ?_
  refine Goes.via (S' := (s₁.setTop (mkF m 4 #[.val (.int p0), .val (.int p1), .val vB] []))) (fun t k => XS.ifNo X0.here hx rfl (hb hby d32_1) rfl ((if0 _ _).trans (flt hb1).1) k) ?_
  refine Goes.via (S' := (s₁.setTop (mkF m 5 #[.val (.int p0), .val (.int p1), .val vB] [(.int p0)]))) (fun t k => XS.iloadN X0.here hx rfl (hb hby d32_4) rfl k) ?_
  refine Goes.via (S' := (s₁.setTop (mkF m 6 #[.val (.int p0), .val (.int p1), .val vB] [(.int p1), (.int p0)]))) (fun t k => XS.iloadN X0.here hx rfl (hb hby d32_5) rfl k) ?_
  refine Goes.via (S' := (s₁.setTop (mkF m 16 #[.val (.int p0), .val (.int p1), .val vB] []))) (fun t k => XS.icmpYes X0.here hx rfl (pc0 := 6) (pc' := 16) rfl (hb hby d32_6) rfl (tlt hb2).1 (by decide) (by decide) k) ?_
  refine Goes.via (S' := (s₁.setTop (mkF m 17 #[.val (.int p0), .val (.int p1), .val vB] [(.int p0)]))) (fun t k => XS.iloadN X0.here hx rfl (hb hby d32_16) rfl k) ?_
  exact own_ret X0 hx Bd.notSynchronized Bd.returns rfl (Or.inl ⟨rfl, by simp, _, rfl⟩) (hb hby d32_17) e0 ⟨rfl, N0, rfl⟩ (by decide) (by decide)
theorem d31_0 : decode jdk_42_method_155_code 0 = .ok (.iload_n 0, 1) := by decide +kernel
theorem d31_1 : decode jdk_42_method_155_code 1 = .ok (.iload_n 1, 1) := by decide +kernel
theorem d31_2 : decode jdk_42_method_155_code 2 = .ok (.getstatic 1053, 3) := by decide +kernel
theorem d31_5 : decode jdk_42_method_155_code 5 = .ok (.invokestatic 1059, 3) := by decide +kernel
theorem d31_8 : decode jdk_42_method_155_code 8 = .ok (.pop, 1) := by decide +kernel
theorem d31_9 : decode jdk_42_method_155_code 9 = .ok (.return_, 1) := by decide +kernel
theorem ef_31 (m : MethodId) (p0 : Int32) (p1 : Int32) : entryFrame m #[(.int p0), (.int p1)] 2 = mkF m 0 #[.val (.int p0), .val (.int p1)] [] := by first | (simp [entryFrame, mkF, argsToLocals, Value.category]; done) | rfl
def Q31 (Z : State) (p0 : Int32) (p1 : Int32) (vB : Value) (h0 : Heap) (n0 : Nat) (v : Option Value) (h : Heap) (L : List Loc) : Prop := v = none ∧ Fr n0 L ∧ h = h0
set_option maxRecDepth 65536 in
set_option maxHeartbeats 40000000 in
theorem rm31 (l : Launch) (Z : State) (a0 : Array Value) (hw : ∀ d ∈ tables_1, d.before a0 Z = true) (ws : List Jvm.Cond) (p0 : Int32) (p1 : Int32) (vB : Value) (h0 : Heap) (n0 : Nat) (Z0 : n0 ≤ h0.size) (f0_SIOOBE_FORMATTER : Sta Z h0 "jdk/internal/util/Preconditions" "SIOOBE_FORMATTER" "Ljava/util/function/BiFunction;" vB) (hr_vB : vB.isRef = true) (hb1 : ¬ p0 < 0) (hb2 : p0 < p1) :
    MetFree l (⟨"java/lang/String", "checkIndex", "(II)V"⟩ : MethodName) (head1 (Jvm.Cond.code (⟨"java/lang/String", "checkIndex", "(II)V"⟩ : MethodName) jdk_42_method_155_code 2 none :: ws) ({ frames := 1, cells := 0, slots := 0, locals := 14 } : Room)) (fun a U => a = #[(.int p0), (.int p1)] ∧ Z.Warmed39 U.vm ∧ U.heap = h0) (fun _ _ _ _ _ => True) (fun _ U o U' => ∃ v L, o = .returned v ∧ Q31 Z p0 p1 vB h0 n0 v U'.heap L ∧ FrameEnd U o U' L 0 0) := by
  refine MetFree.of_bodySF (plainFor_of_name pn_200) hisR ?_
  intro p e s m args below meth c s₁ Bd hml0 hP hK
  obtain ⟨rfl, hZ, hh⟩ := hP
  have hx := Bd.exec
  have hby := Bd.bytes
  have hml : c.maxLocals = 2 := hml0
  have hown : s.vm.findClass "java/lang/String" = some m.cls := findClass_of_methodNamed Bd.named
  have hnm := (name_of_methodNamed Bd.named Bd.method).1
  have X0 : Stand p l e ({ frames := 1, cells := 0, slots := 0, locals := 14 } : Room) s m #[(.int p0), (.int p1)] below meth c s₁ [] 0 0 := Stand.of_body Bd
  have e0 : s₁.heap = h0 := by rw [← hh, Bd.state]; rfl
  have N0 := Fr.nil n0
  refine own_start (Q := fun v h L => Q31 Z p0 p1 vB h0 n0 v h L) ?_
  refine Goes.via (S' := (s₁.setTop (mkF m 0 #[.val (.int p0), .val (.int p1)] []))) (fun t k => castTop (ef_31 m p0 p1) k) ?_
  refine Goes.via (S' := (s₁.setTop (mkF m 1 #[.val (.int p0), .val (.int p1)] [(.int p0)]))) (fun t k => XS.iloadN X0.here hx rfl (hb hby d31_0) rfl k) ?_
  refine Goes.via (S' := (s₁.setTop (mkF m 2 #[.val (.int p0), .val (.int p1)] [(.int p1), (.int p0)]))) (fun t k => XS.iloadN X0.here hx rfl (hb hby d31_1) rfl k) ?_
  obtain ⟨T1, X1, e1, st1⟩ := getS2 X0 hx hZ hown (host := "") (Or.inl (hw _ (List.mem_of_getElem? (i := 161) rfl))) Via.refl e0 f0_SIOOBE_FORMATTER (g := (mkF m 2 #[.val (.int p0), .val (.int p1)] [(.int p1), (.int p0)])) rfl (hb hby d31_2)
  refine Goes.via (S' := (T1.setTop (mkF m 5 #[.val (.int p0), .val (.int p1)] [vB, (.int p1), (.int p0)]))) (fun t k => st1 _ k) ?_
  obtain ⟨_, _, ⟨T2, L2, k2, n2⟩, -, X2, ⟨Lc2, hQ2, l2, y2, z2⟩, st2⟩ := Jvm.LawKit.callS X1 hx (y := (⟨"jdk/internal/util/Preconditions", "checkIndex", "(IILjava/util/function/BiFunction;)I"⟩ : MethodName)) hown (mvT hZ (hw _ (List.mem_of_getElem? (i := 163) rfl))) (mvT hZ (hw _ (List.mem_of_getElem? (i := 164) rfl))) (mvT hZ (hw _ (List.mem_of_getElem? (i := 162) rfl))) (mvT hZ (hw _ (List.mem_of_getElem? (i := 165) rfl))) (by decide) (backOf (W := 0) (rm32 l Z a0 hw [] p0 p1 vB h0 n0 Z0 hr_vB hb1 hb2) hZ (hw _ (List.mem_of_getElem? (i := 165) rfl)) (hw _ (List.mem_of_getElem? (i := 162) rfl)) (by decide) (by decide)) (g := (mkF m 5 #[.val (.int p0), .val (.int p1)] [vB, (.int p1), (.int p0)])) rfl (by rw [hml]; rfl) (argsL := [(.int p0), (.int p1), vB]) (rest := []) (lenOf pd_15 rfl) rfl (by show 2 * 0 + _ ≤ _; exact Nat.le_of_eq rfl) (hb hby d31_5) (fun _ _ => ⟨rfl, e1, (by decide : 0 + 0 ≤ _), (by decide : 0 + 0 ≤ _)⟩)
  dsimp only [Pt.U, Pt.locs, Pt.cells, Pt.slots] at X2 l2 y2 z2 st2 hQ2
  replace X2 := own_cast X2 l2 y2 z2
  obtain ⟨rfl, N2q, eq2⟩ := hQ2
  have N2 := Fr.app N0 N2q
  refine Goes.via (S' := (T2.setTop (mkF m 8 #[.val (.int p0), .val (.int p1)] [(.int p0)]))) (fun t k => st2 _ k) ?_
  refine Goes.via (S' := (T2.setTop (mkF m 9 #[.val (.int p0), .val (.int p1)] []))) (fun t k => XS.pop X2.here hx rfl (hb hby d31_8) rfl rfl k) ?_
  exact own_retV X2 hx Bd.notSynchronized Bd.returns (hb hby d31_9) eq2 ⟨rfl, N2, rfl⟩ (by decide) (by decide)
theorem d30_0 : decode jdk_43_method_2_code 0 = .ok (.iload_n 1, 1) := by decide +kernel
theorem d30_1 : decode jdk_43_method_2_code 1 = .ok (.aload_n 0, 1) := by decide +kernel
theorem d30_2 : decode jdk_43_method_2_code 2 = .ok (.arraylength, 1) := by decide +kernel
theorem d30_3 : decode jdk_43_method_2_code 3 = .ok (.invokestatic 9, 3) := by decide +kernel
theorem d30_6 : decode jdk_43_method_2_code 6 = .ok (.aload_n 0, 1) := by decide +kernel
theorem d30_7 : decode jdk_43_method_2_code 7 = .ok (.iload_n 1, 1) := by decide +kernel
theorem d30_8 : decode jdk_43_method_2_code 8 = .ok (.baload, 1) := by decide +kernel
theorem d30_9 : decode jdk_43_method_2_code 9 = .ok (.sipush 255, 3) := by decide +kernel
theorem d30_12 : decode jdk_43_method_2_code 12 = .ok (.iand, 1) := by decide +kernel
theorem d30_13 : decode jdk_43_method_2_code 13 = .ok (.i2c, 1) := by decide +kernel
theorem d30_14 : decode jdk_43_method_2_code 14 = .ok (.ireturn, 1) := by decide +kernel
theorem ef_30 (m : MethodId) (ya : Addr) (p1 : Int32) : entryFrame m #[(.ref ya), (.int p1)] 2 = mkF m 0 #[.val (.ref ya), .val (.int p1)] [] := by first | (simp [entryFrame, mkF, argsToLocals, Value.category]; done) | rfl
def Q30 (Z : State) (ya : Addr) (p1 : Int32) (kn : ClassId) (zn : Int32) (vn : List Value) (cc : Int32) (vB : Value) (h0 : Heap) (n0 : Nat) (v : Option Value) (h : Heap) (L : List Loc) : Prop := v = some (.int (own_ch cc)) ∧ Fr n0 L ∧ h = h0
set_option maxRecDepth 65536 in
set_option maxHeartbeats 40000000 in
theorem rm30 (l : Launch) (Z : State) (a0 : Array Value) (hw : ∀ d ∈ tables_1, d.before a0 Z = true) (ws : List Jvm.Cond) (ya : Addr) (p1 : Int32) (kn : ClassId) (zn : Int32) (vn : List Value) (cc : Int32) (vB : Value) (h0 : Heap) (n0 : Nat) (Z0 : n0 ≤ h0.size) (f0_ya : Arv Z h0 ya kn .byte zn vn (.int (0 : Int32))) (f1_SIOOBE_FORMATTER : Sta Z h0 "jdk/internal/util/Preconditions" "SIOOBE_FORMATTER" "Ljava/util/function/BiFunction;" vB) (hr_vB : vB.isRef = true) (hb1 : ¬ p1 < 0) (hb2 : p1 < zn) (hat : vn.getD p1.toNatClampNeg (.int (0 : Int32)) = (.int cc)) :
    MetFree l (⟨"java/lang/StringLatin1", "charAt", "([BI)C"⟩ : MethodName) (head1 (Jvm.Cond.code (⟨"java/lang/StringLatin1", "charAt", "([BI)C"⟩ : MethodName) jdk_43_method_2_code 2 (some .char) :: ws) ({ frames := 2, cells := 0, slots := 0, locals := 27 } : Room)) (fun a U => a = #[(.ref ya), (.int p1)] ∧ Z.Warmed39 U.vm ∧ U.heap = h0) (fun _ _ _ _ _ => True) (fun _ U o U' => ∃ v L, o = .returned v ∧ Q30 Z ya p1 kn zn vn cc vB h0 n0 v U'.heap L ∧ FrameEnd U o U' L 0 0) := by
  refine MetFree.of_bodySF (plainFor_of_name pn_42) hisR ?_
  intro p e s m args below meth c s₁ Bd hml0 hP hK
  obtain ⟨rfl, hZ, hh⟩ := hP
  have hx := Bd.exec
  have hby := Bd.bytes
  have hml : c.maxLocals = 2 := hml0
  have hown : s.vm.findClass "java/lang/StringLatin1" = some m.cls := findClass_of_methodNamed Bd.named
  have hnm := (name_of_methodNamed Bd.named Bd.method).1
  have X0 : Stand p l e ({ frames := 2, cells := 0, slots := 0, locals := 27 } : Room) s m #[(.ref ya), (.int p1)] below meth c s₁ [] 0 0 := Stand.of_body Bd
  have e0 : s₁.heap = h0 := by rw [← hh, Bd.state]; rfl
  have N0 := Fr.nil n0
  refine own_start (Q := fun v h L => Q30 Z ya p1 kn zn vn cc vB h0 n0 v h L) ?_
  refine Goes.via (S' := (s₁.setTop (mkF m 0 #[.val (.ref ya), .val (.int p1)] []))) (fun t k => castTop (ef_30 m ya p1) k) ?_
  refine Goes.via (S' := (s₁.setTop (mkF m 1 #[.val (.ref ya), .val (.int p1)] [(.int p1)]))) (fun t k => XS.iloadN X0.here hx rfl (hb hby d30_0) rfl k) ?_
  refine Goes.via (S' := (s₁.setTop (mkF m 2 #[.val (.ref ya), .val (.int p1)] [(.ref ya), (.int p1)]))) (fun t k => XS.aloadN X0.here hx rfl (hb hby d30_1) rfl rfl k) ?_
  obtain ⟨cl1, Ar1, q1, S1, M1, Hs1, G1⟩ := id f0_ya
  refine Goes.via (S' := (s₁.setTop (mkF m 3 #[.val (.ref ya), .val (.int p1)] [(.int zn), (.int p1)]))) (fun t k => X0.arraylength hx (by rw [e0]; exact Ar1.1) (State.isArrayOf_alike hZ.alike Ar1.2.1) (g := (mkF m 2 #[.val (.ref ya), .val (.int p1)] [(.ref ya), (.int p1)])) rfl rfl (hb hby d30_2) _ (by rw [len_of S1 M1]; exact k)) ?_
  obtain ⟨_, _, ⟨T2, L2, k2, n2⟩, -, X2, ⟨Lc2, hQ2, l2, y2, z2⟩, st2⟩ := Jvm.LawKit.callS X0 hx (y := (⟨"java/lang/String", "checkIndex", "(II)V"⟩ : MethodName)) hown (mvT hZ (hw _ (List.mem_of_getElem? (i := 158) rfl))) (mvT hZ (hw _ (List.mem_of_getElem? (i := 159) rfl))) (mvT hZ (hw _ (List.mem_of_getElem? (i := 23) rfl))) (mvT hZ (hw _ (List.mem_of_getElem? (i := 160) rfl))) (by decide) (backOf (W := 0) (rm31 l Z a0 hw [] p1 zn vB h0 n0 Z0 f1_SIOOBE_FORMATTER hr_vB hb1 hb2) hZ (hw _ (List.mem_of_getElem? (i := 160) rfl)) (hw _ (List.mem_of_getElem? (i := 23) rfl)) (by decide) (by decide)) (g := (mkF m 3 #[.val (.ref ya), .val (.int p1)] [(.int zn), (.int p1)])) rfl (by rw [hml]; rfl) (argsL := [(.int p1), (.int zn)]) (rest := []) (lenOf pd_7 rfl) rfl (by show 2 * 0 + _ ≤ _; exact Nat.le_of_eq rfl) (hb hby d30_3) (fun _ _ => ⟨rfl, e0, (by decide : 0 + 0 ≤ _), (by decide : 0 + 0 ≤ _)⟩)
  dsimp only [Pt.U, Pt.locs, Pt.cells, Pt.slots] at X2 l2 y2 z2 st2 hQ2
  replace X2 := own_cast X2 l2 y2 z2
  obtain ⟨rfl, N2q, eq2⟩ := hQ2
  have N2 := Fr.app N0 N2q
  refine Goes.via (S' := (T2.setTop (mkF m 6 #[.val (.ref ya), .val (.int p1)] []))) (fun t k => st2 _ k) ?_
  refine Goes.via (S' := (T2.setTop (mkF m 7 #[.val (.ref ya), .val (.int p1)] [(.ref ya)]))) (fun t k => XS.aloadN X2.here hx rfl (hb hby d30_6) rfl rfl k) ?_
  refine Goes.via (S' := (T2.setTop (mkF m 8 #[.val (.ref ya), .val (.int p1)] [(.int p1), (.ref ya)]))) (fun t k => XS.iloadN X2.here hx rfl (hb hby d30_7) rfl k) ?_
  obtain ⟨cl3, Ar3, q3, S3, M3, Hs3, G3⟩ := id f0_ya
  have hin3 : ¬ (p1 < 0 ∨ cl3.slots.size ≤ (p1).toNatClampNeg) := inb_of S3 ⟨hb1, hb2⟩
  have hat3 : cl3.slots[(p1).toNatClampNeg]? = some (.int cc) := Has.at Hs3 hin3 hat
  refine Goes.via (S' := (T2.setTop (mkF m 9 #[.val (.ref ya), .val (.int p1)] [(.int cc)]))) (fun t k => X2.baloadBytes hx (j := p1) (v := (.int cc)) (by rw [eq2]; exact Ar3.1) (State.isArrayOf_alike hZ.alike Ar3.2.1) Ar3.2.2 hin3 hat3 (g := (mkF m 8 #[.val (.ref ya), .val (.int p1)] [(.int p1), (.ref ya)])) rfl rfl (hb hby d30_8) _ k) ?_
  refine Goes.via (S' := (T2.setTop (mkF m 12 #[.val (.ref ya), .val (.int p1)] [(.int (255 : Int32)), (.int cc)]))) (fun t k => XS.sipush X2.here hx rfl (hb hby d30_9) k) ?_
  refine Goes.via (S' := (T2.setTop (mkF m 13 #[.val (.ref ya), .val (.int p1)] [(.int (cc &&& (255 : Int32)))]))) (fun t k => XS.iand X2.here hx rfl (hb hby d30_12) rfl k) ?_
  refine Goes.via (S' := (T2.setTop (mkF m 14 #[.val (.ref ya), .val (.int p1)] [(.int ((cc &&& (255 : Int32)).toUInt32.toUInt16.toUInt32.toInt32))]))) (fun t k => XS.i2c X2.here hx rfl (hb hby d30_13) rfl k) ?_
  exact own_ret X2 hx Bd.notSynchronized Bd.returns (own_chN cc) (Or.inl ⟨rfl, by simp, _, rfl⟩) (hb hby d30_14) eq2 ⟨rfl, N2, rfl⟩ (by decide) (by decide)
theorem d28_0 : decode jdk_42_method_56_code 0 = .ok (.aload_n 0, 1) := by decide +kernel
theorem d28_1 : decode jdk_42_method_56_code 1 = .ok (.invokevirtual 492, 3) := by decide +kernel
theorem d28_4 : decode jdk_42_method_56_code 4 = .ok (.ifCond .eq 12, 3) := by decide +kernel
theorem d28_7 : decode jdk_42_method_56_code 7 = .ok (.aload_n 0, 1) := by decide +kernel
theorem d28_8 : decode jdk_42_method_56_code 8 = .ok (.getfield 9, 3) := by decide +kernel
theorem d28_11 : decode jdk_42_method_56_code 11 = .ok (.iload_n 1, 1) := by decide +kernel
theorem d28_12 : decode jdk_42_method_56_code 12 = .ok (.invokestatic 495, 3) := by decide +kernel
theorem d28_15 : decode jdk_42_method_56_code 15 = .ok (.ireturn, 1) := by decide +kernel
theorem ef_28 (m : MethodId) (xs : Addr) (p1 : Int32) : entryFrame m #[(.ref xs), (.int p1)] 2 = mkF m 0 #[.val (.ref xs), .val (.int p1)] [] := by first | (simp [entryFrame, mkF, argsToLocals, Value.category]; done) | rfl
def Q28 (Z : State) (xs : Addr) (p1 : Int32) (yn : Addr) (kn : ClassId) (vn : List Value) (zn : Int32) (cc : Int32) (wc : Int32) (vB : Value) (h0 : Heap) (n0 : Nat) (v : Option Value) (h : Heap) (L : List Loc) : Prop := v = some (.int (own_ch cc)) ∧ Fr n0 L ∧ h = h0
set_option maxRecDepth 65536 in
set_option maxHeartbeats 40000000 in
theorem rm28 (l : Launch) (Z : State) (a0 : Array Value) (hw : ∀ d ∈ tables_1, d.before a0 Z = true) (ws : List Jvm.Cond) (xs : Addr) (p1 : Int32) (yn : Addr) (kn : ClassId) (vn : List Value) (zn : Int32) (cc : Int32) (wc : Int32) (vB : Value) (h0 : Heap) (n0 : Nat) (Z0 : n0 ≤ h0.size) (f0_xs : Exa Z h0 xs "java/lang/String") (f1_xs_coder : Fld Z h0 xs "java/lang/String" "coder" "B" (.int (0 : Int32))) (f2_xs_value : Fld Z h0 xs "java/lang/String" "value" "[B" (.ref yn)) (f3_yn : Arv Z h0 yn kn .byte zn vn (.int (0 : Int32))) (f4_COMPACT_STRINGS : Sta Z h0 "java/lang/String" "COMPACT_STRINGS" "Z" (.int wc)) (f5_SIOOBE_FORMATTER : Sta Z h0 "jdk/internal/util/Preconditions" "SIOOBE_FORMATTER" "Ljava/util/function/BiFunction;" vB) (hwc : ¬ wc = (0 : Int32)) (hr_vB : vB.isRef = true) (hb1 : ¬ p1 < 0) (hb2 : p1 < zn) (hat : vn.getD p1.toNatClampNeg (.int (0 : Int32)) = (.int cc)) :
    MetFree l (⟨"java/lang/String", "charAt", "(I)C"⟩ : MethodName) (head1 (Jvm.Cond.code (⟨"java/lang/String", "charAt", "(I)C"⟩ : MethodName) jdk_42_method_56_code 2 (some .char) :: ws) ({ frames := 3, cells := 0, slots := 0, locals := 40 } : Room)) (fun a U => a = #[(.ref xs), (.int p1)] ∧ Z.Warmed39 U.vm ∧ U.heap = h0) (fun _ _ _ _ _ => True) (fun _ U o U' => ∃ v L, o = .returned v ∧ Q28 Z xs p1 yn kn vn zn cc wc vB h0 n0 v U'.heap L ∧ FrameEnd U o U' L 0 0) := by
  refine MetFree.of_bodySF (plainFor_of_name pn_200) hisR ?_
  intro p e s m args below meth c s₁ Bd hml0 hP hK
  obtain ⟨rfl, hZ, hh⟩ := hP
  have hx := Bd.exec
  have hby := Bd.bytes
  have hml : c.maxLocals = 2 := hml0
  have hown : s.vm.findClass "java/lang/String" = some m.cls := findClass_of_methodNamed Bd.named
  have hnm := (name_of_methodNamed Bd.named Bd.method).1
  have X0 : Stand p l e ({ frames := 3, cells := 0, slots := 0, locals := 40 } : Room) s m #[(.ref xs), (.int p1)] below meth c s₁ [] 0 0 := Stand.of_body Bd
  have e0 : s₁.heap = h0 := by rw [← hh, Bd.state]; rfl
  have N0 := Fr.nil n0
  refine own_start (Q := fun v h L => Q28 Z xs p1 yn kn vn zn cc wc vB h0 n0 v h L) ?_
  refine Goes.via (S' := (s₁.setTop (mkF m 0 #[.val (.ref xs), .val (.int p1)] []))) (fun t k => castTop (ef_28 m xs p1) k) ?_
  refine Goes.via (S' := (s₁.setTop (mkF m 1 #[.val (.ref xs), .val (.int p1)] [(.ref xs)]))) (fun t k => XS.aloadN X0.here hx rfl (hb hby d28_0) rfl rfl k) ?_
  obtain ⟨cq1, kq1, q1a, q1b, q1c⟩ := isOf hZ e0 f0_xs
  obtain ⟨_, _, ⟨T1, L1, k1, n1⟩, -, X1, ⟨Lc1, hQ1, l1, y1, z1⟩, st1⟩ := X0.virtualBack hx (y := (⟨"java/lang/String", "isLatin1", "()Z"⟩ : MethodName)) (z := (⟨"java/lang/String", "isLatin1", "()Z"⟩ : MethodName)) hown (mvT hZ (hw _ (List.mem_of_getElem? (i := 150) rfl))) (mvT hZ (hw _ (List.mem_of_getElem? (i := 151) rfl))) (notFace_of_selects (args := #[]) (mvT hZ (hw _ (List.mem_of_getElem? (i := 153) rfl)))) (mvT hZ (hw _ (List.mem_of_getElem? (i := 153) rfl))) (mvT hZ (hw _ (List.mem_of_getElem? (i := 152) rfl))) (by decide) (backOf (W := 0) (rm29 l Z a0 hw [] xs wc h0 n0 Z0 f1_xs_coder f4_COMPACT_STRINGS hwc) hZ (hw _ (List.mem_of_getElem? (i := 154) rfl)) (hw _ (List.mem_of_getElem? (i := 23) rfl)) (by decide) (by decide)) q1a q1c (g := (mkF m 1 #[.val (.ref xs), .val (.int p1)] [(.ref xs)])) rfl (by rw [hml]; rfl) (Steps.refl _) (argsL := []) (rest := []) (lenOf pd_2 rfl) rfl (by show 2 * 0 + _ ≤ _; exact Nat.le_of_eq rfl) (hb hby d28_1) (fun _ _ => ⟨rfl, e0, (by decide : 0 + 0 ≤ _), (by decide : 0 + 0 ≤ _)⟩)
  dsimp only [Pt.U, Pt.locs, Pt.cells, Pt.slots] at X1 l1 y1 z1 st1 hQ1
  replace X1 := own_cast X1 l1 y1 z1
  obtain ⟨rfl, N1q, eq1⟩ := hQ1
  have N1 := Fr.app N0 N1q
  refine Goes.via (S' := (T1.setTop (mkF m 4 #[.val (.ref xs), .val (.int p1)] [(.int (1 : Int32))]))) (fun t k => st1.trans k) ?_
  refine Goes.via (S' := (T1.setTop (mkF m 7 #[.val (.ref xs), .val (.int p1)] []))) (fun t k => XS.ifNo X1.here hx rfl (hb hby d28_4) rfl ((if0 _ _).trans (feq (by decide : ¬ ((1 : Int32) = (0 : Int32)))).1) k) ?_
  refine Goes.via (S' := (T1.setTop (mkF m 8 #[.val (.ref xs), .val (.int p1)] [(.ref xs)]))) (fun t k => XS.aloadN X1.here hx rfl (hb hby d28_7) rfl rfl k) ?_
  obtain ⟨T2, X2, e2, st2⟩ := getF X1 hx hZ hown (host := "") (Or.inl (hw _ (List.mem_of_getElem? (i := 116) rfl))) Via.refl eq1 f2_xs_value (g := (mkF m 8 #[.val (.ref xs), .val (.int p1)] [(.ref xs)])) rfl rfl (hb hby d28_8)
  refine Goes.via (S' := (T2.setTop (mkF m 11 #[.val (.ref xs), .val (.int p1)] [(.ref yn)]))) (fun t k => st2 _ k) ?_
  refine Goes.via (S' := (T2.setTop (mkF m 12 #[.val (.ref xs), .val (.int p1)] [(.int p1), (.ref yn)]))) (fun t k => XS.iloadN X2.here hx rfl (hb hby d28_11) rfl k) ?_
  obtain ⟨_, _, ⟨T3, L3, k3, n3⟩, -, X3, ⟨Lc3, hQ3, l3, y3, z3⟩, st3⟩ := Jvm.LawKit.callS X2 hx (y := (⟨"java/lang/StringLatin1", "charAt", "([BI)C"⟩ : MethodName)) hown (mvT hZ (hw _ (List.mem_of_getElem? (i := 155) rfl))) (mvT hZ (hw _ (List.mem_of_getElem? (i := 156) rfl))) (mvT hZ (hw _ (List.mem_of_getElem? (i := 60) rfl))) (mvT hZ (hw _ (List.mem_of_getElem? (i := 157) rfl))) (by decide) (backOf (W := 0) (rm30 l Z a0 hw [] yn p1 kn zn vn cc vB h0 n0 Z0 f3_yn f5_SIOOBE_FORMATTER hr_vB hb1 hb2 hat) hZ (hw _ (List.mem_of_getElem? (i := 157) rfl)) (hw _ (List.mem_of_getElem? (i := 60) rfl)) (by decide) (by decide)) (g := (mkF m 12 #[.val (.ref xs), .val (.int p1)] [(.int p1), (.ref yn)])) rfl (by rw [hml]; rfl) (argsL := [(.ref yn), (.int p1)]) (rest := []) (lenOf pd_16 rfl) rfl (by show 2 * 0 + _ ≤ _; exact Nat.le_of_eq rfl) (hb hby d28_12) (fun _ _ => ⟨rfl, e2, (by decide : 0 + 0 ≤ _), (by decide : 0 + 0 ≤ _)⟩)
  dsimp only [Pt.U, Pt.locs, Pt.cells, Pt.slots] at X3 l3 y3 z3 st3 hQ3
  replace X3 := own_cast X3 l3 y3 z3
  obtain ⟨rfl, N3q, eq3⟩ := hQ3
  have N3 := Fr.app N1 N3q
  refine Goes.via (S' := (T3.setTop (mkF m 15 #[.val (.ref xs), .val (.int p1)] [(.int (own_ch cc))]))) (fun t k => st3 _ k) ?_
  exact own_ret X3 hx Bd.notSynchronized Bd.returns (own_chN cc) (Or.inl ⟨rfl, by simp, _, rfl⟩) (hb hby d28_15) eq3 ⟨rfl, N3, rfl⟩ (by decide) (by decide)
theorem d27_0 : decode method_5_code 0 = .ok (.iload 5, 2) := by decide +kernel
theorem d27_2 : decode method_5_code 2 = .ok (.iload 4, 2) := by decide +kernel
theorem d27_4 : decode method_5_code 4 = .ok (.if_icmp .lt 5, 3) := by decide +kernel
theorem d27_7 : decode method_5_code 7 = .ok (.iconst 1, 1) := by decide +kernel
theorem d27_8 : decode method_5_code 8 = .ok (.ireturn, 1) := by decide +kernel
theorem d27_9 : decode method_5_code 9 = .ok (.lload_n 2, 1) := by decide +kernel
theorem d27_10 : decode method_5_code 10 = .ok (.iconst 5, 1) := by decide +kernel
theorem d27_11 : decode method_5_code 11 = .ok (.iload 5, 2) := by decide +kernel
theorem d27_13 : decode method_5_code 13 = .ok (.imul, 1) := by decide +kernel
theorem d27_14 : decode method_5_code 14 = .ok (.lshr, 1) := by decide +kernel
theorem d27_15 : decode method_5_code 15 = .ok (.lstore 6, 2) := by decide +kernel
theorem d27_17 : decode method_5_code 17 = .ok (.iload 5, 2) := by decide +kernel
theorem d27_19 : decode method_5_code 19 = .ok (.iload 4, 2) := by decide +kernel
theorem d27_21 : decode method_5_code 21 = .ok (.iconst 1, 1) := by decide +kernel
theorem d27_22 : decode method_5_code 22 = .ok (.isub, 1) := by decide +kernel
theorem d27_23 : decode method_5_code 23 = .ok (.if_icmp .ne 16, 3) := by decide +kernel
theorem d27_26 : decode method_5_code 26 = .ok (.ldc2_w 54, 3) := by decide +kernel
theorem d27_29 : decode method_5_code 29 = .ok (.lload 6, 2) := by decide +kernel
theorem d27_31 : decode method_5_code 31 = .ok (.ladd, 1) := by decide +kernel
theorem d27_32 : decode method_5_code 32 = .ok (.l2i, 1) := by decide +kernel
theorem d27_33 : decode method_5_code 33 = .ok (.i2c, 1) := by decide +kernel
theorem d27_34 : decode method_5_code 34 = .ok (.istore 8, 2) := by decide +kernel
theorem d27_36 : decode method_5_code 36 = .ok (.goto 17, 3) := by decide +kernel
theorem d27_39 : decode method_5_code 39 = .ok (.ldc2_w 56, 3) := by decide +kernel
theorem d27_42 : decode method_5_code 42 = .ok (.lload 6, 2) := by decide +kernel
theorem d27_44 : decode method_5_code 44 = .ok (.ldc2_w 58, 3) := by decide +kernel
theorem d27_47 : decode method_5_code 47 = .ok (.land, 1) := by decide +kernel
theorem d27_48 : decode method_5_code 48 = .ok (.ladd, 1) := by decide +kernel
theorem d27_49 : decode method_5_code 49 = .ok (.l2i, 1) := by decide +kernel
theorem d27_50 : decode method_5_code 50 = .ok (.i2c, 1) := by decide +kernel
theorem d27_51 : decode method_5_code 51 = .ok (.istore 8, 2) := by decide +kernel
theorem d27_53 : decode method_5_code 53 = .ok (.aload_n 0, 1) := by decide +kernel
theorem d27_54 : decode method_5_code 54 = .ok (.iload_n 1, 1) := by decide +kernel
theorem d27_55 : decode method_5_code 55 = .ok (.iload 5, 2) := by decide +kernel
theorem d27_57 : decode method_5_code 57 = .ok (.iadd, 1) := by decide +kernel
theorem d27_58 : decode method_5_code 58 = .ok (.invokevirtual 60, 3) := by decide +kernel
theorem d27_61 : decode method_5_code 61 = .ok (.iload 8, 2) := by decide +kernel
theorem d27_63 : decode method_5_code 63 = .ok (.if_icmp .ne 7, 3) := by decide +kernel
theorem d27_66 : decode method_5_code 66 = .ok (.iconst 1, 1) := by decide +kernel
theorem d27_67 : decode method_5_code 67 = .ok (.goto 4, 3) := by decide +kernel
theorem d27_71 : decode method_5_code 71 = .ok (.ireturn, 1) := by decide +kernel
theorem ef_27 (m : MethodId) (xs : Addr) (p1 : Int32) (q2 : Int64) (p3 : Int32) (p4 : Int32) : entryFrame m #[(.ref xs), (.int p1), (.long q2), (.int p3), (.int p4)] 9 = mkF m 0 #[.val (.ref xs), .val (.int p1), .val (.long q2), .second, .val (.int p3), .val (.int p4), .unset, .unset, .unset] [] := by first | (simp [entryFrame, mkF, argsToLocals, Value.category]; done) | rfl
def Q27 (Z : State) (xs : Addr) (p1 : Int32) (q2 : Int64) (p3 : Int32) (p4 : Int32) (yn : Addr) (kn : ClassId) (vn : List Value) (zn : Int32) (wc : Int32) (vB : Value) (cc : Int32) (h0 : Heap) (n0 : Nat) (v : Option Value) (h : Heap) (L : List Loc) : Prop := v = some (.int (1 : Int32)) ∧ Fr n0 L ∧ h = h0
set_option maxRecDepth 65536 in
set_option maxHeartbeats 40000000 in
theorem rm27 (l : Launch) (Z : State) (a0 : Array Value) (hw : ∀ d ∈ tables_1, d.before a0 Z = true) (ws : List Jvm.Cond) (xs : Addr) (p1 : Int32) (q2 : Int64) (p3 : Int32) (p4 : Int32) (yn : Addr) (kn : ClassId) (vn : List Value) (zn : Int32) (wc : Int32) (vB : Value) (cc : Int32) (h0 : Heap) (n0 : Nat) (Z0 : n0 ≤ h0.size) (f0_xs : Exa Z h0 xs "java/lang/String") (f1_xs_coder : Fld Z h0 xs "java/lang/String" "coder" "B" (.int (0 : Int32))) (f2_xs_value : Fld Z h0 xs "java/lang/String" "value" "[B" (.ref yn)) (f3_yn : Arv Z h0 yn kn .byte zn vn (.int (0 : Int32))) (f4_COMPACT_STRINGS : Sta Z h0 "java/lang/String" "COMPACT_STRINGS" "Z" (.int wc)) (f5_SIOOBE_FORMATTER : Sta Z h0 "jdk/internal/util/Preconditions" "SIOOBE_FORMATTER" "Ljava/util/function/BiFunction;" vB) (hwc : ¬ wc = (0 : Int32)) (hr_vB : vB.isRef = true) (hd : p4 < p3 → (¬ (p1 + p4) < 0 ∧ (p1 + p4) < zn ∧ vn.getD (p1 + p4).toNatClampNeg (.int (0 : Int32)) = (.int cc) ∧ own_ch cc = (if (p4 = (p3 - (1 : Int32))) then ((((35 : Int64) + (q2 >>> (((5 : Int32) * p4) &&& 0x3f).toInt64)).toInt32).toUInt32.toUInt16.toUInt32.toInt32) else ((((93 : Int64) + ((q2 >>> (((5 : Int32) * p4) &&& 0x3f).toInt64) &&& (31 : Int64))).toInt32).toUInt32.toUInt16.toUInt32.toInt32)))) :
    MetFree l (⟨"com/example/parsewright/parsewright/runtime/WriterNumberPinLaw", "digit", "(Ljava/lang/String;IJII)Z"⟩ : MethodName) (head1 (Jvm.Cond.code (⟨"com/example/parsewright/parsewright/runtime/WriterNumberPinLaw", "digit", "(Ljava/lang/String;IJII)Z"⟩ : MethodName) method_5_code 9 (some .boolean) :: ws) ({ frames := 4, cells := 0, slots := 0, locals := 53 } : Room)) (fun a U => a = #[(.ref xs), (.int p1), (.long q2), (.int p3), (.int p4)] ∧ Z.Warmed39 U.vm ∧ U.heap = h0) (fun _ _ _ _ _ => True) (fun _ U o U' => ∃ v L, o = .returned v ∧ Q27 Z xs p1 q2 p3 p4 yn kn vn zn wc vB cc h0 n0 v U'.heap L ∧ FrameEnd U o U' L 0 0) := by
  refine MetFree.of_bodySF (plainFor_of_name pn_232) hisR ?_
  intro p e s m args below meth c s₁ Bd hml0 hP hK
  obtain ⟨rfl, hZ, hh⟩ := hP
  have hx := Bd.exec
  have hby := Bd.bytes
  have hml : c.maxLocals = 9 := hml0
  have hown : s.vm.findClass "com/example/parsewright/parsewright/runtime/WriterNumberPinLaw" = some m.cls := findClass_of_methodNamed Bd.named
  have hnm := (name_of_methodNamed Bd.named Bd.method).1
  have X0 : Stand p l e ({ frames := 4, cells := 0, slots := 0, locals := 53 } : Room) s m #[(.ref xs), (.int p1), (.long q2), (.int p3), (.int p4)] below meth c s₁ [] 0 0 := Stand.of_body Bd
  have e0 : s₁.heap = h0 := by rw [← hh, Bd.state]; rfl
  have N0 := Fr.nil n0
  refine own_start (Q := fun v h L => Q27 Z xs p1 q2 p3 p4 yn kn vn zn wc vB cc h0 n0 v h L) ?_
  refine Goes.via (S' := (s₁.setTop (mkF m 0 #[.val (.ref xs), .val (.int p1), .val (.long q2), .second, .val (.int p3), .val (.int p4), .unset, .unset, .unset] []))) (fun t k => castTop (ef_27 m xs p1 q2 p3 p4) k) ?_
  refine Goes.via (S' := (s₁.setTop (mkF m 2 #[.val (.ref xs), .val (.int p1), .val (.long q2), .second, .val (.int p3), .val (.int p4), .unset, .unset, .unset] [(.int p4)]))) (fun t k => XS.iload X0.here hx rfl (hb hby d27_0) rfl k) ?_
  refine Goes.via (S' := (s₁.setTop (mkF m 4 #[.val (.ref xs), .val (.int p1), .val (.long q2), .second, .val (.int p3), .val (.int p4), .unset, .unset, .unset] [(.int p3), (.int p4)]))) (fun t k => XS.iload X0.here hx rfl (hb hby d27_2) rfl k) ?_
  by_cases hc1 : (p4 < p3)
  · refine Goes.via (S' := (s₁.setTop (mkF m 9 #[.val (.ref xs), .val (.int p1), .val (.long q2), .second, .val (.int p3), .val (.int p4), .unset, .unset, .unset] []))) (fun t k => XS.icmpYes X0.here hx rfl (pc0 := 4) (pc' := 9) rfl (hb hby d27_4) rfl (tlt hc1).1 (by decide) (by decide) k) ?_
    refine Goes.via (S' := (s₁.setTop (mkF m 10 #[.val (.ref xs), .val (.int p1), .val (.long q2), .second, .val (.int p3), .val (.int p4), .unset, .unset, .unset] [(.long q2)]))) (fun t k => XS.lloadN X0.here hx rfl (hb hby d27_9) rfl k) ?_
    refine Goes.via (S' := (s₁.setTop (mkF m 11 #[.val (.ref xs), .val (.int p1), .val (.long q2), .second, .val (.int p3), .val (.int p4), .unset, .unset, .unset] [(.int (5 : Int32)), (.long q2)]))) (fun t k => XS.iconst X0.here hx rfl (hb hby d27_10) k) ?_
    refine Goes.via (S' := (s₁.setTop (mkF m 13 #[.val (.ref xs), .val (.int p1), .val (.long q2), .second, .val (.int p3), .val (.int p4), .unset, .unset, .unset] [(.int p4), (.int (5 : Int32)), (.long q2)]))) (fun t k => XS.iload X0.here hx rfl (hb hby d27_11) rfl k) ?_
    refine Goes.via (S' := (s₁.setTop (mkF m 14 #[.val (.ref xs), .val (.int p1), .val (.long q2), .second, .val (.int p3), .val (.int p4), .unset, .unset, .unset] [(.int ((5 : Int32) * p4)), (.long q2)]))) (fun t k => XS.imul X0.here hx rfl (hb hby d27_13) rfl k) ?_
    refine Goes.via (S' := (s₁.setTop (mkF m 15 #[.val (.ref xs), .val (.int p1), .val (.long q2), .second, .val (.int p3), .val (.int p4), .unset, .unset, .unset] [(.long (q2 >>> (((5 : Int32) * p4) &&& 0x3f).toInt64))]))) (fun t k => XS.lshr X0.here hx rfl (hb hby d27_14) rfl k) ?_
    refine Goes.via (S' := (s₁.setTop (mkF m 17 #[.val (.ref xs), .val (.int p1), .val (.long q2), .second, .val (.int p3), .val (.int p4), .val (.long (q2 >>> (((5 : Int32) * p4) &&& 0x3f).toInt64)), .second, .unset] []))) (fun t k => XS.lstore X0.here hx rfl (hb hby d27_15) rfl (l' := #[.val (.ref xs), .val (.int p1), .val (.long q2), .second, .val (.int p3), .val (.int p4), .val (.long (q2 >>> (((5 : Int32) * p4) &&& 0x3f).toInt64)), .second, .unset]) rfl k) ?_
    refine Goes.via (S' := (s₁.setTop (mkF m 19 #[.val (.ref xs), .val (.int p1), .val (.long q2), .second, .val (.int p3), .val (.int p4), .val (.long (q2 >>> (((5 : Int32) * p4) &&& 0x3f).toInt64)), .second, .unset] [(.int p4)]))) (fun t k => XS.iload X0.here hx rfl (hb hby d27_17) rfl k) ?_
    refine Goes.via (S' := (s₁.setTop (mkF m 21 #[.val (.ref xs), .val (.int p1), .val (.long q2), .second, .val (.int p3), .val (.int p4), .val (.long (q2 >>> (((5 : Int32) * p4) &&& 0x3f).toInt64)), .second, .unset] [(.int p3), (.int p4)]))) (fun t k => XS.iload X0.here hx rfl (hb hby d27_19) rfl k) ?_
    refine Goes.via (S' := (s₁.setTop (mkF m 22 #[.val (.ref xs), .val (.int p1), .val (.long q2), .second, .val (.int p3), .val (.int p4), .val (.long (q2 >>> (((5 : Int32) * p4) &&& 0x3f).toInt64)), .second, .unset] [(.int (1 : Int32)), (.int p3), (.int p4)]))) (fun t k => XS.iconst X0.here hx rfl (hb hby d27_21) k) ?_
    refine Goes.via (S' := (s₁.setTop (mkF m 23 #[.val (.ref xs), .val (.int p1), .val (.long q2), .second, .val (.int p3), .val (.int p4), .val (.long (q2 >>> (((5 : Int32) * p4) &&& 0x3f).toInt64)), .second, .unset] [(.int (p3 - (1 : Int32))), (.int p4)]))) (fun t k => XS.isub X0.here hx rfl (hb hby d27_22) rfl k) ?_
    obtain ⟨v3, hv3⟩ : ∃ z : Int32, z = ((if (p4 = (p3 - (1 : Int32))) then ((((35 : Int64) + (q2 >>> (((5 : Int32) * p4) &&& 0x3f).toInt64)).toInt32).toUInt32.toUInt16.toUInt32.toInt32) else ((((93 : Int64) + ((q2 >>> (((5 : Int32) * p4) &&& 0x3f).toInt64) &&& (31 : Int64))).toInt32).toUInt32.toUInt16.toUInt32.toInt32))) := ⟨_, rfl⟩
    refine Goes.via (S' := (s₁.setTop (mkF m 53 #[.val (.ref xs), .val (.int p1), .val (.long q2), .second, .val (.int p3), .val (.int p4), .val (.long (q2 >>> (((5 : Int32) * p4) &&& 0x3f).toInt64)), .second, .val (.int v3)] []))) (fun t k => ?_) ?_
    · by_cases hc2 : (p4 = (p3 - (1 : Int32)))
      · refine XS.icmpNo X0.here hx rfl (hb hby d27_23) rfl (teq hc2).2 ?_
        show Steps p.tables e below (s₁.setTop (mkF m 26 #[.val (.ref xs), .val (.int p1), .val (.long q2), .second, .val (.int p3), .val (.int p4), .val (.long (q2 >>> (((5 : Int32) * p4) &&& 0x3f).toInt64)), .second, .unset] [])) _
        refine X0.ldc2Long hx hown (mvT hZ (hw _ (List.mem_of_getElem? (i := 144) rfl))) (g := (mkF m 26 #[.val (.ref xs), .val (.int p1), .val (.long q2), .second, .val (.int p3), .val (.int p4), .val (.long (q2 >>> (((5 : Int32) * p4) &&& 0x3f).toInt64)), .second, .unset] [])) rfl (hb hby d27_26) _ ?_
        show Steps p.tables e below (s₁.setTop (mkF m 29 #[.val (.ref xs), .val (.int p1), .val (.long q2), .second, .val (.int p3), .val (.int p4), .val (.long (q2 >>> (((5 : Int32) * p4) &&& 0x3f).toInt64)), .second, .unset] [(.long (35 : Int64))])) _
        refine XS.lload X0.here hx rfl (hb hby d27_29) rfl ?_
        show Steps p.tables e below (s₁.setTop (mkF m 31 #[.val (.ref xs), .val (.int p1), .val (.long q2), .second, .val (.int p3), .val (.int p4), .val (.long (q2 >>> (((5 : Int32) * p4) &&& 0x3f).toInt64)), .second, .unset] [(.long (q2 >>> (((5 : Int32) * p4) &&& 0x3f).toInt64)), (.long (35 : Int64))])) _
        refine XS.ladd X0.here hx rfl (hb hby d27_31) rfl ?_
        show Steps p.tables e below (s₁.setTop (mkF m 32 #[.val (.ref xs), .val (.int p1), .val (.long q2), .second, .val (.int p3), .val (.int p4), .val (.long (q2 >>> (((5 : Int32) * p4) &&& 0x3f).toInt64)), .second, .unset] [(.long ((35 : Int64) + (q2 >>> (((5 : Int32) * p4) &&& 0x3f).toInt64)))])) _
        refine XS.l2i X0.here hx rfl (hb hby d27_32) rfl ?_
        show Steps p.tables e below (s₁.setTop (mkF m 33 #[.val (.ref xs), .val (.int p1), .val (.long q2), .second, .val (.int p3), .val (.int p4), .val (.long (q2 >>> (((5 : Int32) * p4) &&& 0x3f).toInt64)), .second, .unset] [(.int (((35 : Int64) + (q2 >>> (((5 : Int32) * p4) &&& 0x3f).toInt64)).toInt32))])) _
        refine XS.i2c X0.here hx rfl (hb hby d27_33) rfl ?_
        show Steps p.tables e below (s₁.setTop (mkF m 34 #[.val (.ref xs), .val (.int p1), .val (.long q2), .second, .val (.int p3), .val (.int p4), .val (.long (q2 >>> (((5 : Int32) * p4) &&& 0x3f).toInt64)), .second, .unset] [(.int ((((35 : Int64) + (q2 >>> (((5 : Int32) * p4) &&& 0x3f).toInt64)).toInt32).toUInt32.toUInt16.toUInt32.toInt32))])) _
        refine XS.istore X0.here hx rfl (hb hby d27_34) rfl (l' := #[.val (.ref xs), .val (.int p1), .val (.long q2), .second, .val (.int p3), .val (.int p4), .val (.long (q2 >>> (((5 : Int32) * p4) &&& 0x3f).toInt64)), .second, .val (.int ((((35 : Int64) + (q2 >>> (((5 : Int32) * p4) &&& 0x3f).toInt64)).toInt32).toUInt32.toUInt16.toUInt32.toInt32))]) rfl ?_
        show Steps p.tables e below (s₁.setTop (mkF m 36 #[.val (.ref xs), .val (.int p1), .val (.long q2), .second, .val (.int p3), .val (.int p4), .val (.long (q2 >>> (((5 : Int32) * p4) &&& 0x3f).toInt64)), .second, .val (.int ((((35 : Int64) + (q2 >>> (((5 : Int32) * p4) &&& 0x3f).toInt64)).toInt32).toUInt32.toUInt16.toUInt32.toInt32))] [])) _
        refine XS.goto X0.here hx rfl (pc0 := 36) (pc' := 53) rfl (hb hby d27_36) (by decide) (by decide) ?_
        show Steps p.tables e below (s₁.setTop (mkF m 53 #[.val (.ref xs), .val (.int p1), .val (.long q2), .second, .val (.int p3), .val (.int p4), .val (.long (q2 >>> (((5 : Int32) * p4) &&& 0x3f).toInt64)), .second, .val (.int ((((35 : Int64) + (q2 >>> (((5 : Int32) * p4) &&& 0x3f).toInt64)).toInt32).toUInt32.toUInt16.toUInt32.toInt32))] [])) _
        have q_v3 : v3 = ((((35 : Int64) + (q2 >>> (((5 : Int32) * p4) &&& 0x3f).toInt64)).toInt32).toUInt32.toUInt16.toUInt32.toInt32) := by rw [hv3, if_pos hc2]
        rw [q_v3] at k
        exact k
      · refine XS.icmpYes X0.here hx rfl (pc0 := 23) (pc' := 39) rfl (hb hby d27_23) rfl (feq hc2).2 (by decide) (by decide) ?_
        show Steps p.tables e below (s₁.setTop (mkF m 39 #[.val (.ref xs), .val (.int p1), .val (.long q2), .second, .val (.int p3), .val (.int p4), .val (.long (q2 >>> (((5 : Int32) * p4) &&& 0x3f).toInt64)), .second, .unset] [])) _
        refine X0.ldc2Long hx hown (mvT hZ (hw _ (List.mem_of_getElem? (i := 167) rfl))) (g := (mkF m 39 #[.val (.ref xs), .val (.int p1), .val (.long q2), .second, .val (.int p3), .val (.int p4), .val (.long (q2 >>> (((5 : Int32) * p4) &&& 0x3f).toInt64)), .second, .unset] [])) rfl (hb hby d27_39) _ ?_
        show Steps p.tables e below (s₁.setTop (mkF m 42 #[.val (.ref xs), .val (.int p1), .val (.long q2), .second, .val (.int p3), .val (.int p4), .val (.long (q2 >>> (((5 : Int32) * p4) &&& 0x3f).toInt64)), .second, .unset] [(.long (93 : Int64))])) _
        refine XS.lload X0.here hx rfl (hb hby d27_42) rfl ?_
        show Steps p.tables e below (s₁.setTop (mkF m 44 #[.val (.ref xs), .val (.int p1), .val (.long q2), .second, .val (.int p3), .val (.int p4), .val (.long (q2 >>> (((5 : Int32) * p4) &&& 0x3f).toInt64)), .second, .unset] [(.long (q2 >>> (((5 : Int32) * p4) &&& 0x3f).toInt64)), (.long (93 : Int64))])) _
        refine X0.ldc2Long hx hown (mvT hZ (hw _ (List.mem_of_getElem? (i := 168) rfl))) (g := (mkF m 44 #[.val (.ref xs), .val (.int p1), .val (.long q2), .second, .val (.int p3), .val (.int p4), .val (.long (q2 >>> (((5 : Int32) * p4) &&& 0x3f).toInt64)), .second, .unset] [(.long (q2 >>> (((5 : Int32) * p4) &&& 0x3f).toInt64)), (.long (93 : Int64))])) rfl (hb hby d27_44) _ ?_
        show Steps p.tables e below (s₁.setTop (mkF m 47 #[.val (.ref xs), .val (.int p1), .val (.long q2), .second, .val (.int p3), .val (.int p4), .val (.long (q2 >>> (((5 : Int32) * p4) &&& 0x3f).toInt64)), .second, .unset] [(.long (31 : Int64)), (.long (q2 >>> (((5 : Int32) * p4) &&& 0x3f).toInt64)), (.long (93 : Int64))])) _
        refine XS.land X0.here hx rfl (hb hby d27_47) rfl ?_
        show Steps p.tables e below (s₁.setTop (mkF m 48 #[.val (.ref xs), .val (.int p1), .val (.long q2), .second, .val (.int p3), .val (.int p4), .val (.long (q2 >>> (((5 : Int32) * p4) &&& 0x3f).toInt64)), .second, .unset] [(.long ((q2 >>> (((5 : Int32) * p4) &&& 0x3f).toInt64) &&& (31 : Int64))), (.long (93 : Int64))])) _
        refine XS.ladd X0.here hx rfl (hb hby d27_48) rfl ?_
        show Steps p.tables e below (s₁.setTop (mkF m 49 #[.val (.ref xs), .val (.int p1), .val (.long q2), .second, .val (.int p3), .val (.int p4), .val (.long (q2 >>> (((5 : Int32) * p4) &&& 0x3f).toInt64)), .second, .unset] [(.long ((93 : Int64) + ((q2 >>> (((5 : Int32) * p4) &&& 0x3f).toInt64) &&& (31 : Int64))))])) _
        refine XS.l2i X0.here hx rfl (hb hby d27_49) rfl ?_
        show Steps p.tables e below (s₁.setTop (mkF m 50 #[.val (.ref xs), .val (.int p1), .val (.long q2), .second, .val (.int p3), .val (.int p4), .val (.long (q2 >>> (((5 : Int32) * p4) &&& 0x3f).toInt64)), .second, .unset] [(.int (((93 : Int64) + ((q2 >>> (((5 : Int32) * p4) &&& 0x3f).toInt64) &&& (31 : Int64))).toInt32))])) _
        refine XS.i2c X0.here hx rfl (hb hby d27_50) rfl ?_
        show Steps p.tables e below (s₁.setTop (mkF m 51 #[.val (.ref xs), .val (.int p1), .val (.long q2), .second, .val (.int p3), .val (.int p4), .val (.long (q2 >>> (((5 : Int32) * p4) &&& 0x3f).toInt64)), .second, .unset] [(.int ((((93 : Int64) + ((q2 >>> (((5 : Int32) * p4) &&& 0x3f).toInt64) &&& (31 : Int64))).toInt32).toUInt32.toUInt16.toUInt32.toInt32))])) _
        refine XS.istore X0.here hx rfl (hb hby d27_51) rfl (l' := #[.val (.ref xs), .val (.int p1), .val (.long q2), .second, .val (.int p3), .val (.int p4), .val (.long (q2 >>> (((5 : Int32) * p4) &&& 0x3f).toInt64)), .second, .val (.int ((((93 : Int64) + ((q2 >>> (((5 : Int32) * p4) &&& 0x3f).toInt64) &&& (31 : Int64))).toInt32).toUInt32.toUInt16.toUInt32.toInt32))]) rfl ?_
        show Steps p.tables e below (s₁.setTop (mkF m 53 #[.val (.ref xs), .val (.int p1), .val (.long q2), .second, .val (.int p3), .val (.int p4), .val (.long (q2 >>> (((5 : Int32) * p4) &&& 0x3f).toInt64)), .second, .val (.int ((((93 : Int64) + ((q2 >>> (((5 : Int32) * p4) &&& 0x3f).toInt64) &&& (31 : Int64))).toInt32).toUInt32.toUInt16.toUInt32.toInt32))] [])) _
        have q_v3 : v3 = ((((93 : Int64) + ((q2 >>> (((5 : Int32) * p4) &&& 0x3f).toInt64) &&& (31 : Int64))).toInt32).toUInt32.toUInt16.toUInt32.toInt32) := by rw [hv3, if_neg hc2]
        rw [q_v3] at k
        exact k
    refine Goes.via (S' := (s₁.setTop (mkF m 54 #[.val (.ref xs), .val (.int p1), .val (.long q2), .second, .val (.int p3), .val (.int p4), .val (.long (q2 >>> (((5 : Int32) * p4) &&& 0x3f).toInt64)), .second, .val (.int v3)] [(.ref xs)]))) (fun t k => XS.aloadN X0.here hx rfl (hb hby d27_53) rfl rfl k) ?_
    refine Goes.via (S' := (s₁.setTop (mkF m 55 #[.val (.ref xs), .val (.int p1), .val (.long q2), .second, .val (.int p3), .val (.int p4), .val (.long (q2 >>> (((5 : Int32) * p4) &&& 0x3f).toInt64)), .second, .val (.int v3)] [(.int p1), (.ref xs)]))) (fun t k => XS.iloadN X0.here hx rfl (hb hby d27_54) rfl k) ?_
    refine Goes.via (S' := (s₁.setTop (mkF m 57 #[.val (.ref xs), .val (.int p1), .val (.long q2), .second, .val (.int p3), .val (.int p4), .val (.long (q2 >>> (((5 : Int32) * p4) &&& 0x3f).toInt64)), .second, .val (.int v3)] [(.int p4), (.int p1), (.ref xs)]))) (fun t k => XS.iload X0.here hx rfl (hb hby d27_55) rfl k) ?_
    refine Goes.via (S' := (s₁.setTop (mkF m 58 #[.val (.ref xs), .val (.int p1), .val (.long q2), .second, .val (.int p3), .val (.int p4), .val (.long (q2 >>> (((5 : Int32) * p4) &&& 0x3f).toInt64)), .second, .val (.int v3)] [(.int (p1 + p4)), (.ref xs)]))) (fun t k => XS.iadd X0.here hx rfl (hb hby d27_57) rfl k) ?_
    obtain ⟨cq4, kq4, q4a, q4b, q4c⟩ := isOf hZ e0 f0_xs
    obtain ⟨_, _, ⟨T4, L4, k4, n4⟩, -, X4, ⟨Lc4, hQ4, l4, y4, z4⟩, st4⟩ := X0.virtualBack hx (y := (⟨"java/lang/String", "charAt", "(I)C"⟩ : MethodName)) (z := (⟨"java/lang/String", "charAt", "(I)C"⟩ : MethodName)) hown (mvT hZ (hw _ (List.mem_of_getElem? (i := 145) rfl))) (mvT hZ (hw _ (List.mem_of_getElem? (i := 146) rfl))) (notFace_of_selects (args := #[]) (mvT hZ (hw _ (List.mem_of_getElem? (i := 148) rfl)))) (mvT hZ (hw _ (List.mem_of_getElem? (i := 148) rfl))) (mvT hZ (hw _ (List.mem_of_getElem? (i := 147) rfl))) (by decide) (backOf (W := 0) (rm28 l Z a0 hw [] xs (p1 + p4) yn kn vn zn cc wc vB h0 n0 Z0 f0_xs f1_xs_coder f2_xs_value f3_yn f4_COMPACT_STRINGS f5_SIOOBE_FORMATTER hwc hr_vB (hd hc1).1 (hd hc1).2.1 (hd hc1).2.2.1) hZ (hw _ (List.mem_of_getElem? (i := 149) rfl)) (hw _ (List.mem_of_getElem? (i := 23) rfl)) (by decide) (by decide)) q4a q4c (g := (mkF m 58 #[.val (.ref xs), .val (.int p1), .val (.long q2), .second, .val (.int p3), .val (.int p4), .val (.long (q2 >>> (((5 : Int32) * p4) &&& 0x3f).toInt64)), .second, .val (.int v3)] [(.int (p1 + p4)), (.ref xs)])) rfl (by rw [hml]; rfl) (Steps.refl _) (argsL := [(.int (p1 + p4))]) (rest := []) (lenOf pd_17 rfl) rfl (by show 2 * 0 + _ ≤ _; exact Nat.le_of_eq rfl) (hb hby d27_58) (fun _ _ => ⟨rfl, e0, (by decide : 0 + 0 ≤ _), (by decide : 0 + 0 ≤ _)⟩)
    dsimp only [Pt.U, Pt.locs, Pt.cells, Pt.slots] at X4 l4 y4 z4 st4 hQ4
    replace X4 := own_cast X4 l4 y4 z4
    obtain ⟨rfl, N4q, eq4⟩ := hQ4
    have N4 := Fr.app N0 N4q
    refine Goes.via (S' := (T4.setTop (mkF m 61 #[.val (.ref xs), .val (.int p1), .val (.long q2), .second, .val (.int p3), .val (.int p4), .val (.long (q2 >>> (((5 : Int32) * p4) &&& 0x3f).toInt64)), .second, .val (.int v3)] [(.int (own_ch cc))]))) (fun t k => st4.trans k) ?_
    refine Goes.via (S' := (T4.setTop (mkF m 63 #[.val (.ref xs), .val (.int p1), .val (.long q2), .second, .val (.int p3), .val (.int p4), .val (.long (q2 >>> (((5 : Int32) * p4) &&& 0x3f).toInt64)), .second, .val (.int v3)] [(.int v3), (.int (own_ch cc))]))) (fun t k => XS.iload X4.here hx rfl (hb hby d27_61) rfl k) ?_
    refine Goes.via (S' := (T4.setTop (mkF m 66 #[.val (.ref xs), .val (.int p1), .val (.long q2), .second, .val (.int p3), .val (.int p4), .val (.long (q2 >>> (((5 : Int32) * p4) &&& 0x3f).toInt64)), .second, .val (.int v3)] []))) (fun t k => XS.icmpNo X4.here hx rfl (hb hby d27_63) rfl (teq ((hd hc1).2.2.2.trans hv3.symm : ((own_ch cc) = v3))).2 k) ?_
    refine Goes.via (S' := (T4.setTop (mkF m 67 #[.val (.ref xs), .val (.int p1), .val (.long q2), .second, .val (.int p3), .val (.int p4), .val (.long (q2 >>> (((5 : Int32) * p4) &&& 0x3f).toInt64)), .second, .val (.int v3)] [(.int (1 : Int32))]))) (fun t k => XS.iconst X4.here hx rfl (hb hby d27_66) k) ?_
    refine Goes.via (S' := (T4.setTop (mkF m 71 #[.val (.ref xs), .val (.int p1), .val (.long q2), .second, .val (.int p3), .val (.int p4), .val (.long (q2 >>> (((5 : Int32) * p4) &&& 0x3f).toInt64)), .second, .val (.int v3)] [(.int (1 : Int32))]))) (fun t k => XS.goto X4.here hx rfl (pc0 := 67) (pc' := 71) rfl (hb hby d27_67) (by decide) (by decide) k) ?_
    exact own_ret X4 hx Bd.notSynchronized Bd.returns rfl (Or.inl ⟨rfl, by simp, _, rfl⟩) (hb hby d27_71) eq4 ⟨rfl, N4, rfl⟩ (by decide) (by decide)
  · refine Goes.via (S' := (s₁.setTop (mkF m 7 #[.val (.ref xs), .val (.int p1), .val (.long q2), .second, .val (.int p3), .val (.int p4), .unset, .unset, .unset] []))) (fun t k => XS.icmpNo X0.here hx rfl (hb hby d27_4) rfl (flt hc1).1 k) ?_
    refine Goes.via (S' := (s₁.setTop (mkF m 8 #[.val (.ref xs), .val (.int p1), .val (.long q2), .second, .val (.int p3), .val (.int p4), .unset, .unset, .unset] [(.int (1 : Int32))]))) (fun t k => XS.iconst X0.here hx rfl (hb hby d27_7) k) ?_
    exact own_ret X0 hx Bd.notSynchronized Bd.returns rfl (Or.inl ⟨rfl, by simp, _, rfl⟩) (hb hby d27_8) e0 ⟨rfl, N0, rfl⟩ (by decide) (by decide)
theorem d26_0 : decode method_6_code 0 = .ok (.aload_n 0, 1) := by decide +kernel
theorem d26_1 : decode method_6_code 1 = .ok (.iload_n 1, 1) := by decide +kernel
theorem d26_2 : decode method_6_code 2 = .ok (.lload_n 2, 1) := by decide +kernel
theorem d26_3 : decode method_6_code 3 = .ok (.iload 4, 2) := by decide +kernel
theorem d26_5 : decode method_6_code 5 = .ok (.iconst 0, 1) := by decide +kernel
theorem d26_6 : decode method_6_code 6 = .ok (.invokestatic 64, 3) := by decide +kernel
theorem d26_9 : decode method_6_code 9 = .ok (.ifCond .eq 80, 3) := by decide +kernel
theorem d26_12 : decode method_6_code 12 = .ok (.aload_n 0, 1) := by decide +kernel
theorem d26_13 : decode method_6_code 13 = .ok (.iload_n 1, 1) := by decide +kernel
theorem d26_14 : decode method_6_code 14 = .ok (.lload_n 2, 1) := by decide +kernel
theorem d26_15 : decode method_6_code 15 = .ok (.iload 4, 2) := by decide +kernel
theorem d26_17 : decode method_6_code 17 = .ok (.iconst 1, 1) := by decide +kernel
theorem d26_18 : decode method_6_code 18 = .ok (.invokestatic 64, 3) := by decide +kernel
theorem d26_21 : decode method_6_code 21 = .ok (.ifCond .eq 68, 3) := by decide +kernel
theorem d26_24 : decode method_6_code 24 = .ok (.aload_n 0, 1) := by decide +kernel
theorem d26_25 : decode method_6_code 25 = .ok (.iload_n 1, 1) := by decide +kernel
theorem d26_26 : decode method_6_code 26 = .ok (.lload_n 2, 1) := by decide +kernel
theorem d26_27 : decode method_6_code 27 = .ok (.iload 4, 2) := by decide +kernel
theorem d26_29 : decode method_6_code 29 = .ok (.iconst 2, 1) := by decide +kernel
theorem d26_30 : decode method_6_code 30 = .ok (.invokestatic 64, 3) := by decide +kernel
theorem d26_33 : decode method_6_code 33 = .ok (.ifCond .eq 56, 3) := by decide +kernel
theorem d26_36 : decode method_6_code 36 = .ok (.aload_n 0, 1) := by decide +kernel
theorem d26_37 : decode method_6_code 37 = .ok (.iload_n 1, 1) := by decide +kernel
theorem d26_38 : decode method_6_code 38 = .ok (.lload_n 2, 1) := by decide +kernel
theorem d26_39 : decode method_6_code 39 = .ok (.iload 4, 2) := by decide +kernel
theorem d26_41 : decode method_6_code 41 = .ok (.iconst 3, 1) := by decide +kernel
theorem d26_42 : decode method_6_code 42 = .ok (.invokestatic 64, 3) := by decide +kernel
theorem d26_45 : decode method_6_code 45 = .ok (.ifCond .eq 44, 3) := by decide +kernel
theorem d26_48 : decode method_6_code 48 = .ok (.aload_n 0, 1) := by decide +kernel
theorem d26_49 : decode method_6_code 49 = .ok (.iload_n 1, 1) := by decide +kernel
theorem d26_50 : decode method_6_code 50 = .ok (.lload_n 2, 1) := by decide +kernel
theorem d26_51 : decode method_6_code 51 = .ok (.iload 4, 2) := by decide +kernel
theorem d26_53 : decode method_6_code 53 = .ok (.iconst 4, 1) := by decide +kernel
theorem d26_54 : decode method_6_code 54 = .ok (.invokestatic 64, 3) := by decide +kernel
theorem d26_57 : decode method_6_code 57 = .ok (.ifCond .eq 32, 3) := by decide +kernel
theorem d26_60 : decode method_6_code 60 = .ok (.aload_n 0, 1) := by decide +kernel
theorem d26_61 : decode method_6_code 61 = .ok (.iload_n 1, 1) := by decide +kernel
theorem d26_62 : decode method_6_code 62 = .ok (.lload_n 2, 1) := by decide +kernel
theorem d26_63 : decode method_6_code 63 = .ok (.iload 4, 2) := by decide +kernel
theorem d26_65 : decode method_6_code 65 = .ok (.iconst 5, 1) := by decide +kernel
theorem d26_66 : decode method_6_code 66 = .ok (.invokestatic 64, 3) := by decide +kernel
theorem d26_69 : decode method_6_code 69 = .ok (.ifCond .eq 20, 3) := by decide +kernel
theorem d26_72 : decode method_6_code 72 = .ok (.aload_n 0, 1) := by decide +kernel
theorem d26_73 : decode method_6_code 73 = .ok (.iload_n 1, 1) := by decide +kernel
theorem d26_74 : decode method_6_code 74 = .ok (.lload_n 2, 1) := by decide +kernel
theorem d26_75 : decode method_6_code 75 = .ok (.iload 4, 2) := by decide +kernel
theorem d26_77 : decode method_6_code 77 = .ok (.bipush 6, 2) := by decide +kernel
theorem d26_79 : decode method_6_code 79 = .ok (.invokestatic 64, 3) := by decide +kernel
theorem d26_82 : decode method_6_code 82 = .ok (.ifCond .eq 7, 3) := by decide +kernel
theorem d26_85 : decode method_6_code 85 = .ok (.iconst 1, 1) := by decide +kernel
theorem d26_86 : decode method_6_code 86 = .ok (.goto 4, 3) := by decide +kernel
theorem d26_90 : decode method_6_code 90 = .ok (.ireturn, 1) := by decide +kernel
theorem ef_26 (m : MethodId) (xs : Addr) (p1 : Int32) (q2 : Int64) (p3 : Int32) : entryFrame m #[(.ref xs), (.int p1), (.long q2), (.int p3)] 5 = mkF m 0 #[.val (.ref xs), .val (.int p1), .val (.long q2), .second, .val (.int p3)] [] := by first | (simp [entryFrame, mkF, argsToLocals, Value.category]; done) | rfl
def Q26 (Z : State) (xs : Addr) (p1 : Int32) (q2 : Int64) (p3 : Int32) (yn : Addr) (kn : ClassId) (vn : List Value) (zn : Int32) (wc : Int32) (vB : Value) (cc0 : Int32) (cc1 : Int32) (cc2 : Int32) (cc3 : Int32) (cc4 : Int32) (cc5 : Int32) (cc6 : Int32) (h0 : Heap) (n0 : Nat) (v : Option Value) (h : Heap) (L : List Loc) : Prop := v = some (.int (1 : Int32)) ∧ Fr n0 L ∧ h = h0
set_option maxRecDepth 65536 in
set_option maxHeartbeats 40000000 in
theorem rm26 (l : Launch) (Z : State) (a0 : Array Value) (hw : ∀ d ∈ tables_1, d.before a0 Z = true) (ws : List Jvm.Cond) (xs : Addr) (p1 : Int32) (q2 : Int64) (p3 : Int32) (yn : Addr) (kn : ClassId) (vn : List Value) (zn : Int32) (wc : Int32) (vB : Value) (cc0 : Int32) (cc1 : Int32) (cc2 : Int32) (cc3 : Int32) (cc4 : Int32) (cc5 : Int32) (cc6 : Int32) (h0 : Heap) (n0 : Nat) (Z0 : n0 ≤ h0.size) (f0_xs : Exa Z h0 xs "java/lang/String") (f1_xs_coder : Fld Z h0 xs "java/lang/String" "coder" "B" (.int (0 : Int32))) (f2_xs_value : Fld Z h0 xs "java/lang/String" "value" "[B" (.ref yn)) (f3_yn : Arv Z h0 yn kn .byte zn vn (.int (0 : Int32))) (f4_COMPACT_STRINGS : Sta Z h0 "java/lang/String" "COMPACT_STRINGS" "Z" (.int wc)) (f5_SIOOBE_FORMATTER : Sta Z h0 "jdk/internal/util/Preconditions" "SIOOBE_FORMATTER" "Ljava/util/function/BiFunction;" vB) (hwc : ¬ wc = (0 : Int32)) (hr_vB : vB.isRef = true) (hd0 : (0 : Int32) < p3 → (¬ (p1 + (0 : Int32)) < 0 ∧ (p1 + (0 : Int32)) < zn ∧ vn.getD (p1 + (0 : Int32)).toNatClampNeg (.int (0 : Int32)) = (.int cc0) ∧ own_ch cc0 = (if ((0 : Int32) = (p3 - (1 : Int32))) then ((((35 : Int64) + (q2 >>> (((5 : Int32) * (0 : Int32)) &&& 0x3f).toInt64)).toInt32).toUInt32.toUInt16.toUInt32.toInt32) else ((((93 : Int64) + ((q2 >>> (((5 : Int32) * (0 : Int32)) &&& 0x3f).toInt64) &&& (31 : Int64))).toInt32).toUInt32.toUInt16.toUInt32.toInt32)))) (hd1 : (1 : Int32) < p3 → (¬ (p1 + (1 : Int32)) < 0 ∧ (p1 + (1 : Int32)) < zn ∧ vn.getD (p1 + (1 : Int32)).toNatClampNeg (.int (0 : Int32)) = (.int cc1) ∧ own_ch cc1 = (if ((1 : Int32) = (p3 - (1 : Int32))) then ((((35 : Int64) + (q2 >>> (((5 : Int32) * (1 : Int32)) &&& 0x3f).toInt64)).toInt32).toUInt32.toUInt16.toUInt32.toInt32) else ((((93 : Int64) + ((q2 >>> (((5 : Int32) * (1 : Int32)) &&& 0x3f).toInt64) &&& (31 : Int64))).toInt32).toUInt32.toUInt16.toUInt32.toInt32)))) (hd2 : (2 : Int32) < p3 → (¬ (p1 + (2 : Int32)) < 0 ∧ (p1 + (2 : Int32)) < zn ∧ vn.getD (p1 + (2 : Int32)).toNatClampNeg (.int (0 : Int32)) = (.int cc2) ∧ own_ch cc2 = (if ((2 : Int32) = (p3 - (1 : Int32))) then ((((35 : Int64) + (q2 >>> (((5 : Int32) * (2 : Int32)) &&& 0x3f).toInt64)).toInt32).toUInt32.toUInt16.toUInt32.toInt32) else ((((93 : Int64) + ((q2 >>> (((5 : Int32) * (2 : Int32)) &&& 0x3f).toInt64) &&& (31 : Int64))).toInt32).toUInt32.toUInt16.toUInt32.toInt32)))) (hd3 : (3 : Int32) < p3 → (¬ (p1 + (3 : Int32)) < 0 ∧ (p1 + (3 : Int32)) < zn ∧ vn.getD (p1 + (3 : Int32)).toNatClampNeg (.int (0 : Int32)) = (.int cc3) ∧ own_ch cc3 = (if ((3 : Int32) = (p3 - (1 : Int32))) then ((((35 : Int64) + (q2 >>> (((5 : Int32) * (3 : Int32)) &&& 0x3f).toInt64)).toInt32).toUInt32.toUInt16.toUInt32.toInt32) else ((((93 : Int64) + ((q2 >>> (((5 : Int32) * (3 : Int32)) &&& 0x3f).toInt64) &&& (31 : Int64))).toInt32).toUInt32.toUInt16.toUInt32.toInt32)))) (hd4 : (4 : Int32) < p3 → (¬ (p1 + (4 : Int32)) < 0 ∧ (p1 + (4 : Int32)) < zn ∧ vn.getD (p1 + (4 : Int32)).toNatClampNeg (.int (0 : Int32)) = (.int cc4) ∧ own_ch cc4 = (if ((4 : Int32) = (p3 - (1 : Int32))) then ((((35 : Int64) + (q2 >>> (((5 : Int32) * (4 : Int32)) &&& 0x3f).toInt64)).toInt32).toUInt32.toUInt16.toUInt32.toInt32) else ((((93 : Int64) + ((q2 >>> (((5 : Int32) * (4 : Int32)) &&& 0x3f).toInt64) &&& (31 : Int64))).toInt32).toUInt32.toUInt16.toUInt32.toInt32)))) (hd5 : (5 : Int32) < p3 → (¬ (p1 + (5 : Int32)) < 0 ∧ (p1 + (5 : Int32)) < zn ∧ vn.getD (p1 + (5 : Int32)).toNatClampNeg (.int (0 : Int32)) = (.int cc5) ∧ own_ch cc5 = (if ((5 : Int32) = (p3 - (1 : Int32))) then ((((35 : Int64) + (q2 >>> (((5 : Int32) * (5 : Int32)) &&& 0x3f).toInt64)).toInt32).toUInt32.toUInt16.toUInt32.toInt32) else ((((93 : Int64) + ((q2 >>> (((5 : Int32) * (5 : Int32)) &&& 0x3f).toInt64) &&& (31 : Int64))).toInt32).toUInt32.toUInt16.toUInt32.toInt32)))) (hd6 : (6 : Int32) < p3 → (¬ (p1 + (6 : Int32)) < 0 ∧ (p1 + (6 : Int32)) < zn ∧ vn.getD (p1 + (6 : Int32)).toNatClampNeg (.int (0 : Int32)) = (.int cc6) ∧ own_ch cc6 = (if ((6 : Int32) = (p3 - (1 : Int32))) then ((((35 : Int64) + (q2 >>> (((5 : Int32) * (6 : Int32)) &&& 0x3f).toInt64)).toInt32).toUInt32.toUInt16.toUInt32.toInt32) else ((((93 : Int64) + ((q2 >>> (((5 : Int32) * (6 : Int32)) &&& 0x3f).toInt64) &&& (31 : Int64))).toInt32).toUInt32.toUInt16.toUInt32.toInt32)))) :
    MetFree l (⟨"com/example/parsewright/parsewright/runtime/WriterNumberPinLaw", "encodes", "(Ljava/lang/String;IJI)Z"⟩ : MethodName) (head1 (Jvm.Cond.code (⟨"com/example/parsewright/parsewright/runtime/WriterNumberPinLaw", "encodes", "(Ljava/lang/String;IJI)Z"⟩ : MethodName) method_6_code 5 (some .boolean) :: ws) ({ frames := 5, cells := 0, slots := 0, locals := 73 } : Room)) (fun a U => a = #[(.ref xs), (.int p1), (.long q2), (.int p3)] ∧ Z.Warmed39 U.vm ∧ U.heap = h0) (fun _ _ _ _ _ => True) (fun _ U o U' => ∃ v L, o = .returned v ∧ Q26 Z xs p1 q2 p3 yn kn vn zn wc vB cc0 cc1 cc2 cc3 cc4 cc5 cc6 h0 n0 v U'.heap L ∧ FrameEnd U o U' L 0 0) := by
  refine MetFree.of_bodySF (plainFor_of_name pn_232) hisR ?_
  intro p e s m args below meth c s₁ Bd hml0 hP hK
  obtain ⟨rfl, hZ, hh⟩ := hP
  have hx := Bd.exec
  have hby := Bd.bytes
  have hml : c.maxLocals = 5 := hml0
  have hown : s.vm.findClass "com/example/parsewright/parsewright/runtime/WriterNumberPinLaw" = some m.cls := findClass_of_methodNamed Bd.named
  have hnm := (name_of_methodNamed Bd.named Bd.method).1
  have X0 : Stand p l e ({ frames := 5, cells := 0, slots := 0, locals := 73 } : Room) s m #[(.ref xs), (.int p1), (.long q2), (.int p3)] below meth c s₁ [] 0 0 := Stand.of_body Bd
  have e0 : s₁.heap = h0 := by rw [← hh, Bd.state]; rfl
  have N0 := Fr.nil n0
  refine own_start (Q := fun v h L => Q26 Z xs p1 q2 p3 yn kn vn zn wc vB cc0 cc1 cc2 cc3 cc4 cc5 cc6 h0 n0 v h L) ?_
  refine Goes.via (S' := (s₁.setTop (mkF m 0 #[.val (.ref xs), .val (.int p1), .val (.long q2), .second, .val (.int p3)] []))) (fun t k => castTop (ef_26 m xs p1 q2 p3) k) ?_
  refine Goes.via (S' := (s₁.setTop (mkF m 1 #[.val (.ref xs), .val (.int p1), .val (.long q2), .second, .val (.int p3)] [(.ref xs)]))) (fun t k => XS.aloadN X0.here hx rfl (hb hby d26_0) rfl rfl k) ?_
  refine Goes.via (S' := (s₁.setTop (mkF m 2 #[.val (.ref xs), .val (.int p1), .val (.long q2), .second, .val (.int p3)] [(.int p1), (.ref xs)]))) (fun t k => XS.iloadN X0.here hx rfl (hb hby d26_1) rfl k) ?_
  refine Goes.via (S' := (s₁.setTop (mkF m 3 #[.val (.ref xs), .val (.int p1), .val (.long q2), .second, .val (.int p3)] [(.long q2), (.int p1), (.ref xs)]))) (fun t k => XS.lloadN X0.here hx rfl (hb hby d26_2) rfl k) ?_
  refine Goes.via (S' := (s₁.setTop (mkF m 5 #[.val (.ref xs), .val (.int p1), .val (.long q2), .second, .val (.int p3)] [(.int p3), (.long q2), (.int p1), (.ref xs)]))) (fun t k => XS.iload X0.here hx rfl (hb hby d26_3) rfl k) ?_
  refine Goes.via (S' := (s₁.setTop (mkF m 6 #[.val (.ref xs), .val (.int p1), .val (.long q2), .second, .val (.int p3)] [(.int (0 : Int32)), (.int p3), (.long q2), (.int p1), (.ref xs)]))) (fun t k => XS.iconst X0.here hx rfl (hb hby d26_5) k) ?_
  obtain ⟨_, _, ⟨T1, L1, k1, n1⟩, -, X1, ⟨Lc1, hQ1, l1, y1, z1⟩, st1⟩ := Jvm.LawKit.callS X0 hx (y := (⟨"com/example/parsewright/parsewright/runtime/WriterNumberPinLaw", "digit", "(Ljava/lang/String;IJII)Z"⟩ : MethodName)) hown (mvT hZ (hw _ (List.mem_of_getElem? (i := 141) rfl))) (mvT hZ (hw _ (List.mem_of_getElem? (i := 142) rfl))) (mvT hZ (hw _ (List.mem_of_getElem? (i := 120) rfl))) (mvT hZ (hw _ (List.mem_of_getElem? (i := 143) rfl))) (by decide) (backOf (W := 0) (rm27 l Z a0 hw [] xs p1 q2 p3 (0 : Int32) yn kn vn zn wc vB cc0 h0 n0 Z0 f0_xs f1_xs_coder f2_xs_value f3_yn f4_COMPACT_STRINGS f5_SIOOBE_FORMATTER hwc hr_vB hd0) hZ (hw _ (List.mem_of_getElem? (i := 143) rfl)) (hw _ (List.mem_of_getElem? (i := 120) rfl)) (by decide) (by decide)) (g := (mkF m 6 #[.val (.ref xs), .val (.int p1), .val (.long q2), .second, .val (.int p3)] [(.int (0 : Int32)), (.int p3), (.long q2), (.int p1), (.ref xs)])) rfl (by rw [hml]; rfl) (argsL := [(.ref xs), (.int p1), (.long q2), (.int p3), (.int (0 : Int32))]) (rest := []) (lenOf pd_18 rfl) rfl (by show 2 * 0 + _ ≤ _; exact Nat.le_of_eq rfl) (hb hby d26_6) (fun _ _ => ⟨rfl, e0, (by decide : 0 + 0 ≤ _), (by decide : 0 + 0 ≤ _)⟩)
  dsimp only [Pt.U, Pt.locs, Pt.cells, Pt.slots] at X1 l1 y1 z1 st1 hQ1
  replace X1 := own_cast X1 l1 y1 z1
  obtain ⟨rfl, N1q, eq1⟩ := hQ1
  have N1 := Fr.app N0 N1q
  refine Goes.via (S' := (T1.setTop (mkF m 9 #[.val (.ref xs), .val (.int p1), .val (.long q2), .second, .val (.int p3)] [(.int (1 : Int32))]))) (fun t k => st1 _ k) ?_
  refine Goes.via (S' := (T1.setTop (mkF m 12 #[.val (.ref xs), .val (.int p1), .val (.long q2), .second, .val (.int p3)] []))) (fun t k => XS.ifNo X1.here hx rfl (hb hby d26_9) rfl ((if0 _ _).trans (feq (by decide : ¬ ((1 : Int32) = (0 : Int32)))).1) k) ?_
  refine Goes.via (S' := (T1.setTop (mkF m 13 #[.val (.ref xs), .val (.int p1), .val (.long q2), .second, .val (.int p3)] [(.ref xs)]))) (fun t k => XS.aloadN X1.here hx rfl (hb hby d26_12) rfl rfl k) ?_
  refine Goes.via (S' := (T1.setTop (mkF m 14 #[.val (.ref xs), .val (.int p1), .val (.long q2), .second, .val (.int p3)] [(.int p1), (.ref xs)]))) (fun t k => XS.iloadN X1.here hx rfl (hb hby d26_13) rfl k) ?_
  refine Goes.via (S' := (T1.setTop (mkF m 15 #[.val (.ref xs), .val (.int p1), .val (.long q2), .second, .val (.int p3)] [(.long q2), (.int p1), (.ref xs)]))) (fun t k => XS.lloadN X1.here hx rfl (hb hby d26_14) rfl k) ?_
  refine Goes.via (S' := (T1.setTop (mkF m 17 #[.val (.ref xs), .val (.int p1), .val (.long q2), .second, .val (.int p3)] [(.int p3), (.long q2), (.int p1), (.ref xs)]))) (fun t k => XS.iload X1.here hx rfl (hb hby d26_15) rfl k) ?_
  refine Goes.via (S' := (T1.setTop (mkF m 18 #[.val (.ref xs), .val (.int p1), .val (.long q2), .second, .val (.int p3)] [(.int (1 : Int32)), (.int p3), (.long q2), (.int p1), (.ref xs)]))) (fun t k => XS.iconst X1.here hx rfl (hb hby d26_17) k) ?_
  obtain ⟨_, _, ⟨T2, L2, k2, n2⟩, -, X2, ⟨Lc2, hQ2, l2, y2, z2⟩, st2⟩ := Jvm.LawKit.callS X1 hx (y := (⟨"com/example/parsewright/parsewright/runtime/WriterNumberPinLaw", "digit", "(Ljava/lang/String;IJII)Z"⟩ : MethodName)) hown (mvT hZ (hw _ (List.mem_of_getElem? (i := 141) rfl))) (mvT hZ (hw _ (List.mem_of_getElem? (i := 142) rfl))) (mvT hZ (hw _ (List.mem_of_getElem? (i := 120) rfl))) (mvT hZ (hw _ (List.mem_of_getElem? (i := 143) rfl))) (by decide) (backOf (W := 0) (rm27 l Z a0 hw [] xs p1 q2 p3 (1 : Int32) yn kn vn zn wc vB cc1 h0 n0 Z0 f0_xs f1_xs_coder f2_xs_value f3_yn f4_COMPACT_STRINGS f5_SIOOBE_FORMATTER hwc hr_vB hd1) hZ (hw _ (List.mem_of_getElem? (i := 143) rfl)) (hw _ (List.mem_of_getElem? (i := 120) rfl)) (by decide) (by decide)) (g := (mkF m 18 #[.val (.ref xs), .val (.int p1), .val (.long q2), .second, .val (.int p3)] [(.int (1 : Int32)), (.int p3), (.long q2), (.int p1), (.ref xs)])) rfl (by rw [hml]; rfl) (argsL := [(.ref xs), (.int p1), (.long q2), (.int p3), (.int (1 : Int32))]) (rest := []) (lenOf pd_18 rfl) rfl (by show 2 * 0 + _ ≤ _; exact Nat.le_of_eq rfl) (hb hby d26_18) (fun _ _ => ⟨rfl, eq1, (by decide : 0 + 0 ≤ _), (by decide : 0 + 0 ≤ _)⟩)
  dsimp only [Pt.U, Pt.locs, Pt.cells, Pt.slots] at X2 l2 y2 z2 st2 hQ2
  replace X2 := own_cast X2 l2 y2 z2
  obtain ⟨rfl, N2q, eq2⟩ := hQ2
  have N2 := Fr.app N1 N2q
  refine Goes.via (S' := (T2.setTop (mkF m 21 #[.val (.ref xs), .val (.int p1), .val (.long q2), .second, .val (.int p3)] [(.int (1 : Int32))]))) (fun t k => st2 _ k) ?_
  refine Goes.via (S' := (T2.setTop (mkF m 24 #[.val (.ref xs), .val (.int p1), .val (.long q2), .second, .val (.int p3)] []))) (fun t k => XS.ifNo X2.here hx rfl (hb hby d26_21) rfl ((if0 _ _).trans (feq (by decide : ¬ ((1 : Int32) = (0 : Int32)))).1) k) ?_
  refine Goes.via (S' := (T2.setTop (mkF m 25 #[.val (.ref xs), .val (.int p1), .val (.long q2), .second, .val (.int p3)] [(.ref xs)]))) (fun t k => XS.aloadN X2.here hx rfl (hb hby d26_24) rfl rfl k) ?_
  refine Goes.via (S' := (T2.setTop (mkF m 26 #[.val (.ref xs), .val (.int p1), .val (.long q2), .second, .val (.int p3)] [(.int p1), (.ref xs)]))) (fun t k => XS.iloadN X2.here hx rfl (hb hby d26_25) rfl k) ?_
  refine Goes.via (S' := (T2.setTop (mkF m 27 #[.val (.ref xs), .val (.int p1), .val (.long q2), .second, .val (.int p3)] [(.long q2), (.int p1), (.ref xs)]))) (fun t k => XS.lloadN X2.here hx rfl (hb hby d26_26) rfl k) ?_
  refine Goes.via (S' := (T2.setTop (mkF m 29 #[.val (.ref xs), .val (.int p1), .val (.long q2), .second, .val (.int p3)] [(.int p3), (.long q2), (.int p1), (.ref xs)]))) (fun t k => XS.iload X2.here hx rfl (hb hby d26_27) rfl k) ?_
  refine Goes.via (S' := (T2.setTop (mkF m 30 #[.val (.ref xs), .val (.int p1), .val (.long q2), .second, .val (.int p3)] [(.int (2 : Int32)), (.int p3), (.long q2), (.int p1), (.ref xs)]))) (fun t k => XS.iconst X2.here hx rfl (hb hby d26_29) k) ?_
  obtain ⟨_, _, ⟨T3, L3, k3, n3⟩, -, X3, ⟨Lc3, hQ3, l3, y3, z3⟩, st3⟩ := Jvm.LawKit.callS X2 hx (y := (⟨"com/example/parsewright/parsewright/runtime/WriterNumberPinLaw", "digit", "(Ljava/lang/String;IJII)Z"⟩ : MethodName)) hown (mvT hZ (hw _ (List.mem_of_getElem? (i := 141) rfl))) (mvT hZ (hw _ (List.mem_of_getElem? (i := 142) rfl))) (mvT hZ (hw _ (List.mem_of_getElem? (i := 120) rfl))) (mvT hZ (hw _ (List.mem_of_getElem? (i := 143) rfl))) (by decide) (backOf (W := 0) (rm27 l Z a0 hw [] xs p1 q2 p3 (2 : Int32) yn kn vn zn wc vB cc2 h0 n0 Z0 f0_xs f1_xs_coder f2_xs_value f3_yn f4_COMPACT_STRINGS f5_SIOOBE_FORMATTER hwc hr_vB hd2) hZ (hw _ (List.mem_of_getElem? (i := 143) rfl)) (hw _ (List.mem_of_getElem? (i := 120) rfl)) (by decide) (by decide)) (g := (mkF m 30 #[.val (.ref xs), .val (.int p1), .val (.long q2), .second, .val (.int p3)] [(.int (2 : Int32)), (.int p3), (.long q2), (.int p1), (.ref xs)])) rfl (by rw [hml]; rfl) (argsL := [(.ref xs), (.int p1), (.long q2), (.int p3), (.int (2 : Int32))]) (rest := []) (lenOf pd_18 rfl) rfl (by show 2 * 0 + _ ≤ _; exact Nat.le_of_eq rfl) (hb hby d26_30) (fun _ _ => ⟨rfl, eq2, (by decide : 0 + 0 ≤ _), (by decide : 0 + 0 ≤ _)⟩)
  dsimp only [Pt.U, Pt.locs, Pt.cells, Pt.slots] at X3 l3 y3 z3 st3 hQ3
  replace X3 := own_cast X3 l3 y3 z3
  obtain ⟨rfl, N3q, eq3⟩ := hQ3
  have N3 := Fr.app N2 N3q
  refine Goes.via (S' := (T3.setTop (mkF m 33 #[.val (.ref xs), .val (.int p1), .val (.long q2), .second, .val (.int p3)] [(.int (1 : Int32))]))) (fun t k => st3 _ k) ?_
  refine Goes.via (S' := (T3.setTop (mkF m 36 #[.val (.ref xs), .val (.int p1), .val (.long q2), .second, .val (.int p3)] []))) (fun t k => XS.ifNo X3.here hx rfl (hb hby d26_33) rfl ((if0 _ _).trans (feq (by decide : ¬ ((1 : Int32) = (0 : Int32)))).1) k) ?_
  refine Goes.via (S' := (T3.setTop (mkF m 37 #[.val (.ref xs), .val (.int p1), .val (.long q2), .second, .val (.int p3)] [(.ref xs)]))) (fun t k => XS.aloadN X3.here hx rfl (hb hby d26_36) rfl rfl k) ?_
  refine Goes.via (S' := (T3.setTop (mkF m 38 #[.val (.ref xs), .val (.int p1), .val (.long q2), .second, .val (.int p3)] [(.int p1), (.ref xs)]))) (fun t k => XS.iloadN X3.here hx rfl (hb hby d26_37) rfl k) ?_
  refine Goes.via (S' := (T3.setTop (mkF m 39 #[.val (.ref xs), .val (.int p1), .val (.long q2), .second, .val (.int p3)] [(.long q2), (.int p1), (.ref xs)]))) (fun t k => XS.lloadN X3.here hx rfl (hb hby d26_38) rfl k) ?_
  refine Goes.via (S' := (T3.setTop (mkF m 41 #[.val (.ref xs), .val (.int p1), .val (.long q2), .second, .val (.int p3)] [(.int p3), (.long q2), (.int p1), (.ref xs)]))) (fun t k => XS.iload X3.here hx rfl (hb hby d26_39) rfl k) ?_
  refine Goes.via (S' := (T3.setTop (mkF m 42 #[.val (.ref xs), .val (.int p1), .val (.long q2), .second, .val (.int p3)] [(.int (3 : Int32)), (.int p3), (.long q2), (.int p1), (.ref xs)]))) (fun t k => XS.iconst X3.here hx rfl (hb hby d26_41) k) ?_
  obtain ⟨_, _, ⟨T4, L4, k4, n4⟩, -, X4, ⟨Lc4, hQ4, l4, y4, z4⟩, st4⟩ := Jvm.LawKit.callS X3 hx (y := (⟨"com/example/parsewright/parsewright/runtime/WriterNumberPinLaw", "digit", "(Ljava/lang/String;IJII)Z"⟩ : MethodName)) hown (mvT hZ (hw _ (List.mem_of_getElem? (i := 141) rfl))) (mvT hZ (hw _ (List.mem_of_getElem? (i := 142) rfl))) (mvT hZ (hw _ (List.mem_of_getElem? (i := 120) rfl))) (mvT hZ (hw _ (List.mem_of_getElem? (i := 143) rfl))) (by decide) (backOf (W := 0) (rm27 l Z a0 hw [] xs p1 q2 p3 (3 : Int32) yn kn vn zn wc vB cc3 h0 n0 Z0 f0_xs f1_xs_coder f2_xs_value f3_yn f4_COMPACT_STRINGS f5_SIOOBE_FORMATTER hwc hr_vB hd3) hZ (hw _ (List.mem_of_getElem? (i := 143) rfl)) (hw _ (List.mem_of_getElem? (i := 120) rfl)) (by decide) (by decide)) (g := (mkF m 42 #[.val (.ref xs), .val (.int p1), .val (.long q2), .second, .val (.int p3)] [(.int (3 : Int32)), (.int p3), (.long q2), (.int p1), (.ref xs)])) rfl (by rw [hml]; rfl) (argsL := [(.ref xs), (.int p1), (.long q2), (.int p3), (.int (3 : Int32))]) (rest := []) (lenOf pd_18 rfl) rfl (by show 2 * 0 + _ ≤ _; exact Nat.le_of_eq rfl) (hb hby d26_42) (fun _ _ => ⟨rfl, eq3, (by decide : 0 + 0 ≤ _), (by decide : 0 + 0 ≤ _)⟩)
  dsimp only [Pt.U, Pt.locs, Pt.cells, Pt.slots] at X4 l4 y4 z4 st4 hQ4
  replace X4 := own_cast X4 l4 y4 z4
  obtain ⟨rfl, N4q, eq4⟩ := hQ4
  have N4 := Fr.app N3 N4q
  refine Goes.via (S' := (T4.setTop (mkF m 45 #[.val (.ref xs), .val (.int p1), .val (.long q2), .second, .val (.int p3)] [(.int (1 : Int32))]))) (fun t k => st4 _ k) ?_
  refine Goes.via (S' := (T4.setTop (mkF m 48 #[.val (.ref xs), .val (.int p1), .val (.long q2), .second, .val (.int p3)] []))) (fun t k => XS.ifNo X4.here hx rfl (hb hby d26_45) rfl ((if0 _ _).trans (feq (by decide : ¬ ((1 : Int32) = (0 : Int32)))).1) k) ?_
  refine Goes.via (S' := (T4.setTop (mkF m 49 #[.val (.ref xs), .val (.int p1), .val (.long q2), .second, .val (.int p3)] [(.ref xs)]))) (fun t k => XS.aloadN X4.here hx rfl (hb hby d26_48) rfl rfl k) ?_
  refine Goes.via (S' := (T4.setTop (mkF m 50 #[.val (.ref xs), .val (.int p1), .val (.long q2), .second, .val (.int p3)] [(.int p1), (.ref xs)]))) (fun t k => XS.iloadN X4.here hx rfl (hb hby d26_49) rfl k) ?_
  refine Goes.via (S' := (T4.setTop (mkF m 51 #[.val (.ref xs), .val (.int p1), .val (.long q2), .second, .val (.int p3)] [(.long q2), (.int p1), (.ref xs)]))) (fun t k => XS.lloadN X4.here hx rfl (hb hby d26_50) rfl k) ?_
  refine Goes.via (S' := (T4.setTop (mkF m 53 #[.val (.ref xs), .val (.int p1), .val (.long q2), .second, .val (.int p3)] [(.int p3), (.long q2), (.int p1), (.ref xs)]))) (fun t k => XS.iload X4.here hx rfl (hb hby d26_51) rfl k) ?_
  refine Goes.via (S' := (T4.setTop (mkF m 54 #[.val (.ref xs), .val (.int p1), .val (.long q2), .second, .val (.int p3)] [(.int (4 : Int32)), (.int p3), (.long q2), (.int p1), (.ref xs)]))) (fun t k => XS.iconst X4.here hx rfl (hb hby d26_53) k) ?_
  obtain ⟨_, _, ⟨T5, L5, k5, n5⟩, -, X5, ⟨Lc5, hQ5, l5, y5, z5⟩, st5⟩ := Jvm.LawKit.callS X4 hx (y := (⟨"com/example/parsewright/parsewright/runtime/WriterNumberPinLaw", "digit", "(Ljava/lang/String;IJII)Z"⟩ : MethodName)) hown (mvT hZ (hw _ (List.mem_of_getElem? (i := 141) rfl))) (mvT hZ (hw _ (List.mem_of_getElem? (i := 142) rfl))) (mvT hZ (hw _ (List.mem_of_getElem? (i := 120) rfl))) (mvT hZ (hw _ (List.mem_of_getElem? (i := 143) rfl))) (by decide) (backOf (W := 0) (rm27 l Z a0 hw [] xs p1 q2 p3 (4 : Int32) yn kn vn zn wc vB cc4 h0 n0 Z0 f0_xs f1_xs_coder f2_xs_value f3_yn f4_COMPACT_STRINGS f5_SIOOBE_FORMATTER hwc hr_vB hd4) hZ (hw _ (List.mem_of_getElem? (i := 143) rfl)) (hw _ (List.mem_of_getElem? (i := 120) rfl)) (by decide) (by decide)) (g := (mkF m 54 #[.val (.ref xs), .val (.int p1), .val (.long q2), .second, .val (.int p3)] [(.int (4 : Int32)), (.int p3), (.long q2), (.int p1), (.ref xs)])) rfl (by rw [hml]; rfl) (argsL := [(.ref xs), (.int p1), (.long q2), (.int p3), (.int (4 : Int32))]) (rest := []) (lenOf pd_18 rfl) rfl (by show 2 * 0 + _ ≤ _; exact Nat.le_of_eq rfl) (hb hby d26_54) (fun _ _ => ⟨rfl, eq4, (by decide : 0 + 0 ≤ _), (by decide : 0 + 0 ≤ _)⟩)
  dsimp only [Pt.U, Pt.locs, Pt.cells, Pt.slots] at X5 l5 y5 z5 st5 hQ5
  replace X5 := own_cast X5 l5 y5 z5
  obtain ⟨rfl, N5q, eq5⟩ := hQ5
  have N5 := Fr.app N4 N5q
  refine Goes.via (S' := (T5.setTop (mkF m 57 #[.val (.ref xs), .val (.int p1), .val (.long q2), .second, .val (.int p3)] [(.int (1 : Int32))]))) (fun t k => st5 _ k) ?_
  refine Goes.via (S' := (T5.setTop (mkF m 60 #[.val (.ref xs), .val (.int p1), .val (.long q2), .second, .val (.int p3)] []))) (fun t k => XS.ifNo X5.here hx rfl (hb hby d26_57) rfl ((if0 _ _).trans (feq (by decide : ¬ ((1 : Int32) = (0 : Int32)))).1) k) ?_
  refine Goes.via (S' := (T5.setTop (mkF m 61 #[.val (.ref xs), .val (.int p1), .val (.long q2), .second, .val (.int p3)] [(.ref xs)]))) (fun t k => XS.aloadN X5.here hx rfl (hb hby d26_60) rfl rfl k) ?_
  refine Goes.via (S' := (T5.setTop (mkF m 62 #[.val (.ref xs), .val (.int p1), .val (.long q2), .second, .val (.int p3)] [(.int p1), (.ref xs)]))) (fun t k => XS.iloadN X5.here hx rfl (hb hby d26_61) rfl k) ?_
  refine Goes.via (S' := (T5.setTop (mkF m 63 #[.val (.ref xs), .val (.int p1), .val (.long q2), .second, .val (.int p3)] [(.long q2), (.int p1), (.ref xs)]))) (fun t k => XS.lloadN X5.here hx rfl (hb hby d26_62) rfl k) ?_
  refine Goes.via (S' := (T5.setTop (mkF m 65 #[.val (.ref xs), .val (.int p1), .val (.long q2), .second, .val (.int p3)] [(.int p3), (.long q2), (.int p1), (.ref xs)]))) (fun t k => XS.iload X5.here hx rfl (hb hby d26_63) rfl k) ?_
  refine Goes.via (S' := (T5.setTop (mkF m 66 #[.val (.ref xs), .val (.int p1), .val (.long q2), .second, .val (.int p3)] [(.int (5 : Int32)), (.int p3), (.long q2), (.int p1), (.ref xs)]))) (fun t k => XS.iconst X5.here hx rfl (hb hby d26_65) k) ?_
  obtain ⟨_, _, ⟨T6, L6, k6, n6⟩, -, X6, ⟨Lc6, hQ6, l6, y6, z6⟩, st6⟩ := Jvm.LawKit.callS X5 hx (y := (⟨"com/example/parsewright/parsewright/runtime/WriterNumberPinLaw", "digit", "(Ljava/lang/String;IJII)Z"⟩ : MethodName)) hown (mvT hZ (hw _ (List.mem_of_getElem? (i := 141) rfl))) (mvT hZ (hw _ (List.mem_of_getElem? (i := 142) rfl))) (mvT hZ (hw _ (List.mem_of_getElem? (i := 120) rfl))) (mvT hZ (hw _ (List.mem_of_getElem? (i := 143) rfl))) (by decide) (backOf (W := 0) (rm27 l Z a0 hw [] xs p1 q2 p3 (5 : Int32) yn kn vn zn wc vB cc5 h0 n0 Z0 f0_xs f1_xs_coder f2_xs_value f3_yn f4_COMPACT_STRINGS f5_SIOOBE_FORMATTER hwc hr_vB hd5) hZ (hw _ (List.mem_of_getElem? (i := 143) rfl)) (hw _ (List.mem_of_getElem? (i := 120) rfl)) (by decide) (by decide)) (g := (mkF m 66 #[.val (.ref xs), .val (.int p1), .val (.long q2), .second, .val (.int p3)] [(.int (5 : Int32)), (.int p3), (.long q2), (.int p1), (.ref xs)])) rfl (by rw [hml]; rfl) (argsL := [(.ref xs), (.int p1), (.long q2), (.int p3), (.int (5 : Int32))]) (rest := []) (lenOf pd_18 rfl) rfl (by show 2 * 0 + _ ≤ _; exact Nat.le_of_eq rfl) (hb hby d26_66) (fun _ _ => ⟨rfl, eq5, (by decide : 0 + 0 ≤ _), (by decide : 0 + 0 ≤ _)⟩)
  dsimp only [Pt.U, Pt.locs, Pt.cells, Pt.slots] at X6 l6 y6 z6 st6 hQ6
  replace X6 := own_cast X6 l6 y6 z6
  obtain ⟨rfl, N6q, eq6⟩ := hQ6
  have N6 := Fr.app N5 N6q
  refine Goes.via (S' := (T6.setTop (mkF m 69 #[.val (.ref xs), .val (.int p1), .val (.long q2), .second, .val (.int p3)] [(.int (1 : Int32))]))) (fun t k => st6 _ k) ?_
  refine Goes.via (S' := (T6.setTop (mkF m 72 #[.val (.ref xs), .val (.int p1), .val (.long q2), .second, .val (.int p3)] []))) (fun t k => XS.ifNo X6.here hx rfl (hb hby d26_69) rfl ((if0 _ _).trans (feq (by decide : ¬ ((1 : Int32) = (0 : Int32)))).1) k) ?_
  refine Goes.via (S' := (T6.setTop (mkF m 73 #[.val (.ref xs), .val (.int p1), .val (.long q2), .second, .val (.int p3)] [(.ref xs)]))) (fun t k => XS.aloadN X6.here hx rfl (hb hby d26_72) rfl rfl k) ?_
  refine Goes.via (S' := (T6.setTop (mkF m 74 #[.val (.ref xs), .val (.int p1), .val (.long q2), .second, .val (.int p3)] [(.int p1), (.ref xs)]))) (fun t k => XS.iloadN X6.here hx rfl (hb hby d26_73) rfl k) ?_
  refine Goes.via (S' := (T6.setTop (mkF m 75 #[.val (.ref xs), .val (.int p1), .val (.long q2), .second, .val (.int p3)] [(.long q2), (.int p1), (.ref xs)]))) (fun t k => XS.lloadN X6.here hx rfl (hb hby d26_74) rfl k) ?_
  refine Goes.via (S' := (T6.setTop (mkF m 77 #[.val (.ref xs), .val (.int p1), .val (.long q2), .second, .val (.int p3)] [(.int p3), (.long q2), (.int p1), (.ref xs)]))) (fun t k => XS.iload X6.here hx rfl (hb hby d26_75) rfl k) ?_
  refine Goes.via (S' := (T6.setTop (mkF m 79 #[.val (.ref xs), .val (.int p1), .val (.long q2), .second, .val (.int p3)] [(.int (6 : Int32)), (.int p3), (.long q2), (.int p1), (.ref xs)]))) (fun t k => XS.bipush X6.here hx rfl (hb hby d26_77) k) ?_
  obtain ⟨_, _, ⟨T7, L7, k7, n7⟩, -, X7, ⟨Lc7, hQ7, l7, y7, z7⟩, st7⟩ := Jvm.LawKit.callS X6 hx (y := (⟨"com/example/parsewright/parsewright/runtime/WriterNumberPinLaw", "digit", "(Ljava/lang/String;IJII)Z"⟩ : MethodName)) hown (mvT hZ (hw _ (List.mem_of_getElem? (i := 141) rfl))) (mvT hZ (hw _ (List.mem_of_getElem? (i := 142) rfl))) (mvT hZ (hw _ (List.mem_of_getElem? (i := 120) rfl))) (mvT hZ (hw _ (List.mem_of_getElem? (i := 143) rfl))) (by decide) (backOf (W := 0) (rm27 l Z a0 hw [] xs p1 q2 p3 (6 : Int32) yn kn vn zn wc vB cc6 h0 n0 Z0 f0_xs f1_xs_coder f2_xs_value f3_yn f4_COMPACT_STRINGS f5_SIOOBE_FORMATTER hwc hr_vB hd6) hZ (hw _ (List.mem_of_getElem? (i := 143) rfl)) (hw _ (List.mem_of_getElem? (i := 120) rfl)) (by decide) (by decide)) (g := (mkF m 79 #[.val (.ref xs), .val (.int p1), .val (.long q2), .second, .val (.int p3)] [(.int (6 : Int32)), (.int p3), (.long q2), (.int p1), (.ref xs)])) rfl (by rw [hml]; rfl) (argsL := [(.ref xs), (.int p1), (.long q2), (.int p3), (.int (6 : Int32))]) (rest := []) (lenOf pd_18 rfl) rfl (by show 2 * 0 + _ ≤ _; exact Nat.le_of_eq rfl) (hb hby d26_79) (fun _ _ => ⟨rfl, eq6, (by decide : 0 + 0 ≤ _), (by decide : 0 + 0 ≤ _)⟩)
  dsimp only [Pt.U, Pt.locs, Pt.cells, Pt.slots] at X7 l7 y7 z7 st7 hQ7
  replace X7 := own_cast X7 l7 y7 z7
  obtain ⟨rfl, N7q, eq7⟩ := hQ7
  have N7 := Fr.app N6 N7q
  refine Goes.via (S' := (T7.setTop (mkF m 82 #[.val (.ref xs), .val (.int p1), .val (.long q2), .second, .val (.int p3)] [(.int (1 : Int32))]))) (fun t k => st7 _ k) ?_
  refine Goes.via (S' := (T7.setTop (mkF m 85 #[.val (.ref xs), .val (.int p1), .val (.long q2), .second, .val (.int p3)] []))) (fun t k => XS.ifNo X7.here hx rfl (hb hby d26_82) rfl ((if0 _ _).trans (feq (by decide : ¬ ((1 : Int32) = (0 : Int32)))).1) k) ?_
  refine Goes.via (S' := (T7.setTop (mkF m 86 #[.val (.ref xs), .val (.int p1), .val (.long q2), .second, .val (.int p3)] [(.int (1 : Int32))]))) (fun t k => XS.iconst X7.here hx rfl (hb hby d26_85) k) ?_
  refine Goes.via (S' := (T7.setTop (mkF m 90 #[.val (.ref xs), .val (.int p1), .val (.long q2), .second, .val (.int p3)] [(.int (1 : Int32))]))) (fun t k => XS.goto X7.here hx rfl (pc0 := 86) (pc' := 90) rfl (hb hby d26_86) (by decide) (by decide) k) ?_
  exact own_ret X7 hx Bd.notSynchronized Bd.returns rfl (Or.inl ⟨rfl, by simp, _, rfl⟩) (hb hby d26_90) eq7 ⟨rfl, N7, rfl⟩ (by decide) (by decide)
theorem ef_0 (m : MethodId) (p0 : Int32) (p1 : Int32) : entryFrame m #[(.int p0), (.int p1)] maxLocals = mkF m 0 #[.val (.int p0), .val (.int p1), .unset, .unset, .unset, .unset, .unset, .unset, .unset, .unset] [] := by first | (simp [entryFrame, mkF, argsToLocals, Value.category, maxLocals]; done) | rfl
def Q0 (Z : State) (p0 : Int32) (p1 : Int32) (wc : Int32) (vB : Value) (h0 : Heap) (n0 : Nat) (v : Option Value) (h : Heap) (L : List Loc) : Prop := v = some (.int 1) ∧ Fr n0 L
set_option maxRecDepth 65536 in
set_option maxHeartbeats 40000000 in
theorem rm0 (l : Launch) (Z : State) (a0 : Array Value) (hw : ∀ d ∈ tables_1, d.before a0 Z = true) (ws : List Jvm.Cond) (p0 : Int32) (p1 : Int32) (wc : Int32) (vB : Value) (h0 : Heap) (n0 : Nat) (Z0 : n0 ≤ h0.size) (f0_COMPACT_STRINGS : Sta Z h0 "java/lang/String" "COMPACT_STRINGS" "Z" (.int wc)) (f1_SIOOBE_FORMATTER : Sta Z h0 "jdk/internal/util/Preconditions" "SIOOBE_FORMATTER" "Ljava/util/function/BiFunction;" vB) (hwc : ¬ wc = (0 : Int32)) (hr_vB : vB.isRef = true) :
    MetFree l x (head1 (Jvm.Cond.code x code maxLocals ret :: ws) room_1) (fun a U => a = #[(.int p0), (.int p1)] ∧ Z.Warmed39 U.vm ∧ U.heap = h0) (fun _ _ _ _ _ => True) (fun _ U o U' => ∃ v L, o = .returned v ∧ Q0 Z p0 p1 wc vB h0 n0 v U'.heap L ∧ FrameEnd U o U' L 24 192) := by
  refine MetFree.of_bodySF (plainFor_of_name pn_232) hisR ?_
  intro p e s m args below meth c s₁ Bd hml0 hP hK
  obtain ⟨rfl, hZ, hh⟩ := hP
  have hx := Bd.exec
  have hby := Bd.bytes
  have hml : c.maxLocals = 10 := hml0
  have hown : s.vm.findClass "com/example/parsewright/parsewright/runtime/WriterNumberPinLaw" = some m.cls := findClass_of_methodNamed Bd.named
  have hnm := (name_of_methodNamed Bd.named Bd.method).1
  have X0 : Stand p l e room_1 s m #[(.int p0), (.int p1)] below meth c s₁ [] 0 0 := Stand.of_body Bd
  have e0 : s₁.heap = h0 := by rw [← hh, Bd.state]; rfl
  have N0 := Fr.nil n0
  refine own_start (Q := fun v h L => Q0 Z p0 p1 wc vB h0 n0 v h L) ?_
  refine Goes.via (S' := (s₁.setTop (mkF m 0 #[.val (.int p0), .val (.int p1), .unset, .unset, .unset, .unset, .unset, .unset, .unset, .unset] []))) (fun t k => castTop (ef_0 m p0 p1) k) ?_
  obtain ⟨T1, h1, X1, e1, E1, A1, D1, -, st1⟩ := newO X0 hx hZ hown (hw _ (List.mem_of_getElem? (i := 0) rfl)) (hw _ (List.mem_of_getElem? (i := 1) rfl)) (hw _ (List.mem_of_getElem? (i := 2) rfl)) e0 (g := (mkF m 0 #[.val (.int p0), .val (.int p1), .unset, .unset, .unset, .unset, .unset, .unset, .unset, .unset] [])) rfl (hb hby at_0) (by decide) (by decide)
  obtain ⟨b1, g1⟩ : ∃ z, z = h0.size := ⟨_, rfl⟩
  rw [← g1] at A1 D1 st1
  have f2 : Sta Z h1 "java/lang/String" "COMPACT_STRINGS" "Z" (.int wc) := f0_COMPACT_STRINGS.ext E1
  have f3 : Sta Z h1 "jdk/internal/util/Preconditions" "SIOOBE_FORMATTER" "Ljava/util/function/BiFunction;" vB := f1_SIOOBE_FORMATTER.ext E1
  have K1 : Keep h0 h1 [] := Keep.ext (Keep.refl h0 []) E1
  have Z1 : n0 ≤ h1.size := Nat.le_trans Z0 K1.1
  have g_b1 : n0 ≤ b1 := Nat.le_trans Z0 (Nat.le_of_eq g1.symm)
  have sz_b1 : h0.size ≤ b1 := Nat.le_trans ((Keep.refl h0 [])).1 (Nat.le_of_eq g1.symm)
  have f4 : Exa Z h1 b1 "com/example/parsewright/parsewright/runtime/Packing$Writer" := A1
  have f5 : Fld Z h1 b1 "com/example/parsewright/parsewright/runtime/Packing$Writer" "text" "Ljava/lang/StringBuilder;" .null := D1 (Or.inr (hw _ (List.mem_of_getElem? (i := 30) rfl))) (ty := (.object "java/lang/StringBuilder")) (by decide)
  refine Goes.via (S' := (T1.setTop (mkF m 3 #[.val (.int p0), .val (.int p1), .unset, .unset, .unset, .unset, .unset, .unset, .unset, .unset] [(.ref b1)]))) (fun t k => st1 _ k) ?_
  refine Goes.via (S' := (T1.setTop (mkF m 4 #[.val (.int p0), .val (.int p1), .unset, .unset, .unset, .unset, .unset, .unset, .unset, .unset] [(.ref b1), (.ref b1)]))) (fun t k => XS.dup X1.here hx rfl (hb hby at_3) rfl rfl k) ?_
  obtain ⟨_, _, ⟨T6, L6, k6, n6⟩, -, X6, ⟨Lc6, hQ6, l6, y6, z6⟩, st6⟩ := X1.specialBack hx (y := (⟨"com/example/parsewright/parsewright/runtime/Packing$Writer", "<init>", "()V"⟩ : MethodName)) rfl hown (mvT hZ (hw _ (List.mem_of_getElem? (i := 3) rfl))) (mvT hZ (hw _ (List.mem_of_getElem? (i := 4) rfl))) (mvT hZ (hw _ (List.mem_of_getElem? (i := 5) rfl))) (by decide) (backOf (W := 1) (rm1 l Z a0 hw [] b1 wc .null h1 n0 Z1 f4 f5 f2 g_b1 hwc) hZ (hw _ (List.mem_of_getElem? (i := 5) rfl)) (hw _ (List.mem_of_getElem? (i := 2) rfl)) (by decide) (by decide)) (g := (mkF m 4 #[.val (.int p0), .val (.int p1), .unset, .unset, .unset, .unset, .unset, .unset, .unset, .unset] [(.ref b1), (.ref b1)])) rfl (by rw [hml]; rfl) (Steps.refl _) (a := b1) (argsL := []) (rest := [(.ref b1)]) (lenOf pd_1 rfl) rfl (by show 2 * 0 + _ ≤ _; exact Nat.le_of_eq rfl) (hb hby at_4) (fun _ _ => ⟨rfl, e1, (by decide : 1 + 2 ≤ _), (by decide : 1 + 20 ≤ _)⟩)
  dsimp only [Pt.U, Pt.locs, Pt.cells, Pt.slots] at X6 l6 y6 z6 st6 hQ6
  replace X6 := own_cast X6 l6 y6 z6
  obtain ⟨ys_6, yb_6, kb_6, rfl, N6q, K6q, po6_0, po6_1, po6_2, po6_3, po6_4, po6_5, po6_6, px6_g_ys, px6_sz_ys, px6_g_yb, px6_sz_yb, px6_ne⟩ := hQ6
  have N6 := Fr.app N0 N6q
  have f7 : Sta Z T6.heap "java/lang/String" "COMPACT_STRINGS" "Z" (.int wc) := own_staKeep f2 K6q (allS (own_nst f4) all0)
  have f8 : Sta Z T6.heap "jdk/internal/util/Preconditions" "SIOOBE_FORMATTER" "Ljava/util/function/BiFunction;" vB := own_staKeep f3 K6q (allS (own_nst f4) all0)
  have f9 : Exa Z T6.heap b1 "com/example/parsewright/parsewright/runtime/Packing$Writer" := f4.keep K6q
  have K6 : Keep h0 T6.heap [] := Keep.trans K1 K6q (allS (Or.inr sz_b1) all0)
  have Z6 : n0 ≤ T6.heap.size := Nat.le_trans Z0 K6.1
  have g_ys_6 := px6_g_ys
  have sz_ys_6 : h0.size ≤ ys_6 := Nat.le_trans (K1).1 px6_sz_ys
  have ne_b1_ys_6 : b1 ≠ ys_6 := Nat.ne_of_lt (Nat.lt_of_lt_of_le f4.lt px6_sz_ys)
  have g_yb_6 := px6_g_yb
  have sz_yb_6 : h0.size ≤ yb_6 := Nat.le_trans (K1).1 px6_sz_yb
  have ne_b1_yb_6 : b1 ≠ yb_6 := Nat.ne_of_lt (Nat.lt_of_lt_of_le f4.lt px6_sz_yb)
  refine Goes.via (S' := (T6.setTop (mkF m 7 #[.val (.int p0), .val (.int p1), .unset, .unset, .unset, .unset, .unset, .unset, .unset, .unset] [(.ref b1)]))) (fun t k => st6.trans k) ?_
  refine Goes.via (S' := (T6.setTop (mkF m 8 #[.val (.int p0), .val (.int p1), .val (.ref b1), .unset, .unset, .unset, .unset, .unset, .unset, .unset] []))) (fun t k => XS.astoreN X6.here hx rfl (hb hby at_7) rfl rfl (l' := #[.val (.int p0), .val (.int p1), .val (.ref b1), .unset, .unset, .unset, .unset, .unset, .unset, .unset]) rfl k) ?_
  refine Goes.via (S' := (T6.setTop (mkF m 9 #[.val (.int p0), .val (.int p1), .val (.ref b1), .unset, .unset, .unset, .unset, .unset, .unset, .unset] [(.ref b1)]))) (fun t k => XS.aloadN X6.here hx rfl (hb hby at_8) rfl rfl k) ?_
  refine Goes.via (S' := (T6.setTop (mkF m 10 #[.val (.int p0), .val (.int p1), .val (.ref b1), .unset, .unset, .unset, .unset, .unset, .unset, .unset] [(.int p0), (.ref b1)]))) (fun t k => XS.iloadN X6.here hx rfl (hb hby at_9) rfl k) ?_
  obtain ⟨cq10, kq10, q10a, q10b, q10c⟩ := isOf hZ rfl po6_0
  obtain ⟨_, _, ⟨T10, L10, k10, n10⟩, -, X10, ⟨Lc10, hQ10, l10, y10, z10⟩, st10⟩ := X6.virtualBack hx (y := (⟨"com/example/parsewright/parsewright/runtime/Packing$Writer", "number", "(I)V"⟩ : MethodName)) (z := (⟨"com/example/parsewright/parsewright/runtime/Packing$Writer", "number", "(I)V"⟩ : MethodName)) hown (mvT hZ (hw _ (List.mem_of_getElem? (i := 31) rfl))) (mvT hZ (hw _ (List.mem_of_getElem? (i := 32) rfl))) (notFace_of_selects (args := #[]) (mvT hZ (hw _ (List.mem_of_getElem? (i := 34) rfl)))) (mvT hZ (hw _ (List.mem_of_getElem? (i := 34) rfl))) (mvT hZ (hw _ (List.mem_of_getElem? (i := 33) rfl))) (by decide) (backOf (W := 0) (rm5 l Z a0 hw [] b1 p0 ys_6 yb_6 kb_6 ([(.int (0 : Int32)), (.int (0 : Int32)), (.int (0 : Int32)), (.int (0 : Int32)), (.int (0 : Int32)), (.int (0 : Int32)), (.int (0 : Int32)), (.int (0 : Int32)), (.int (0 : Int32)), (.int (0 : Int32)), (.int (0 : Int32)), (.int (0 : Int32)), (.int (0 : Int32)), (.int (0 : Int32)), (.int (0 : Int32)), (.int (0 : Int32))] : List Value) 0 wc T6.heap n0 Z6 po6_1 po6_2 po6_3 po6_5 po6_4 po6_6 f7 ne_b1_ys_6 ne_b1_yb_6 px6_ne g_ys_6 g_yb_6 (Nat.zero_le 9) rfl hwc) hZ (hw _ (List.mem_of_getElem? (i := 35) rfl)) (hw _ (List.mem_of_getElem? (i := 2) rfl)) (by decide) (by decide)) q10a q10c (g := (mkF m 10 #[.val (.int p0), .val (.int p1), .val (.ref b1), .unset, .unset, .unset, .unset, .unset, .unset, .unset] [(.int p0), (.ref b1)])) rfl (by rw [hml]; rfl) (Steps.refl _) (argsL := [(.int p0)]) (rest := []) (lenOf pd_0 rfl) rfl (by show 2 * 0 + _ ≤ _; exact Nat.le_of_eq rfl) (hb hby at_10) (fun _ _ => ⟨rfl, rfl, (by decide : 3 + 0 ≤ _), (by decide : 21 + 0 ≤ _)⟩)
  dsimp only [Pt.U, Pt.locs, Pt.cells, Pt.slots] at X10 l10 y10 z10 st10 hQ10
  replace X10 := own_cast X10 l10 y10 z10
  obtain ⟨rfl, N10q, K10q, po10_0, po10_1, po10_2, po10_3, po10_4⟩ := hQ10
  have N10 := Fr.app N6 N10q
  have f11 : Sta Z T10.heap "java/lang/String" "COMPACT_STRINGS" "Z" (.int wc) := own_staKeep f7 K10q (allS (own_nst po6_2) (allS (own_nstV po6_6) all0))
  have f12 : Sta Z T10.heap "jdk/internal/util/Preconditions" "SIOOBE_FORMATTER" "Ljava/util/function/BiFunction;" vB := own_staKeep f8 K10q (allS (own_nst po6_2) (allS (own_nstV po6_6) all0))
  have f13 : Exa Z T10.heap b1 "com/example/parsewright/parsewright/runtime/Packing$Writer" := po6_0.keep K10q
  have f14 : Fld Z T10.heap b1 "com/example/parsewright/parsewright/runtime/Packing$Writer" "text" "Ljava/lang/StringBuilder;" (.ref ys_6) := po6_1.keep K10q (ninS ne_b1_ys_6 (ninS ne_b1_yb_6 nin0))
  have f15 : Exa Z T10.heap ys_6 "java/lang/StringBuilder" := po6_2.keep K10q
  have K10 : Keep h0 T10.heap [] := Keep.trans K6 K10q (allS (Or.inr sz_ys_6) (allS (Or.inr sz_yb_6) all0))
  have Z10 : n0 ≤ T10.heap.size := Nat.le_trans Z0 K10.1
  refine Goes.via (S' := (T10.setTop (mkF m 13 #[.val (.int p0), .val (.int p1), .val (.ref b1), .unset, .unset, .unset, .unset, .unset, .unset, .unset] []))) (fun t k => st10.trans k) ?_
  refine Goes.via (S' := (T10.setTop (mkF m 14 #[.val (.int p0), .val (.int p1), .val (.ref b1), .unset, .unset, .unset, .unset, .unset, .unset, .unset] [(.ref b1)]))) (fun t k => XS.aloadN X10.here hx rfl (hb hby at_13) rfl rfl k) ?_
  refine Goes.via (S' := (T10.setTop (mkF m 15 #[.val (.int p0), .val (.int p1), .val (.ref b1), .unset, .unset, .unset, .unset, .unset, .unset, .unset] [(.int p1), (.ref b1)]))) (fun t k => XS.iloadN X10.here hx rfl (hb hby at_14) rfl k) ?_
  obtain ⟨cq16, kq16, q16a, q16b, q16c⟩ := isOf hZ rfl f13
  obtain ⟨_, _, ⟨T16, L16, k16, n16⟩, -, X16, ⟨Lc16, hQ16, l16, y16, z16⟩, st16⟩ := X10.virtualBack hx (y := (⟨"com/example/parsewright/parsewright/runtime/Packing$Writer", "number", "(I)V"⟩ : MethodName)) (z := (⟨"com/example/parsewright/parsewright/runtime/Packing$Writer", "number", "(I)V"⟩ : MethodName)) hown (mvT hZ (hw _ (List.mem_of_getElem? (i := 31) rfl))) (mvT hZ (hw _ (List.mem_of_getElem? (i := 32) rfl))) (notFace_of_selects (args := #[]) (mvT hZ (hw _ (List.mem_of_getElem? (i := 34) rfl)))) (mvT hZ (hw _ (List.mem_of_getElem? (i := 34) rfl))) (mvT hZ (hw _ (List.mem_of_getElem? (i := 33) rfl))) (by decide) (backOf (W := 0) (rm5 l Z a0 hw [] b1 p1 ys_6 yb_6 kb_6 (own_puts ([(.int (0 : Int32)), (.int (0 : Int32)), (.int (0 : Int32)), (.int (0 : Int32)), (.int (0 : Int32)), (.int (0 : Int32)), (.int (0 : Int32)), (.int (0 : Int32)), (.int (0 : Int32)), (.int (0 : Int32)), (.int (0 : Int32)), (.int (0 : Int32)), (.int (0 : Int32)), (.int (0 : Int32)), (.int (0 : Int32)), (.int (0 : Int32))] : List Value) 0 (own_enc 6 (own_z p0))) (0 + (own_enc 6 (own_z p0)).length) wc T10.heap n0 Z10 f14 po10_0 po10_1 po10_2 po10_3 po10_4 f11 ne_b1_ys_6 ne_b1_yb_6 px6_ne g_ys_6 g_yb_6 (by have := own_enc_len 6 (own_z p0); omega) (by rw [own_puts_len]; rfl) hwc) hZ (hw _ (List.mem_of_getElem? (i := 35) rfl)) (hw _ (List.mem_of_getElem? (i := 2) rfl)) (by decide) (by decide)) q16a q16c (g := (mkF m 15 #[.val (.int p0), .val (.int p1), .val (.ref b1), .unset, .unset, .unset, .unset, .unset, .unset, .unset] [(.int p1), (.ref b1)])) rfl (by rw [hml]; rfl) (Steps.refl _) (argsL := [(.int p1)]) (rest := []) (lenOf pd_0 rfl) rfl (by show 2 * 0 + _ ≤ _; exact Nat.le_of_eq rfl) (hb hby at_15) (fun _ _ => ⟨rfl, rfl, (by decide : 3 + 0 ≤ _), (by decide : 21 + 0 ≤ _)⟩)
  dsimp only [Pt.U, Pt.locs, Pt.cells, Pt.slots] at X16 l16 y16 z16 st16 hQ16
  replace X16 := own_cast X16 l16 y16 z16
  obtain ⟨rfl, N16q, K16q, po16_0, po16_1, po16_2, po16_3, po16_4⟩ := hQ16
  have N16 := Fr.app N10 N16q
  have f17 : Sta Z T16.heap "java/lang/String" "COMPACT_STRINGS" "Z" (.int wc) := own_staKeep f11 K16q (allS (own_nst po10_0) (allS (own_nstV po10_4) all0))
  have f18 : Sta Z T16.heap "jdk/internal/util/Preconditions" "SIOOBE_FORMATTER" "Ljava/util/function/BiFunction;" vB := own_staKeep f12 K16q (allS (own_nst po10_0) (allS (own_nstV po10_4) all0))
  have f19 : Exa Z T16.heap b1 "com/example/parsewright/parsewright/runtime/Packing$Writer" := f13.keep K16q
  have f20 : Fld Z T16.heap b1 "com/example/parsewright/parsewright/runtime/Packing$Writer" "text" "Ljava/lang/StringBuilder;" (.ref ys_6) := f14.keep K16q (ninS ne_b1_ys_6 (ninS ne_b1_yb_6 nin0))
  have f21 : Exa Z T16.heap ys_6 "java/lang/StringBuilder" := po10_0.keep K16q
  have K16 : Keep h0 T16.heap [] := Keep.trans K10 K16q (allS (Or.inr sz_ys_6) (allS (Or.inr sz_yb_6) all0))
  have Z16 : n0 ≤ T16.heap.size := Nat.le_trans Z0 K16.1
  refine Goes.via (S' := (T16.setTop (mkF m 18 #[.val (.int p0), .val (.int p1), .val (.ref b1), .unset, .unset, .unset, .unset, .unset, .unset, .unset] []))) (fun t k => st16.trans k) ?_
  refine Goes.via (S' := (T16.setTop (mkF m 19 #[.val (.int p0), .val (.int p1), .val (.ref b1), .unset, .unset, .unset, .unset, .unset, .unset, .unset] [(.ref b1)]))) (fun t k => XS.aloadN X16.here hx rfl (hb hby at_18) rfl rfl k) ?_
  obtain ⟨cq22, kq22, q22a, q22b, q22c⟩ := isOf hZ rfl f19
  obtain ⟨_, _, ⟨T22, L22, k22, n22⟩, -, X22, ⟨Lc22, hQ22, l22, y22, z22⟩, st22⟩ := X16.virtualBack hx (y := (⟨"com/example/parsewright/parsewright/runtime/Packing$Writer", "toString", "()Ljava/lang/String;"⟩ : MethodName)) (z := (⟨"com/example/parsewright/parsewright/runtime/Packing$Writer", "toString", "()Ljava/lang/String;"⟩ : MethodName)) hown (mvT hZ (hw _ (List.mem_of_getElem? (i := 62) rfl))) (mvT hZ (hw _ (List.mem_of_getElem? (i := 63) rfl))) (notFace_of_selects (args := #[]) (mvT hZ (hw _ (List.mem_of_getElem? (i := 65) rfl)))) (mvT hZ (hw _ (List.mem_of_getElem? (i := 65) rfl))) (mvT hZ (hw _ (List.mem_of_getElem? (i := 64) rfl))) (by decide) (backOf (W := 0) (rm11 l Z a0 hw [] b1 ys_6 yb_6 kb_6 (own_puts (own_puts ([(.int (0 : Int32)), (.int (0 : Int32)), (.int (0 : Int32)), (.int (0 : Int32)), (.int (0 : Int32)), (.int (0 : Int32)), (.int (0 : Int32)), (.int (0 : Int32)), (.int (0 : Int32)), (.int (0 : Int32)), (.int (0 : Int32)), (.int (0 : Int32)), (.int (0 : Int32)), (.int (0 : Int32)), (.int (0 : Int32)), (.int (0 : Int32))] : List Value) 0 (own_enc 6 (own_z p0))) (0 + (own_enc 6 (own_z p0)).length) (own_enc 6 (own_z p1))) ((0 + (own_enc 6 (own_z p0)).length) + (own_enc 6 (own_z p1)).length) wc T16.heap n0 Z16 f20 po16_0 po16_1 po16_2 po16_3 po16_4 f17 (by have := own_enc_len 6 (own_z p0); have := own_enc_len 6 (own_z p1); omega) hwc) hZ (hw _ (List.mem_of_getElem? (i := 66) rfl)) (hw _ (List.mem_of_getElem? (i := 2) rfl)) (by decide) (by decide)) q22a q22c (g := (mkF m 19 #[.val (.int p0), .val (.int p1), .val (.ref b1), .unset, .unset, .unset, .unset, .unset, .unset, .unset] [(.ref b1)])) rfl (by rw [hml]; rfl) (Steps.refl _) (argsL := []) (rest := []) (lenOf pd_13 rfl) rfl (by show 2 * 0 + _ ≤ _; exact Nat.le_of_eq rfl) (hb hby at_19) (fun _ _ => ⟨rfl, rfl, (by decide : 3 + 2 ≤ _), (by decide : 21 + 20 ≤ _)⟩)
  dsimp only [Pt.U, Pt.locs, Pt.cells, Pt.slots] at X22 l22 y22 z22 st22 hQ22
  replace X22 := own_cast X22 l22 y22 z22
  obtain ⟨xs_22, yn_22, kn_22, vn_22, rfl, N22q, K22q, po22_0, po22_1, po22_2, po22_3, px22_g_xs, px22_sz_xs, px22_g_yn, px22_sz_yn, px22_cp⟩ := hQ22
  have N22 := Fr.app N16 N22q
  have f23 : Sta Z T22.heap "java/lang/String" "COMPACT_STRINGS" "Z" (.int wc) := own_staKeep f17 K22q all0
  have f24 : Sta Z T22.heap "jdk/internal/util/Preconditions" "SIOOBE_FORMATTER" "Ljava/util/function/BiFunction;" vB := own_staKeep f18 K22q all0
  have f25 : Exa Z T22.heap b1 "com/example/parsewright/parsewright/runtime/Packing$Writer" := f19.keep K22q
  have f26 : Fld Z T22.heap b1 "com/example/parsewright/parsewright/runtime/Packing$Writer" "text" "Ljava/lang/StringBuilder;" (.ref ys_6) := f20.keep K22q nin0
  have f27 : Exa Z T22.heap ys_6 "java/lang/StringBuilder" := po16_0.keep K22q
  have f28 : Fld Z T22.heap ys_6 "java/lang/AbstractStringBuilder" "value" "[B" (.ref yb_6) := po16_1.keep K22q nin0
  have f29 : Fld Z T22.heap ys_6 "java/lang/AbstractStringBuilder" "coder" "B" (.int (0 : Int32)) := po16_2.keep K22q nin0
  have f30 : Fld Z T22.heap ys_6 "java/lang/AbstractStringBuilder" "count" "I" (.int (Int32.ofNat ((0 + (own_enc 6 (own_z p0)).length) + (own_enc 6 (own_z p1)).length))) := po16_3.keep K22q nin0
  have f31 : Arv Z T22.heap yb_6 kb_6 .byte (16 : Int32) (own_puts (own_puts ([(.int (0 : Int32)), (.int (0 : Int32)), (.int (0 : Int32)), (.int (0 : Int32)), (.int (0 : Int32)), (.int (0 : Int32)), (.int (0 : Int32)), (.int (0 : Int32)), (.int (0 : Int32)), (.int (0 : Int32)), (.int (0 : Int32)), (.int (0 : Int32)), (.int (0 : Int32)), (.int (0 : Int32)), (.int (0 : Int32)), (.int (0 : Int32))] : List Value) 0 (own_enc 6 (own_z p0))) (0 + (own_enc 6 (own_z p0)).length) (own_enc 6 (own_z p1))) (.int (0 : Int32)) := po16_4.keep K22q nin0
  have K22 : Keep h0 T22.heap [] := Keep.trans K16 K22q all0
  have Z22 : n0 ≤ T22.heap.size := Nat.le_trans Z0 K22.1
  have g_xs_22 := px22_g_xs
  have sz_xs_22 : h0.size ≤ xs_22 := Nat.le_trans (K16).1 px22_sz_xs
  have ne_b1_xs_22 : b1 ≠ xs_22 := Nat.ne_of_lt (Nat.lt_of_lt_of_le f19.lt px22_sz_xs)
  have ne_ys_6_xs_22 : ys_6 ≠ xs_22 := Nat.ne_of_lt (Nat.lt_of_lt_of_le po16_0.lt px22_sz_xs)
  have ne_yb_6_xs_22 : yb_6 ≠ xs_22 := Nat.ne_of_lt (Nat.lt_of_lt_of_le po16_4.lt px22_sz_xs)
  have g_yn_22 := px22_g_yn
  have sz_yn_22 : h0.size ≤ yn_22 := Nat.le_trans (K16).1 px22_sz_yn
  have ne_b1_yn_22 : b1 ≠ yn_22 := Nat.ne_of_lt (Nat.lt_of_lt_of_le f19.lt px22_sz_yn)
  have ne_ys_6_yn_22 : ys_6 ≠ yn_22 := Nat.ne_of_lt (Nat.lt_of_lt_of_le po16_0.lt px22_sz_yn)
  have ne_yb_6_yn_22 : yb_6 ≠ yn_22 := Nat.ne_of_lt (Nat.lt_of_lt_of_le po16_4.lt px22_sz_yn)
  refine Goes.via (S' := (T22.setTop (mkF m 22 #[.val (.int p0), .val (.int p1), .val (.ref b1), .unset, .unset, .unset, .unset, .unset, .unset, .unset] [(.ref xs_22)]))) (fun t k => st22.trans k) ?_
  refine Goes.via (S' := (T22.setTop (mkF m 23 #[.val (.int p0), .val (.int p1), .val (.ref b1), .val (.ref xs_22), .unset, .unset, .unset, .unset, .unset, .unset] []))) (fun t k => XS.astoreN X22.here hx rfl (hb hby at_22) rfl rfl (l' := #[.val (.int p0), .val (.int p1), .val (.ref b1), .val (.ref xs_22), .unset, .unset, .unset, .unset, .unset, .unset]) rfl k) ?_
  refine Goes.via (S' := (T22.setTop (mkF m 24 #[.val (.int p0), .val (.int p1), .val (.ref b1), .val (.ref xs_22), .unset, .unset, .unset, .unset, .unset, .unset] [(.int p0)]))) (fun t k => XS.iloadN X22.here hx rfl (hb hby at_23) rfl k) ?_
  obtain ⟨_, _, ⟨T32, L32, k32, n32⟩, -, X32, ⟨Lc32, hQ32, l32, y32, z32⟩, st32⟩ := Jvm.LawKit.callS X22 hx (y := (⟨"com/example/parsewright/parsewright/runtime/WriterNumberPinLaw", "zig", "(I)J"⟩ : MethodName)) hown (mvT hZ (hw _ (List.mem_of_getElem? (i := 118) rfl))) (mvT hZ (hw _ (List.mem_of_getElem? (i := 119) rfl))) (mvT hZ (hw _ (List.mem_of_getElem? (i := 120) rfl))) (mvT hZ (hw _ (List.mem_of_getElem? (i := 121) rfl))) (by decide) (backOf (W := 0) (rm22 l Z a0 hw [] p0 T22.heap n0 Z22 ) hZ (hw _ (List.mem_of_getElem? (i := 121) rfl)) (hw _ (List.mem_of_getElem? (i := 120) rfl)) (by decide) (by decide)) (g := (mkF m 24 #[.val (.int p0), .val (.int p1), .val (.ref b1), .val (.ref xs_22), .unset, .unset, .unset, .unset, .unset, .unset] [(.int p0)])) rfl (by rw [hml]; rfl) (argsL := [(.int p0)]) (rest := []) (lenOf pd_19 rfl) rfl (by show 2 * 0 + _ ≤ _; exact Nat.le_of_eq rfl) (hb hby at_24) (fun _ _ => ⟨rfl, rfl, (by decide : 5 + 0 ≤ _), (by decide : 41 + 0 ≤ _)⟩)
  dsimp only [Pt.U, Pt.locs, Pt.cells, Pt.slots] at X32 l32 y32 z32 st32 hQ32
  replace X32 := own_cast X32 l32 y32 z32
  obtain ⟨r32, rfl, hr32, N32q, eq32⟩ := hQ32
  have N32 := Fr.app N22 N32q
  refine Goes.via (S' := (T32.setTop (mkF m 27 #[.val (.int p0), .val (.int p1), .val (.ref b1), .val (.ref xs_22), .unset, .unset, .unset, .unset, .unset, .unset] [(.long r32)]))) (fun t k => st32 _ k) ?_
  refine Goes.via (S' := (T32.setTop (mkF m 29 #[.val (.int p0), .val (.int p1), .val (.ref b1), .val (.ref xs_22), .val (.long r32), .second, .unset, .unset, .unset, .unset] []))) (fun t k => XS.lstore X32.here hx rfl (hb hby at_27) rfl (l' := #[.val (.int p0), .val (.int p1), .val (.ref b1), .val (.ref xs_22), .val (.long r32), .second, .unset, .unset, .unset, .unset]) rfl k) ?_
  refine Goes.via (S' := (T32.setTop (mkF m 30 #[.val (.int p0), .val (.int p1), .val (.ref b1), .val (.ref xs_22), .val (.long r32), .second, .unset, .unset, .unset, .unset] [(.int p1)]))) (fun t k => XS.iloadN X32.here hx rfl (hb hby at_29) rfl k) ?_
  obtain ⟨_, _, ⟨T33, L33, k33, n33⟩, -, X33, ⟨Lc33, hQ33, l33, y33, z33⟩, st33⟩ := Jvm.LawKit.callS X32 hx (y := (⟨"com/example/parsewright/parsewright/runtime/WriterNumberPinLaw", "zig", "(I)J"⟩ : MethodName)) hown (mvT hZ (hw _ (List.mem_of_getElem? (i := 118) rfl))) (mvT hZ (hw _ (List.mem_of_getElem? (i := 119) rfl))) (mvT hZ (hw _ (List.mem_of_getElem? (i := 120) rfl))) (mvT hZ (hw _ (List.mem_of_getElem? (i := 121) rfl))) (by decide) (backOf (W := 0) (rm22 l Z a0 hw [] p1 T22.heap n0 Z22 ) hZ (hw _ (List.mem_of_getElem? (i := 121) rfl)) (hw _ (List.mem_of_getElem? (i := 120) rfl)) (by decide) (by decide)) (g := (mkF m 30 #[.val (.int p0), .val (.int p1), .val (.ref b1), .val (.ref xs_22), .val (.long r32), .second, .unset, .unset, .unset, .unset] [(.int p1)])) rfl (by rw [hml]; rfl) (argsL := [(.int p1)]) (rest := []) (lenOf pd_19 rfl) rfl (by show 2 * 0 + _ ≤ _; exact Nat.le_of_eq rfl) (hb hby at_30) (fun _ _ => ⟨rfl, eq32, (by decide : 5 + 0 ≤ _), (by decide : 41 + 0 ≤ _)⟩)
  dsimp only [Pt.U, Pt.locs, Pt.cells, Pt.slots] at X33 l33 y33 z33 st33 hQ33
  replace X33 := own_cast X33 l33 y33 z33
  obtain ⟨r33, rfl, hr33, N33q, eq33⟩ := hQ33
  have N33 := Fr.app N32 N33q
  refine Goes.via (S' := (T33.setTop (mkF m 33 #[.val (.int p0), .val (.int p1), .val (.ref b1), .val (.ref xs_22), .val (.long r32), .second, .unset, .unset, .unset, .unset] [(.long r33)]))) (fun t k => st33 _ k) ?_
  refine Goes.via (S' := (T33.setTop (mkF m 35 #[.val (.int p0), .val (.int p1), .val (.ref b1), .val (.ref xs_22), .val (.long r32), .second, .val (.long r33), .second, .unset, .unset] []))) (fun t k => XS.lstore X33.here hx rfl (hb hby at_33) rfl (l' := #[.val (.int p0), .val (.int p1), .val (.ref b1), .val (.ref xs_22), .val (.long r32), .second, .val (.long r33), .second, .unset, .unset]) rfl k) ?_
  refine Goes.via (S' := (T33.setTop (mkF m 37 #[.val (.int p0), .val (.int p1), .val (.ref b1), .val (.ref xs_22), .val (.long r32), .second, .val (.long r33), .second, .unset, .unset] [(.long r32)]))) (fun t k => XS.lload X33.here hx rfl (hb hby at_35) rfl k) ?_
  obtain ⟨_, _, ⟨T34, L34, k34, n34⟩, -, X34, ⟨Lc34, hQ34, l34, y34, z34⟩, st34⟩ := Jvm.LawKit.callS X33 hx (y := (⟨"com/example/parsewright/parsewright/runtime/WriterNumberPinLaw", "len", "(J)I"⟩ : MethodName)) hown (mvT hZ (hw _ (List.mem_of_getElem? (i := 123) rfl))) (mvT hZ (hw _ (List.mem_of_getElem? (i := 124) rfl))) (mvT hZ (hw _ (List.mem_of_getElem? (i := 120) rfl))) (mvT hZ (hw _ (List.mem_of_getElem? (i := 125) rfl))) (by decide) (backOf (W := 0) (rm23 l Z a0 hw [] r32 (own_z p0) T22.heap n0 Z22 hr32) hZ (hw _ (List.mem_of_getElem? (i := 125) rfl)) (hw _ (List.mem_of_getElem? (i := 120) rfl)) (by decide) (by decide)) (g := (mkF m 37 #[.val (.int p0), .val (.int p1), .val (.ref b1), .val (.ref xs_22), .val (.long r32), .second, .val (.long r33), .second, .unset, .unset] [(.long r32)])) rfl (by rw [hml]; rfl) (argsL := [(.long r32)]) (rest := []) (lenOf pd_20 rfl) rfl (by show 2 * 0 + _ ≤ _; exact Nat.le_of_eq rfl) (hb hby at_37) (fun _ _ => ⟨rfl, eq33, (by decide : 5 + 0 ≤ _), (by decide : 41 + 0 ≤ _)⟩)
  dsimp only [Pt.U, Pt.locs, Pt.cells, Pt.slots] at X34 l34 y34 z34 st34 hQ34
  replace X34 := own_cast X34 l34 y34 z34
  obtain ⟨r34, rfl, hr34, N34q, eq34⟩ := hQ34
  have N34 := Fr.app N33 N34q
  refine Goes.via (S' := (T34.setTop (mkF m 40 #[.val (.int p0), .val (.int p1), .val (.ref b1), .val (.ref xs_22), .val (.long r32), .second, .val (.long r33), .second, .unset, .unset] [(.int r34)]))) (fun t k => st34 _ k) ?_
  refine Goes.via (S' := (T34.setTop (mkF m 42 #[.val (.int p0), .val (.int p1), .val (.ref b1), .val (.ref xs_22), .val (.long r32), .second, .val (.long r33), .second, .val (.int r34), .unset] []))) (fun t k => XS.istore X34.here hx rfl (hb hby at_40) rfl (l' := #[.val (.int p0), .val (.int p1), .val (.ref b1), .val (.ref xs_22), .val (.long r32), .second, .val (.long r33), .second, .val (.int r34), .unset]) rfl k) ?_
  refine Goes.via (S' := (T34.setTop (mkF m 44 #[.val (.int p0), .val (.int p1), .val (.ref b1), .val (.ref xs_22), .val (.long r32), .second, .val (.long r33), .second, .val (.int r34), .unset] [(.long r33)]))) (fun t k => XS.lload X34.here hx rfl (hb hby at_42) rfl k) ?_
  obtain ⟨_, _, ⟨T35, L35, k35, n35⟩, -, X35, ⟨Lc35, hQ35, l35, y35, z35⟩, st35⟩ := Jvm.LawKit.callS X34 hx (y := (⟨"com/example/parsewright/parsewright/runtime/WriterNumberPinLaw", "len", "(J)I"⟩ : MethodName)) hown (mvT hZ (hw _ (List.mem_of_getElem? (i := 123) rfl))) (mvT hZ (hw _ (List.mem_of_getElem? (i := 124) rfl))) (mvT hZ (hw _ (List.mem_of_getElem? (i := 120) rfl))) (mvT hZ (hw _ (List.mem_of_getElem? (i := 125) rfl))) (by decide) (backOf (W := 0) (rm23 l Z a0 hw [] r33 (own_z p1) T22.heap n0 Z22 hr33) hZ (hw _ (List.mem_of_getElem? (i := 125) rfl)) (hw _ (List.mem_of_getElem? (i := 120) rfl)) (by decide) (by decide)) (g := (mkF m 44 #[.val (.int p0), .val (.int p1), .val (.ref b1), .val (.ref xs_22), .val (.long r32), .second, .val (.long r33), .second, .val (.int r34), .unset] [(.long r33)])) rfl (by rw [hml]; rfl) (argsL := [(.long r33)]) (rest := []) (lenOf pd_20 rfl) rfl (by show 2 * 0 + _ ≤ _; exact Nat.le_of_eq rfl) (hb hby at_44) (fun _ _ => ⟨rfl, eq34, (by decide : 5 + 0 ≤ _), (by decide : 41 + 0 ≤ _)⟩)
  dsimp only [Pt.U, Pt.locs, Pt.cells, Pt.slots] at X35 l35 y35 z35 st35 hQ35
  replace X35 := own_cast X35 l35 y35 z35
  obtain ⟨r35, rfl, hr35, N35q, eq35⟩ := hQ35
  have N35 := Fr.app N34 N35q
  refine Goes.via (S' := (T35.setTop (mkF m 47 #[.val (.int p0), .val (.int p1), .val (.ref b1), .val (.ref xs_22), .val (.long r32), .second, .val (.long r33), .second, .val (.int r34), .unset] [(.int r35)]))) (fun t k => st35 _ k) ?_
  refine Goes.via (S' := (T35.setTop (mkF m 49 #[.val (.int p0), .val (.int p1), .val (.ref b1), .val (.ref xs_22), .val (.long r32), .second, .val (.long r33), .second, .val (.int r34), .val (.int r35)] []))) (fun t k => XS.istore X35.here hx rfl (hb hby at_47) rfl (l' := #[.val (.int p0), .val (.int p1), .val (.ref b1), .val (.ref xs_22), .val (.long r32), .second, .val (.long r33), .second, .val (.int r34), .val (.int r35)]) rfl k) ?_
  refine Goes.via (S' := (T35.setTop (mkF m 50 #[.val (.int p0), .val (.int p1), .val (.ref b1), .val (.ref xs_22), .val (.long r32), .second, .val (.long r33), .second, .val (.int r34), .val (.int r35)] [(.ref xs_22)]))) (fun t k => XS.aloadN X35.here hx rfl (hb hby at_49) rfl rfl k) ?_
  obtain ⟨cq36, kq36, q36a, q36b, q36c⟩ := isOf hZ eq35 po22_0
  obtain ⟨_, _, ⟨T36, L36, k36, n36⟩, -, X36, ⟨Lc36, hQ36, l36, y36, z36⟩, st36⟩ := X35.virtualBack hx (y := (⟨"java/lang/String", "length", "()I"⟩ : MethodName)) (z := (⟨"java/lang/String", "length", "()I"⟩ : MethodName)) hown (mvT hZ (hw _ (List.mem_of_getElem? (i := 127) rfl))) (mvT hZ (hw _ (List.mem_of_getElem? (i := 128) rfl))) (notFace_of_selects (args := #[]) (mvT hZ (hw _ (List.mem_of_getElem? (i := 130) rfl)))) (mvT hZ (hw _ (List.mem_of_getElem? (i := 130) rfl))) (mvT hZ (hw _ (List.mem_of_getElem? (i := 129) rfl))) (by decide) (backOf (W := 0) (rm24 l Z a0 hw [] xs_22 yn_22 kn_22 vn_22 ((0 + (own_enc 6 (own_z p0)).length) + (own_enc 6 (own_z p1)).length) wc T22.heap n0 Z22 po22_0 po22_1 po22_2 po22_3 f23 hwc) hZ (hw _ (List.mem_of_getElem? (i := 131) rfl)) (hw _ (List.mem_of_getElem? (i := 23) rfl)) (by decide) (by decide)) q36a q36c (g := (mkF m 50 #[.val (.int p0), .val (.int p1), .val (.ref b1), .val (.ref xs_22), .val (.long r32), .second, .val (.long r33), .second, .val (.int r34), .val (.int r35)] [(.ref xs_22)])) rfl (by rw [hml]; rfl) (Steps.refl _) (argsL := []) (rest := []) (lenOf pd_6 rfl) rfl (by show 2 * 0 + _ ≤ _; exact Nat.le_of_eq rfl) (hb hby at_50) (fun _ _ => ⟨rfl, eq35, (by decide : 5 + 0 ≤ _), (by decide : 41 + 0 ≤ _)⟩)
  dsimp only [Pt.U, Pt.locs, Pt.cells, Pt.slots] at X36 l36 y36 z36 st36 hQ36
  replace X36 := own_cast X36 l36 y36 z36
  obtain ⟨rfl, N36q, eq36⟩ := hQ36
  have N36 := Fr.app N35 N36q
  refine Goes.via (S' := (T36.setTop (mkF m 53 #[.val (.int p0), .val (.int p1), .val (.ref b1), .val (.ref xs_22), .val (.long r32), .second, .val (.long r33), .second, .val (.int r34), .val (.int r35)] [(.int (Int32.ofNat ((0 + (own_enc 6 (own_z p0)).length) + (own_enc 6 (own_z p1)).length)))]))) (fun t k => st36.trans k) ?_
  refine Goes.via (S' := (T36.setTop (mkF m 55 #[.val (.int p0), .val (.int p1), .val (.ref b1), .val (.ref xs_22), .val (.long r32), .second, .val (.long r33), .second, .val (.int r34), .val (.int r35)] [(.int r34), (.int (Int32.ofNat ((0 + (own_enc 6 (own_z p0)).length) + (own_enc 6 (own_z p1)).length)))]))) (fun t k => XS.iload X36.here hx rfl (hb hby at_53) rfl k) ?_
  refine Goes.via (S' := (T36.setTop (mkF m 57 #[.val (.int p0), .val (.int p1), .val (.ref b1), .val (.ref xs_22), .val (.long r32), .second, .val (.long r33), .second, .val (.int r34), .val (.int r35)] [(.int r35), (.int r34), (.int (Int32.ofNat ((0 + (own_enc 6 (own_z p0)).length) + (own_enc 6 (own_z p1)).length)))]))) (fun t k => XS.iload X36.here hx rfl (hb hby at_55) rfl k) ?_
  refine Goes.via (S' := (T36.setTop (mkF m 58 #[.val (.int p0), .val (.int p1), .val (.ref b1), .val (.ref xs_22), .val (.long r32), .second, .val (.long r33), .second, .val (.int r34), .val (.int r35)] [(.int (r34 + r35)), (.int (Int32.ofNat ((0 + (own_enc 6 (own_z p0)).length) + (own_enc 6 (own_z p1)).length)))]))) (fun t k => XS.iadd X36.here hx rfl (hb hby at_57) rfl k) ?_
  refine Goes.via (S' := (T36.setTop (mkF m 63 #[.val (.int p0), .val (.int p1), .val (.ref b1), .val (.ref xs_22), .val (.long r32), .second, .val (.long r33), .second, .val (.int r34), .val (.int r35)] []))) (fun t k => XS.icmpYes X36.here hx rfl (pc0 := 58) (pc' := 63) rfl (hb hby at_58) rfl (teq (own_tot hr34 hr35 : ((Int32.ofNat ((0 + (own_enc 6 (own_z p0)).length) + (own_enc 6 (own_z p1)).length)) = (r34 + r35)))).1 (by decide) (by decide) k) ?_
  refine Goes.via (S' := (T36.setTop (mkF m 64 #[.val (.int p0), .val (.int p1), .val (.ref b1), .val (.ref xs_22), .val (.long r32), .second, .val (.long r33), .second, .val (.int r34), .val (.int r35)] [(.ref xs_22)]))) (fun t k => XS.aloadN X36.here hx rfl (hb hby at_63) rfl rfl k) ?_
  refine Goes.via (S' := (T36.setTop (mkF m 65 #[.val (.int p0), .val (.int p1), .val (.ref b1), .val (.ref xs_22), .val (.long r32), .second, .val (.long r33), .second, .val (.int r34), .val (.int r35)] [(.int (0 : Int32)), (.ref xs_22)]))) (fun t k => XS.iconst X36.here hx rfl (hb hby at_64) k) ?_
  refine Goes.via (S' := (T36.setTop (mkF m 67 #[.val (.int p0), .val (.int p1), .val (.ref b1), .val (.ref xs_22), .val (.long r32), .second, .val (.long r33), .second, .val (.int r34), .val (.int r35)] [(.long r32), (.int (0 : Int32)), (.ref xs_22)]))) (fun t k => XS.lload X36.here hx rfl (hb hby at_65) rfl k) ?_
  refine Goes.via (S' := (T36.setTop (mkF m 69 #[.val (.int p0), .val (.int p1), .val (.ref b1), .val (.ref xs_22), .val (.long r32), .second, .val (.long r33), .second, .val (.int r34), .val (.int r35)] [(.int r34), (.long r32), (.int (0 : Int32)), (.ref xs_22)]))) (fun t k => XS.iload X36.here hx rfl (hb hby at_67) rfl k) ?_
  obtain ⟨_, _, ⟨T37, L37, k37, n37⟩, -, X37, ⟨Lc37, hQ37, l37, y37, z37⟩, st37⟩ := Jvm.LawKit.callS X36 hx (y := (⟨"com/example/parsewright/parsewright/runtime/WriterNumberPinLaw", "encodes", "(Ljava/lang/String;IJI)Z"⟩ : MethodName)) hown (mvT hZ (hw _ (List.mem_of_getElem? (i := 138) rfl))) (mvT hZ (hw _ (List.mem_of_getElem? (i := 139) rfl))) (mvT hZ (hw _ (List.mem_of_getElem? (i := 120) rfl))) (mvT hZ (hw _ (List.mem_of_getElem? (i := 140) rfl))) (by decide) (backOf (W := 0) (rm26 l Z a0 hw [] xs_22 (0 : Int32) r32 r34 yn_22 kn_22 vn_22 (Int32.ofNat ((0 + (own_enc 6 (own_z p0)).length) + (own_enc 6 (own_z p1)).length)) wc vB (Int32.ofNat ((own_enc 6 (own_z p0)).getD 0 0)) (Int32.ofNat ((own_enc 6 (own_z p0)).getD 1 0)) (Int32.ofNat ((own_enc 6 (own_z p0)).getD 2 0)) (Int32.ofNat ((own_enc 6 (own_z p0)).getD 3 0)) (Int32.ofNat ((own_enc 6 (own_z p0)).getD 4 0)) (Int32.ofNat ((own_enc 6 (own_z p0)).getD 5 0)) (Int32.ofNat ((own_enc 6 (own_z p0)).getD 6 0)) T22.heap n0 Z22 po22_0 po22_1 po22_2 po22_3 f23 f24 hwc hr_vB (own_dg (C2 := ((0 + (own_enc 6 (own_z p0)).length) + (own_enc 6 (own_z p1)).length)) 0 (p1 := (0 : Int32)) (o := 0) rfl (by decide : (0 : Int32) = Int32.ofNat 0) hr34 hr32 own_zl (own_first rfl px22_cp) (by omega) (by have := own_enc_len 6 (own_z p0); have := own_enc_len 6 (own_z p1); omega) (by decide) (by decide)) (own_dg (C2 := ((0 + (own_enc 6 (own_z p0)).length) + (own_enc 6 (own_z p1)).length)) 1 (p1 := (0 : Int32)) (o := 0) rfl (by decide : (1 : Int32) = Int32.ofNat 1) hr34 hr32 own_zl (own_first rfl px22_cp) (by omega) (by have := own_enc_len 6 (own_z p0); have := own_enc_len 6 (own_z p1); omega) (by decide) (by decide)) (own_dg (C2 := ((0 + (own_enc 6 (own_z p0)).length) + (own_enc 6 (own_z p1)).length)) 2 (p1 := (0 : Int32)) (o := 0) rfl (by decide : (2 : Int32) = Int32.ofNat 2) hr34 hr32 own_zl (own_first rfl px22_cp) (by omega) (by have := own_enc_len 6 (own_z p0); have := own_enc_len 6 (own_z p1); omega) (by decide) (by decide)) (own_dg (C2 := ((0 + (own_enc 6 (own_z p0)).length) + (own_enc 6 (own_z p1)).length)) 3 (p1 := (0 : Int32)) (o := 0) rfl (by decide : (3 : Int32) = Int32.ofNat 3) hr34 hr32 own_zl (own_first rfl px22_cp) (by omega) (by have := own_enc_len 6 (own_z p0); have := own_enc_len 6 (own_z p1); omega) (by decide) (by decide)) (own_dg (C2 := ((0 + (own_enc 6 (own_z p0)).length) + (own_enc 6 (own_z p1)).length)) 4 (p1 := (0 : Int32)) (o := 0) rfl (by decide : (4 : Int32) = Int32.ofNat 4) hr34 hr32 own_zl (own_first rfl px22_cp) (by omega) (by have := own_enc_len 6 (own_z p0); have := own_enc_len 6 (own_z p1); omega) (by decide) (by decide)) (own_dg (C2 := ((0 + (own_enc 6 (own_z p0)).length) + (own_enc 6 (own_z p1)).length)) 5 (p1 := (0 : Int32)) (o := 0) rfl (by decide : (5 : Int32) = Int32.ofNat 5) hr34 hr32 own_zl (own_first rfl px22_cp) (by omega) (by have := own_enc_len 6 (own_z p0); have := own_enc_len 6 (own_z p1); omega) (by decide) (by decide)) (own_dg (C2 := ((0 + (own_enc 6 (own_z p0)).length) + (own_enc 6 (own_z p1)).length)) 6 (p1 := (0 : Int32)) (o := 0) rfl (by decide : (6 : Int32) = Int32.ofNat 6) hr34 hr32 own_zl (own_first rfl px22_cp) (by omega) (by have := own_enc_len 6 (own_z p0); have := own_enc_len 6 (own_z p1); omega) (by decide) (by decide))) hZ (hw _ (List.mem_of_getElem? (i := 140) rfl)) (hw _ (List.mem_of_getElem? (i := 120) rfl)) (by decide) (by decide)) (g := (mkF m 69 #[.val (.int p0), .val (.int p1), .val (.ref b1), .val (.ref xs_22), .val (.long r32), .second, .val (.long r33), .second, .val (.int r34), .val (.int r35)] [(.int r34), (.long r32), (.int (0 : Int32)), (.ref xs_22)])) rfl (by rw [hml]; rfl) (argsL := [(.ref xs_22), (.int (0 : Int32)), (.long r32), (.int r34)]) (rest := []) (lenOf pd_21 rfl) rfl (by show 2 * 0 + _ ≤ _; exact Nat.le_of_eq rfl) (hb hby at_69) (fun _ _ => ⟨rfl, eq36, (by decide : 5 + 0 ≤ _), (by decide : 41 + 0 ≤ _)⟩)
  dsimp only [Pt.U, Pt.locs, Pt.cells, Pt.slots] at X37 l37 y37 z37 st37 hQ37
  replace X37 := own_cast X37 l37 y37 z37
  obtain ⟨rfl, N37q, eq37⟩ := hQ37
  have N37 := Fr.app N36 N37q
  refine Goes.via (S' := (T37.setTop (mkF m 72 #[.val (.int p0), .val (.int p1), .val (.ref b1), .val (.ref xs_22), .val (.long r32), .second, .val (.long r33), .second, .val (.int r34), .val (.int r35)] [(.int (1 : Int32))]))) (fun t k => st37 _ k) ?_
  refine Goes.via (S' := (T37.setTop (mkF m 75 #[.val (.int p0), .val (.int p1), .val (.ref b1), .val (.ref xs_22), .val (.long r32), .second, .val (.long r33), .second, .val (.int r34), .val (.int r35)] []))) (fun t k => XS.ifNo X37.here hx rfl (hb hby at_72) rfl ((if0 _ _).trans (feq (by decide : ¬ ((1 : Int32) = (0 : Int32)))).1) k) ?_
  refine Goes.via (S' := (T37.setTop (mkF m 76 #[.val (.int p0), .val (.int p1), .val (.ref b1), .val (.ref xs_22), .val (.long r32), .second, .val (.long r33), .second, .val (.int r34), .val (.int r35)] [(.ref xs_22)]))) (fun t k => XS.aloadN X37.here hx rfl (hb hby at_75) rfl rfl k) ?_
  refine Goes.via (S' := (T37.setTop (mkF m 78 #[.val (.int p0), .val (.int p1), .val (.ref b1), .val (.ref xs_22), .val (.long r32), .second, .val (.long r33), .second, .val (.int r34), .val (.int r35)] [(.int r34), (.ref xs_22)]))) (fun t k => XS.iload X37.here hx rfl (hb hby at_76) rfl k) ?_
  refine Goes.via (S' := (T37.setTop (mkF m 80 #[.val (.int p0), .val (.int p1), .val (.ref b1), .val (.ref xs_22), .val (.long r32), .second, .val (.long r33), .second, .val (.int r34), .val (.int r35)] [(.long r33), (.int r34), (.ref xs_22)]))) (fun t k => XS.lload X37.here hx rfl (hb hby at_78) rfl k) ?_
  refine Goes.via (S' := (T37.setTop (mkF m 82 #[.val (.int p0), .val (.int p1), .val (.ref b1), .val (.ref xs_22), .val (.long r32), .second, .val (.long r33), .second, .val (.int r34), .val (.int r35)] [(.int r35), (.long r33), (.int r34), (.ref xs_22)]))) (fun t k => XS.iload X37.here hx rfl (hb hby at_80) rfl k) ?_
  obtain ⟨_, _, ⟨T38, L38, k38, n38⟩, -, X38, ⟨Lc38, hQ38, l38, y38, z38⟩, st38⟩ := Jvm.LawKit.callS X37 hx (y := (⟨"com/example/parsewright/parsewright/runtime/WriterNumberPinLaw", "encodes", "(Ljava/lang/String;IJI)Z"⟩ : MethodName)) hown (mvT hZ (hw _ (List.mem_of_getElem? (i := 138) rfl))) (mvT hZ (hw _ (List.mem_of_getElem? (i := 139) rfl))) (mvT hZ (hw _ (List.mem_of_getElem? (i := 120) rfl))) (mvT hZ (hw _ (List.mem_of_getElem? (i := 140) rfl))) (by decide) (backOf (W := 0) (rm26 l Z a0 hw [] xs_22 r34 r33 r35 yn_22 kn_22 vn_22 (Int32.ofNat ((0 + (own_enc 6 (own_z p0)).length) + (own_enc 6 (own_z p1)).length)) wc vB (Int32.ofNat ((own_enc 6 (own_z p1)).getD 0 0)) (Int32.ofNat ((own_enc 6 (own_z p1)).getD 1 0)) (Int32.ofNat ((own_enc 6 (own_z p1)).getD 2 0)) (Int32.ofNat ((own_enc 6 (own_z p1)).getD 3 0)) (Int32.ofNat ((own_enc 6 (own_z p1)).getD 4 0)) (Int32.ofNat ((own_enc 6 (own_z p1)).getD 5 0)) (Int32.ofNat ((own_enc 6 (own_z p1)).getD 6 0)) T22.heap n0 Z22 po22_0 po22_1 po22_2 po22_3 f23 f24 hwc hr_vB (own_dg (C2 := ((0 + (own_enc 6 (own_z p0)).length) + (own_enc 6 (own_z p1)).length)) 0 (o := (own_enc 6 (own_z p0)).length) hr34 (by decide : (0 : Int32) = Int32.ofNat 0) hr35 hr33 own_zl (own_second rfl px22_cp) (by omega) (by have := own_enc_len 6 (own_z p0); have := own_enc_len 6 (own_z p1); omega) (by decide) (by decide)) (own_dg (C2 := ((0 + (own_enc 6 (own_z p0)).length) + (own_enc 6 (own_z p1)).length)) 1 (o := (own_enc 6 (own_z p0)).length) hr34 (by decide : (1 : Int32) = Int32.ofNat 1) hr35 hr33 own_zl (own_second rfl px22_cp) (by omega) (by have := own_enc_len 6 (own_z p0); have := own_enc_len 6 (own_z p1); omega) (by decide) (by decide)) (own_dg (C2 := ((0 + (own_enc 6 (own_z p0)).length) + (own_enc 6 (own_z p1)).length)) 2 (o := (own_enc 6 (own_z p0)).length) hr34 (by decide : (2 : Int32) = Int32.ofNat 2) hr35 hr33 own_zl (own_second rfl px22_cp) (by omega) (by have := own_enc_len 6 (own_z p0); have := own_enc_len 6 (own_z p1); omega) (by decide) (by decide)) (own_dg (C2 := ((0 + (own_enc 6 (own_z p0)).length) + (own_enc 6 (own_z p1)).length)) 3 (o := (own_enc 6 (own_z p0)).length) hr34 (by decide : (3 : Int32) = Int32.ofNat 3) hr35 hr33 own_zl (own_second rfl px22_cp) (by omega) (by have := own_enc_len 6 (own_z p0); have := own_enc_len 6 (own_z p1); omega) (by decide) (by decide)) (own_dg (C2 := ((0 + (own_enc 6 (own_z p0)).length) + (own_enc 6 (own_z p1)).length)) 4 (o := (own_enc 6 (own_z p0)).length) hr34 (by decide : (4 : Int32) = Int32.ofNat 4) hr35 hr33 own_zl (own_second rfl px22_cp) (by omega) (by have := own_enc_len 6 (own_z p0); have := own_enc_len 6 (own_z p1); omega) (by decide) (by decide)) (own_dg (C2 := ((0 + (own_enc 6 (own_z p0)).length) + (own_enc 6 (own_z p1)).length)) 5 (o := (own_enc 6 (own_z p0)).length) hr34 (by decide : (5 : Int32) = Int32.ofNat 5) hr35 hr33 own_zl (own_second rfl px22_cp) (by omega) (by have := own_enc_len 6 (own_z p0); have := own_enc_len 6 (own_z p1); omega) (by decide) (by decide)) (own_dg (C2 := ((0 + (own_enc 6 (own_z p0)).length) + (own_enc 6 (own_z p1)).length)) 6 (o := (own_enc 6 (own_z p0)).length) hr34 (by decide : (6 : Int32) = Int32.ofNat 6) hr35 hr33 own_zl (own_second rfl px22_cp) (by omega) (by have := own_enc_len 6 (own_z p0); have := own_enc_len 6 (own_z p1); omega) (by decide) (by decide))) hZ (hw _ (List.mem_of_getElem? (i := 140) rfl)) (hw _ (List.mem_of_getElem? (i := 120) rfl)) (by decide) (by decide)) (g := (mkF m 82 #[.val (.int p0), .val (.int p1), .val (.ref b1), .val (.ref xs_22), .val (.long r32), .second, .val (.long r33), .second, .val (.int r34), .val (.int r35)] [(.int r35), (.long r33), (.int r34), (.ref xs_22)])) rfl (by rw [hml]; rfl) (argsL := [(.ref xs_22), (.int r34), (.long r33), (.int r35)]) (rest := []) (lenOf pd_21 rfl) rfl (by show 2 * 0 + _ ≤ _; exact Nat.le_of_eq rfl) (hb hby at_82) (fun _ _ => ⟨rfl, eq37, (by decide : 5 + 0 ≤ _), (by decide : 41 + 0 ≤ _)⟩)
  dsimp only [Pt.U, Pt.locs, Pt.cells, Pt.slots] at X38 l38 y38 z38 st38 hQ38
  replace X38 := own_cast X38 l38 y38 z38
  obtain ⟨rfl, N38q, eq38⟩ := hQ38
  have N38 := Fr.app N37 N38q
  refine Goes.via (S' := (T38.setTop (mkF m 85 #[.val (.int p0), .val (.int p1), .val (.ref b1), .val (.ref xs_22), .val (.long r32), .second, .val (.long r33), .second, .val (.int r34), .val (.int r35)] [(.int (1 : Int32))]))) (fun t k => st38 _ k) ?_
  refine Goes.via (S' := (T38.setTop (mkF m 88 #[.val (.int p0), .val (.int p1), .val (.ref b1), .val (.ref xs_22), .val (.long r32), .second, .val (.long r33), .second, .val (.int r34), .val (.int r35)] []))) (fun t k => XS.ifNo X38.here hx rfl (hb hby at_85) rfl ((if0 _ _).trans (feq (by decide : ¬ ((1 : Int32) = (0 : Int32)))).1) k) ?_
  refine Goes.via (S' := (T38.setTop (mkF m 89 #[.val (.int p0), .val (.int p1), .val (.ref b1), .val (.ref xs_22), .val (.long r32), .second, .val (.long r33), .second, .val (.int r34), .val (.int r35)] [(.int (1 : Int32))]))) (fun t k => XS.iconst X38.here hx rfl (hb hby at_88) k) ?_
  refine Goes.via (S' := (T38.setTop (mkF m 93 #[.val (.int p0), .val (.int p1), .val (.ref b1), .val (.ref xs_22), .val (.long r32), .second, .val (.long r33), .second, .val (.int r34), .val (.int r35)] [(.int (1 : Int32))]))) (fun t k => XS.goto X38.here hx rfl (pc0 := 89) (pc' := 93) rfl (hb hby at_89) (by decide) (by decide) k) ?_
  exact own_ret X38 hx Bd.notSynchronized Bd.returns rfl (Or.inl ⟨rfl, by simp, _, rfl⟩) (hb hby at_93) eq38 ⟨rfl, N38⟩ (by decide) (by decide)
set_option maxRecDepth 65536 in
set_option maxHeartbeats 40000000 in
theorem comes_1 {Post : Tables → Env → Array Value → State → Outcome → State → Prop} (hpost : ∀ tb e args s v u, (limb_1_1.after args s (.returned v) u = true ∧ limb_1_2.after args s (.returned v) u = true ∧ True) → FrameEnd s (.returned v) u (Jvm.fieldLocs frame_1_writes args s ++ Jvm.arrayLocs frame_1_arrays args s ++ Jvm.staticLocs frame_1_statics s) 24 192 → Post tb e args s (.returned v) u) :
    ArmFor flags0 classFile x code maxLocals ret World_1 tables_1 room_1 Calls_1 rest_1 Pre_1 Post := by
  intro l hfl _ _ p e ha hc hk s m args below hf hA hF happ hP
  obtain ⟨hcalls, hrest, hpre⟩ := hP
  obtain ⟨-, -, -, hnamed, -, -, -, hat⟩ := (Spec.applies_iff hf).mp happ
  obtain ⟨hg, hn⟩ := and_e (Cond.before_iff.mp (show (Jvm.Cond.and given_1 narrow_1).before args s = true from hpre))
  obtain ⟨g1, g2⟩ := and_e hg
  obtain ⟨g3, g4⟩ := and_e g2
  obtain ⟨w0, w1, rfl⟩ : ∃ w0 w1 : Value, args = #[w0, w1] := by
    have hs : args.size = 2 := by simpa [Cond.value, given_1] using g1
    obtain ⟨L⟩ := args
    match L, hs with
    | [w0, w1], _ => exact ⟨w0, w1, rfl⟩
  have hw := fun d (hd : d ∈ tables_1) => atoms_spec (ws := Jvm.Cond.code x code maxLocals ret :: tables_1) hat d (List.mem_cons_of_mem _ hd)
  have hfit : Fit s := fun {y c} hc i hi => by
    obtain ⟨ha, rfl⟩ := Array.getElem?_eq_some_iff.mp hc
    have q := List.all_eq_true.mp ((Array.all_eq_true_iff_forall_mem.mp hF) _ (Array.getElem_mem ha)) i (List.mem_range.mpr hi)
    simpa [Array.getElem?_eq_getElem hi] using q
  obtain ⟨hsets, hown0⟩ := atoms_of _ (rest_1_c_eq ▸ (show rest_1_c.before _ s = true from hrest))
  have hr0 := Cond.before_iff.mp hown0
  obtain ⟨i0, ei0⟩ := is_v g3
  obtain rfl : w0 = (.int i0) := Option.some.inj ei0
  obtain ⟨i1, ei1⟩ := is_v g4
  obtain rfl : w1 = (.int i1) := Option.some.inj ei1
  obtain ⟨wc, vwc⟩ := is_v (Cond.before_iff.mp (hsets _ (List.mem_of_getElem? (i := 1) rfl)))
  have SC := Sta.start vwc (Or.inl (hsets _ (List.mem_of_getElem? (i := 0) rfl)))
  have hwc := own_ne0 vwc (Cond.before_iff.mp (hsets _ (List.mem_of_getElem? (i := 2) rfl)))
  obtain ⟨vB, evB, hvB⟩ := own_isR (Cond.before_iff.mp (hsets _ (List.mem_of_getElem? (i := 8) rfl)))
  have SF := Sta.start evB (Or.inl (hsets _ (List.mem_of_getElem? (i := 7) rfl)))
  obtain ⟨n, o, h1, h2, h3, _, L, rfl, ⟨rfl, N⟩, hq⟩ := rm0 l s _ hw tables_1 i0 i1 wc vB s.heap s.heap.size (Nat.le_refl _) SC SF hwc hvB p e ha hc hk s m _ below hf ((Spec.applies_iff_loose hf).mp happ).1 ⟨rfl, State.Warmed39.refl s, rfl⟩ trivial
  refine ⟨n, _, h1, h2, h3, hpost _ _ _ _ _ _ ⟨Cond.after_iff.mpr rfl, Cond.after_iff.mpr (eq_i res_at (Term.int_eval (1)) rfl), trivial⟩ ⟨hq.1, hq.2.1, (hq.2.2.sift fun y hy => Or.inr (N y hy)).mono (by decide) (by decide)⟩⟩
theorem main_1_1 : Claimed_1_1 := comes_1 fun _ _ _ _ _ _ h hF => ⟨h.1, hF⟩
theorem main_1_2 : Claimed_1_2 := comes_1 fun _ _ _ _ _ _ h hF => ⟨h.2.1, hF⟩
end Jvm.Pilot.@@N@@
namespace Jvm.Pilot.@@N@@
open Jvm Jvm.ClassFile Sem Op Lib Jvm.Free Jvm.Stand Jvm.Pilot.@@N@@.Jvm.D
/-! MADE BY PROGRAM (witnessworld.py) out of the Statement's table words and the real class files: 23 classes; the members and pool entries that the words name. The judged class is class 1, her method 1. -/
namespace start1
open Jvm.ClassFile
def u (s : String) : CpInfo := .utf8 (stringToUtf16 s)
/-- a pool by its gaps: so many unusable entries, then the entry; so many at the end -/
def gap : Nat → List CpInfo → List CpInfo
  | 0, r => r
  | n + 1, r => .unusable :: gap n r
def poolList (es : List (Nat × CpInfo)) (last : Nat) : List CpInfo := es.foldr (fun e r => gap e.1 (e.2 :: r)) (gap last [])
def pool (es : List (Nat × CpInfo)) (last : Nat) : Array CpInfo := ⟨poolList es last⟩
def fileOf (pool : Array CpInfo) (this : Nat) (attrs : Array Attribute := #[]) (ms : Array MethodInfo := #[]) (fl : Nat := 33) (sup : Nat := 0) (ifs : Array Nat := #[]) (fds : Array FieldInfo := #[]) : ClassFile where
  minorVersion := 0
  majorVersion := 65
  constantPool := pool
  accessFlags := fl
  thisClass := this
  superClass := sup
  interfaces := ifs
  fields := fds
  methods := ms
  attributes := attrs
def plain (name : String) (sup : Option ClassId) : Class where
  name := name
  kind := .ordinary
  loader := none
  accessFlags := 33
  super := sup
  interfaces := #[]
  cf := none
  fields := #[]
  methods := #[]
  instanceTypes := #[]
  staticTypes := #[]
  resolved := #[]
  callSites := []
  init := .initialized
  statics := none
  mirror := none

def pool0 : Array CpInfo := pool [(5, u "<init>"), (0, u "()V"), (1, .class_ 10), (1, u "java/lang/Object")] 113

def k0c0 : Code := { maxStack := 0, maxLocals := 1, code := object_method_1_code, exceptionTable := #[], attributes := #[] }
def k0m0 : Method := { name := "<init>", desc := "()V", sig := { parameters := [], returnType := none }, accessFlags := 1, code := some k0c0 }
/-- java/lang/Object -/
def k0 : Class := { plain "java/lang/Object" none with
  accessFlags := 33
  interfaces := #[]
  cf := some (fileOf pool0 8 #[] #[{ accessFlags := 1, nameIndex := 5, descriptorIndex := 6, attributes := #[] }] 33 0 #[] #[])
  fields := #[]
  methods := #[k0m0]
  instanceTypes := #[]
  staticTypes := #[]
  resolved := Array.replicate 124 none
  statics := none }

def pool1 : Array CpInfo := pool [(2, .class_ 4), (0, .nameAndType 5 6), (0, u "java/lang/Object"), (0, u "<init>"), (0, u "()V"), (0, .class_ 8), (0, u "com/example/parsewright/parsewright/runtime/Packing$Writer"), (0, .methodref 7 3), (0, .methodref 7 11), (0, .nameAndType 12 13), (0, u "number"), (0, u "(I)V"), (0, .methodref 7 15), (0, .nameAndType 16 17), (0, u "toString"), (0, u "()Ljava/lang/String;"), (0, .methodref 19 20), (0, .class_ 21), (0, .nameAndType 22 23), (0, u "com/example/parsewright/parsewright/runtime/WriterNumberPinLaw"), (0, u "zig"), (0, u "(I)J"), (0, .methodref 19 25), (0, .nameAndType 26 27), (0, u "len"), (0, u "(J)I"), (0, .methodref 29 30), (0, .class_ 31), (0, .nameAndType 32 33), (0, u "java/lang/String"), (0, u "length"), (0, u "()I"), (0, .methodref 19 35), (0, .nameAndType 36 37), (0, u "encodes"), (0, u "(Ljava/lang/String;IJI)Z"), (0, .long 2), (1, .long 18446744073709551614), (1, .long 32), (1, .long 1024), (1, .long 32768), (1, .long 1048576), (1, .long 33554432), (1, .long 1073741824), (1, .long 35), (1, .long 93), (1, .long 31), (1, .methodref 29 61), (0, .nameAndType 62 63), (0, u "charAt"), (0, u "(I)C"), (0, .methodref 19 65), (0, .nameAndType 66 67), (0, u "digit"), (0, u "(Ljava/lang/String;IJII)Z"), (2, u "law"), (0, u "(II)Z")] 7

def k1m0 : Method := { name := "<init>", desc := "()V", sig := { parameters := [], returnType := none }, accessFlags := 1, code := none }
def k1c1 : Code := { maxStack := 5, maxLocals := 10, code := code, exceptionTable := #[], attributes := #[] }
def k1m1 : Method := { name := "law", desc := "(II)Z", sig := { parameters := [.int, .int], returnType := some .boolean }, accessFlags := 9, code := some k1c1 }
def k1c2 : Code := { maxStack := 4, maxLocals := 3, code := method_3_code, exceptionTable := #[], attributes := #[] }
def k1m2 : Method := { name := "zig", desc := "(I)J", sig := { parameters := [.int], returnType := some .long }, accessFlags := 10, code := some k1c2 }
def k1c3 : Code := { maxStack := 4, maxLocals := 2, code := method_4_code, exceptionTable := #[], attributes := #[] }
def k1m3 : Method := { name := "len", desc := "(J)I", sig := { parameters := [.long], returnType := some .int }, accessFlags := 10, code := some k1c3 }
def k1c4 : Code := { maxStack := 6, maxLocals := 9, code := method_5_code, exceptionTable := #[], attributes := #[] }
def k1m4 : Method := { name := "digit", desc := "(Ljava/lang/String;IJII)Z", sig := { parameters := [(.object "java/lang/String"), .int, .long, .int, .int], returnType := some .boolean }, accessFlags := 10, code := some k1c4 }
def k1c5 : Code := { maxStack := 6, maxLocals := 5, code := method_6_code, exceptionTable := #[], attributes := #[] }
def k1m5 : Method := { name := "encodes", desc := "(Ljava/lang/String;IJI)Z", sig := { parameters := [(.object "java/lang/String"), .int, .long, .int], returnType := some .boolean }, accessFlags := 10, code := some k1c5 }
/-- com/example/parsewright/parsewright/runtime/WriterNumberPinLaw -/
def k1 : Class := { plain "com/example/parsewright/parsewright/runtime/WriterNumberPinLaw" (some 0) with
  accessFlags := 49
  interfaces := #[]
  cf := some (fileOf pool1 19 #[] #[{ accessFlags := 1, nameIndex := 5, descriptorIndex := 6, attributes := #[] }, { accessFlags := 9, nameIndex := 70, descriptorIndex := 71, attributes := #[] }, { accessFlags := 10, nameIndex := 22, descriptorIndex := 23, attributes := #[] }, { accessFlags := 10, nameIndex := 26, descriptorIndex := 27, attributes := #[] }, { accessFlags := 10, nameIndex := 66, descriptorIndex := 67, attributes := #[] }, { accessFlags := 10, nameIndex := 36, descriptorIndex := 37, attributes := #[] }] 49 2 #[] #[])
  fields := #[]
  methods := #[k1m0, k1m1, k1m2, k1m3, k1m4, k1m5]
  instanceTypes := #[]
  staticTypes := #[]
  resolved := Array.replicate 79 none
  statics := none }

def pool2 : Array CpInfo := pool [(1, .class_ 2), (0, u "com/example/parsewright/parsewright/runtime/Packing"), (0, .methodref 4 5), (0, .class_ 6), (0, .nameAndType 7 8), (0, u "java/lang/Object"), (0, u "<init>"), (0, u "()V"), (0, .class_ 10), (0, u "java/lang/StringBuilder"), (0, .methodref 9 5), (0, .fieldref 13 14), (0, .class_ 15), (0, .nameAndType 16 17), (0, u "com/example/parsewright/parsewright/runtime/Packing$Writer"), (0, u "text"), (0, u "Ljava/lang/StringBuilder;"), (0, .methodref 9 19), (0, .nameAndType 20 21), (0, u "append"), (0, u "(C)Ljava/lang/StringBuilder;"), (2, u "number"), (0, u "(I)V"), (20, .methodref 9 47), (0, .nameAndType 48 49), (0, u "toString"), (0, u "()Ljava/lang/String;")] 18

def k2c0 : Code := { maxStack := 3, maxLocals := 1, code := prog_88_method_1_code, exceptionTable := #[], attributes := #[] }
def k2m0 : Method := { name := "<init>", desc := "()V", sig := { parameters := [], returnType := none }, accessFlags := 0, code := some k2c0 }
def k2c1 : Code := { maxStack := 4, maxLocals := 3, code := prog_88_method_2_code, exceptionTable := #[], attributes := #[] }
def k2m1 : Method := { name := "number", desc := "(I)V", sig := { parameters := [.int], returnType := none }, accessFlags := 0, code := some k2c1 }
def k2c2 : Code := { maxStack := 1, maxLocals := 1, code := prog_88_method_7_code, exceptionTable := #[], attributes := #[] }
def k2m2 : Method := { name := "toString", desc := "()Ljava/lang/String;", sig := { parameters := [], returnType := some (.object "java/lang/String") }, accessFlags := 1, code := some k2c2 }
/-- com/example/parsewright/parsewright/runtime/Packing$Writer -/
def k2 : Class := { plain "com/example/parsewright/parsewright/runtime/Packing$Writer" (some 0) with
  accessFlags := 48
  interfaces := #[]
  cf := some (fileOf pool2 13 #[.nestHost 1] #[{ accessFlags := 0, nameIndex := 7, descriptorIndex := 8, attributes := #[] }, { accessFlags := 0, nameIndex := 24, descriptorIndex := 25, attributes := #[] }, { accessFlags := 1, nameIndex := 48, descriptorIndex := 49, attributes := #[] }] 48 4 #[] #[{ accessFlags := 18, nameIndex := 16, descriptorIndex := 17, attributes := #[] }])
  fields := #[{ name := "text", type := (.object "java/lang/StringBuilder"), accessFlags := 18, slot := 0, constantValue := 0 }]
  methods := #[k2m0, k2m1, k2m2]
  instanceTypes := #[(.object "java/lang/StringBuilder")]
  staticTypes := #[]
  resolved := Array.replicate 68 none
  statics := none }

def pool3 : Array CpInfo := pool [(1, .class_ 2), (0, u "java/lang/Appendable"), (0, .class_ 4), (0, u "java/lang/Object")] 9

/-- java/lang/Appendable -/
def k3 : Class := { plain "java/lang/Appendable" (some 0) with
  accessFlags := 1537
  interfaces := #[]
  cf := some (fileOf pool3 1 #[] #[] 1537 3 #[] #[])
  fields := #[]
  methods := #[]
  instanceTypes := #[]
  staticTypes := #[]
  resolved := Array.replicate 14 none
  statics := none }

def pool4 : Array CpInfo := pool [(2, .class_ 4), (1, u "java/lang/CharSequence"), (42, .class_ 48), (0, u "java/lang/CharSequence$1CodePointIterator"), (10, .class_ 60), (0, u "java/lang/CharSequence$1CharIterator"), (5, .class_ 67), (0, u "java/lang/Object")] 63

/-- java/lang/CharSequence -/
def k4 : Class := { plain "java/lang/CharSequence" (some 0) with
  accessFlags := 1537
  interfaces := #[]
  cf := some (fileOf pool4 2 #[.nestMembers #[47, 59]] #[] 1537 66 #[] #[])
  fields := #[]
  methods := #[]
  instanceTypes := #[]
  staticTypes := #[]
  resolved := Array.replicate 131 none
  statics := none }

def pool5 : Array CpInfo := pool [(1, .class_ 2), (0, u "java/lang/String"), (0, .methodref 4 5), (0, .class_ 6), (0, .nameAndType 7 8), (0, u "java/lang/Object"), (0, u "<init>"), (0, u "()V"), (1, .class_ 12), (1, u "java/lang/AbstractStringBuilder"), (0, u "EMPTYVALUE"), (0, u "[B"), (0, .fieldref 10 16), (0, .nameAndType 17 14), (0, u "value"), (0, .fieldref 1 19), (0, .nameAndType 20 21), (0, u "COMPACT_STRINGS"), (0, u "Z"), (0, .fieldref 10 23), (0, .nameAndType 24 25), (0, u "coder"), (0, u "B"), (8, u "length"), (0, u "()I"), (9, u "append"), (2, .class_ 49), (0, u "java/lang/CharSequence"), (25, u "maybeLatin1"), (3, .fieldref 10 80), (0, .nameAndType 81 82), (0, u "count"), (0, u "I"), (0, .methodref 10 84), (0, .nameAndType 85 86), (0, u "isLatin1"), (0, u "()Z"), (1, .class_ 90), (1, u "java/lang/StringLatin1"), (9, .methodref 10 101), (0, .nameAndType 102 103), (0, u "ensureCapacityInternal"), (0, u "(I)V"), (87, .methodref 88 192), (0, .nameAndType 193 194), (0, u "canEncode"), (0, u "(C)Z"), (97, u "(C)Ljava/lang/AbstractStringBuilder;"), (110, u "()[B"), (40, .class_ 445), (0, u "java/lang/Appendable"), (106, u "getValue")] 56

def k5m0 : Method := { name := "<init>", desc := "()V", sig := { parameters := [], returnType := none }, accessFlags := 0, code := none }
def k5c1 : Code := { maxStack := 2, maxLocals := 2, code := jdk_68_method_2_code, exceptionTable := #[], attributes := #[] }
def k5m1 : Method := { name := "<init>", desc := "(I)V", sig := { parameters := [.int], returnType := none }, accessFlags := 0, code := some k5c1 }
def k5c2 : Code := { maxStack := 1, maxLocals := 1, code := jdk_68_method_6_code, exceptionTable := #[], attributes := #[] }
def k5m2 : Method := { name := "length", desc := "()I", sig := { parameters := [], returnType := some .int }, accessFlags := 1, code := some k5c2 }
def k5c3 : Code := { maxStack := 4, maxLocals := 3, code := jdk_68_method_9_code, exceptionTable := #[], attributes := #[] }
def k5m3 : Method := { name := "ensureCapacityInternal", desc := "(I)V", sig := { parameters := [.int], returnType := none }, accessFlags := 2, code := some k5c3 }
def k5c4 : Code := { maxStack := 5, maxLocals := 2, code := jdk_68_method_31_code, exceptionTable := #[], attributes := #[] }
def k5m4 : Method := { name := "append", desc := "(C)Ljava/lang/AbstractStringBuilder;", sig := { parameters := [.char], returnType := some (.object "java/lang/AbstractStringBuilder") }, accessFlags := 1, code := some k5c4 }
def k5c5 : Code := { maxStack := 1, maxLocals := 1, code := jdk_68_method_64_code, exceptionTable := #[], attributes := #[] }
def k5m5 : Method := { name := "getValue", desc := "()[B", sig := { parameters := [], returnType := some (.array .byte) }, accessFlags := 16, code := some k5c5 }
def k5c6 : Code := { maxStack := 1, maxLocals := 1, code := jdk_68_method_68_code, exceptionTable := #[], attributes := #[] }
def k5m6 : Method := { name := "isLatin1", desc := "()Z", sig := { parameters := [], returnType := some .boolean }, accessFlags := 16, code := some k5c6 }
/-- java/lang/AbstractStringBuilder -/
def k5 : Class := { plain "java/lang/AbstractStringBuilder" (some 0) with
  accessFlags := 1056
  interfaces := #[3, 4]
  cf := some (fileOf pool5 10 #[] #[{ accessFlags := 0, nameIndex := 7, descriptorIndex := 8, attributes := #[] }, { accessFlags := 0, nameIndex := 7, descriptorIndex := 103, attributes := #[] }, { accessFlags := 1, nameIndex := 34, descriptorIndex := 35, attributes := #[] }, { accessFlags := 2, nameIndex := 102, descriptorIndex := 103, attributes := #[] }, { accessFlags := 1, nameIndex := 45, descriptorIndex := 292, attributes := #[] }, { accessFlags := 16, nameIndex := 552, descriptorIndex := 403, attributes := #[] }, { accessFlags := 16, nameIndex := 85, descriptorIndex := 86, attributes := #[] }] 1056 4 #[444, 48] #[{ accessFlags := 0, nameIndex := 17, descriptorIndex := 14, attributes := #[] }, { accessFlags := 0, nameIndex := 24, descriptorIndex := 25, attributes := #[] }, { accessFlags := 0, nameIndex := 75, descriptorIndex := 21, attributes := #[] }, { accessFlags := 0, nameIndex := 81, descriptorIndex := 82, attributes := #[] }, { accessFlags := 26, nameIndex := 13, descriptorIndex := 14, attributes := #[] }])
  fields := #[{ name := "value", type := (.array .byte), accessFlags := 0, slot := 0, constantValue := 0 }, { name := "coder", type := .byte, accessFlags := 0, slot := 1, constantValue := 0 }, { name := "maybeLatin1", type := .boolean, accessFlags := 0, slot := 2, constantValue := 0 }, { name := "count", type := .int, accessFlags := 0, slot := 3, constantValue := 0 }, { name := "EMPTYVALUE", type := (.array .byte), accessFlags := 26, slot := 0, constantValue := 0 }]
  methods := #[k5m0, k5m1, k5m2, k5m3, k5m4, k5m5, k5m6]
  instanceTypes := #[(.array .byte), .byte, .boolean, .int]
  staticTypes := #[(.array .byte)]
  resolved := Array.replicate 609 none
  statics := none }

def pool6 : Array CpInfo := pool [(1, .class_ 2), (0, u "java/io/Serializable"), (0, .class_ 4), (0, u "java/lang/Object")] 2

/-- java/io/Serializable -/
def k6 : Class := { plain "java/io/Serializable" (some 0) with
  accessFlags := 1537
  interfaces := #[]
  cf := some (fileOf pool6 1 #[] #[] 1537 3 #[] #[])
  fields := #[]
  methods := #[]
  instanceTypes := #[]
  staticTypes := #[]
  resolved := Array.replicate 7 none
  statics := none }

def pool7 : Array CpInfo := pool [(1, .class_ 2), (0, u "java/lang/Comparable"), (0, .class_ 4), (0, u "java/lang/Object")] 7

/-- java/lang/Comparable -/
def k7 : Class := { plain "java/lang/Comparable" (some 0) with
  accessFlags := 1537
  interfaces := #[]
  cf := some (fileOf pool7 1 #[] #[] 1537 3 #[] #[])
  fields := #[]
  methods := #[]
  instanceTypes := #[]
  staticTypes := #[]
  resolved := Array.replicate 12 none
  statics := none }

def pool8 : Array CpInfo := pool [(1, .methodref 2 3), (0, .class_ 4), (0, .nameAndType 5 6), (0, u "java/lang/AbstractStringBuilder"), (0, u "<init>"), (0, u "(I)V"), (11, .class_ 20), (1, u "java/lang/String"), (3, .class_ 26), (1, u "java/lang/StringBuilder"), (0, u "append"), (22, .methodref 2 51), (0, .nameAndType 27 52), (0, u "(C)Ljava/lang/AbstractStringBuilder;"), (84, .methodref 18 138), (0, .nameAndType 5 139), (0, u "(Ljava/lang/StringBuilder;)V"), (5, u "()V"), (10, u "()I"), (129, u "(C)Ljava/lang/StringBuilder;"), (56, .methodref 2 344), (0, .nameAndType 345 156), (0, u "length"), (3, .class_ 350), (0, u "java/lang/Appendable"), (0, .class_ 352), (0, u "java/io/Serializable"), (0, .class_ 354), (0, u "java/lang/Comparable"), (0, .class_ 356), (0, u "java/lang/CharSequence"), (0, u "serialVersionUID"), (0, u "J"), (40, u "toString"), (0, u "()Ljava/lang/String;")] 21

def k8c0 : Code := { maxStack := 2, maxLocals := 1, code := jdk_67_method_1_code, exceptionTable := #[], attributes := #[] }
def k8m0 : Method := { name := "<init>", desc := "()V", sig := { parameters := [], returnType := none }, accessFlags := 1, code := some k8c0 }
def k8c1 : Code := { maxStack := 2, maxLocals := 2, code := jdk_67_method_14_code, exceptionTable := #[], attributes := #[] }
def k8m1 : Method := { name := "append", desc := "(C)Ljava/lang/StringBuilder;", sig := { parameters := [.char], returnType := some (.object "java/lang/StringBuilder") }, accessFlags := 1, code := some k8c1 }
def k8c2 : Code := { maxStack := 3, maxLocals := 1, code := jdk_67_method_42_code, exceptionTable := #[], attributes := #[] }
def k8m2 : Method := { name := "toString", desc := "()Ljava/lang/String;", sig := { parameters := [], returnType := some (.object "java/lang/String") }, accessFlags := 1, code := some k8c2 }
def k8c3 : Code := { maxStack := 1, maxLocals := 1, code := jdk_67_method_93_code, exceptionTable := #[], attributes := #[] }
def k8m3 : Method := { name := "length", desc := "()I", sig := { parameters := [], returnType := some .int }, accessFlags := 4161, code := some k8c3 }
/-- java/lang/StringBuilder -/
def k8 : Class := { plain "java/lang/StringBuilder" (some 5) with
  accessFlags := 49
  interfaces := #[3, 6, 7, 4]
  cf := some (fileOf pool8 24 #[] #[{ accessFlags := 1, nameIndex := 5, descriptorIndex := 145, attributes := #[] }, { accessFlags := 1, nameIndex := 27, descriptorIndex := 286, attributes := #[] }, { accessFlags := 1, nameIndex := 399, descriptorIndex := 400, attributes := #[] }, { accessFlags := 4161, nameIndex := 345, descriptorIndex := 156, attributes := #[] }] 49 2 #[349, 351, 353, 355] #[{ accessFlags := 24, nameIndex := 357, descriptorIndex := 358, attributes := #[] }])
  fields := #[{ name := "serialVersionUID", type := .long, accessFlags := 24, slot := 0, constantValue := 0 }]
  methods := #[k8m0, k8m1, k8m2, k8m3]
  instanceTypes := #[(.array .byte), .byte, .boolean, .int]
  staticTypes := #[.long]
  resolved := Array.replicate 422 none
  statics := none }

def pool9 : Array CpInfo := pool [(1, .class_ 2), (0, u "java/lang/constant/Constable"), (0, .class_ 4), (0, u "java/lang/Object")] 6

/-- java/lang/constant/Constable -/
def k9 : Class := { plain "java/lang/constant/Constable" (some 0) with
  accessFlags := 1537
  interfaces := #[]
  cf := some (fileOf pool9 1 #[] #[] 1537 3 #[] #[])
  fields := #[]
  methods := #[]
  instanceTypes := #[]
  staticTypes := #[]
  resolved := Array.replicate 11 none
  statics := none }

def pool10 : Array CpInfo := pool [(1, .class_ 2), (0, u "java/lang/constant/ConstantDesc"), (0, .class_ 4), (0, u "java/lang/Object")] 32

/-- java/lang/constant/ConstantDesc -/
def k10 : Class := { plain "java/lang/constant/ConstantDesc" (some 0) with
  accessFlags := 1537
  interfaces := #[]
  cf := some (fileOf pool10 1 #[] #[] 1537 3 #[] #[])
  fields := #[]
  methods := #[]
  instanceTypes := #[]
  staticTypes := #[]
  resolved := Array.replicate 37 none
  statics := none }

def pool11 : Array CpInfo := pool [(1, .methodref 2 3), (0, .class_ 4), (0, .nameAndType 5 6), (0, u "java/lang/Object"), (0, u "<init>"), (0, u "()V"), (2, .fieldref 10 11), (0, .class_ 12), (0, .nameAndType 13 14), (0, u "java/lang/String"), (0, u "value"), (0, u "[B"), (0, .fieldref 10 16), (0, .nameAndType 17 18), (0, u "coder"), (0, u "B"), (2, u "hash"), (0, u "I"), (2, u "hashIsZero"), (0, u "Z"), (11, .fieldref 10 39), (0, .nameAndType 40 26), (0, u "COMPACT_STRINGS"), (13, .methodref 55 56), (0, .class_ 57), (0, .nameAndType 58 59), (0, u "java/util/Arrays"), (0, u "copyOfRange"), (0, u "([BII)[B"), (47, .class_ 109), (1, u "java/lang/StringLatin1"), (32, u "()Z"), (191, u "()I"), (0, .methodref 10 336), (0, .nameAndType 17 337), (0, u "()B"), (2, u "()[B"), (22, u "([BI)C"), (27, u "(II)V"), (35, u "(I)C"), (61, .methodref 10 490), (0, .nameAndType 5 491), (0, u "(Ljava/lang/AbstractStringBuilder;Ljava/lang/Void;)V"), (0, .methodref 10 493), (0, .nameAndType 494 142), (0, u "isLatin1"), (0, .methodref 107 496), (0, .nameAndType 497 363), (0, u "charAt"), (3, u "checkIndex"), (4, .nameAndType 507 334), (0, u "length"), (41, .methodref 550 506), (0, .class_ 551), (0, u "java/lang/AbstractStringBuilder"), (0, .methodref 550 553), (0, .nameAndType 554 340), (0, u "getValue"), (20, .class_ 576), (0, u "java/lang/CharSequence"), (22, u "CASE_INSENSITIVE_ORDER"), (0, u "Ljava/util/Comparator;"), (446, .methodref 550 493), (5, .fieldref 1054 1055), (0, .class_ 1056), (0, .nameAndType 1057 1058), (0, u "jdk/internal/util/Preconditions"), (0, u "SIOOBE_FORMATTER"), (0, u "Ljava/util/function/BiFunction;"), (0, .methodref 1054 1060), (0, .nameAndType 501 1061), (0, u "(IILjava/util/function/BiFunction;)I"), (39, u "serialPersistentFields"), (0, u "[Ljava/io/ObjectStreamField;"), (0, .class_ 1104), (0, u "java/lang/String$CaseInsensitiveComparator"), (1, .class_ 1107), (0, u "java/io/Serializable"), (0, .class_ 1109), (0, u "java/lang/Comparable"), (0, .class_ 1111), (0, u "java/lang/constant/Constable"), (0, .class_ 1113), (0, u "java/lang/constant/ConstantDesc"), (2, u "serialVersionUID"), (0, u "J"), (3, u "REPL"), (0, u "C"), (2, u "LATIN1"), (1, u "UTF16"), (105, u "(Ljava/lang/StringBuilder;)V")] 217

def k11m0 : Method := { name := "<init>", desc := "()V", sig := { parameters := [], returnType := none }, accessFlags := 1, code := none }
def k11c1 : Code := { maxStack := 3, maxLocals := 2, code := jdk_42_method_53_code, exceptionTable := #[], attributes := #[] }
def k11m1 : Method := { name := "<init>", desc := "(Ljava/lang/StringBuilder;)V", sig := { parameters := [(.object "java/lang/StringBuilder")], returnType := none }, accessFlags := 1, code := some k11c1 }
def k11c2 : Code := { maxStack := 2, maxLocals := 1, code := jdk_42_method_54_code, exceptionTable := #[], attributes := #[] }
def k11m2 : Method := { name := "length", desc := "()I", sig := { parameters := [], returnType := some .int }, accessFlags := 1, code := some k11c2 }
def k11c3 : Code := { maxStack := 2, maxLocals := 2, code := jdk_42_method_56_code, exceptionTable := #[], attributes := #[] }
def k11m3 : Method := { name := "charAt", desc := "(I)C", sig := { parameters := [.int], returnType := some .char }, accessFlags := 1, code := some k11c3 }
def k11c4 : Code := { maxStack := 5, maxLocals := 5, code := jdk_42_method_150_code, exceptionTable := #[], attributes := #[] }
def k11m4 : Method := { name := "<init>", desc := "(Ljava/lang/AbstractStringBuilder;Ljava/lang/Void;)V", sig := { parameters := [(.object "java/lang/AbstractStringBuilder"), (.object "java/lang/Void")], returnType := none }, accessFlags := 0, code := some k11c4 }
def k11c5 : Code := { maxStack := 1, maxLocals := 1, code := jdk_42_method_152_code, exceptionTable := #[], attributes := #[] }
def k11m5 : Method := { name := "coder", desc := "()B", sig := { parameters := [], returnType := some .byte }, accessFlags := 0, code := some k11c5 }
def k11c6 : Code := { maxStack := 1, maxLocals := 1, code := jdk_42_method_154_code, exceptionTable := #[], attributes := #[] }
def k11m6 : Method := { name := "isLatin1", desc := "()Z", sig := { parameters := [], returnType := some .boolean }, accessFlags := 0, code := some k11c6 }
def k11c7 : Code := { maxStack := 3, maxLocals := 2, code := jdk_42_method_155_code, exceptionTable := #[], attributes := #[] }
def k11m7 : Method := { name := "checkIndex", desc := "(II)V", sig := { parameters := [.int, .int], returnType := none }, accessFlags := 8, code := some k11c7 }
/-- java/lang/String -/
def k11 : Class := { plain "java/lang/String" (some 0) with
  accessFlags := 49
  interfaces := #[6, 7, 4, 9, 10]
  cf := some (fileOf pool11 10 #[.nestMembers #[1103]] #[{ accessFlags := 1, nameIndex := 5, descriptorIndex := 6, attributes := #[] }, { accessFlags := 1, nameIndex := 5, descriptorIndex := 1233, attributes := #[] }, { accessFlags := 1, nameIndex := 507, descriptorIndex := 334, attributes := #[] }, { accessFlags := 1, nameIndex := 497, descriptorIndex := 427, attributes := #[] }, { accessFlags := 0, nameIndex := 5, descriptorIndex := 491, attributes := #[] }, { accessFlags := 0, nameIndex := 17, descriptorIndex := 337, attributes := #[] }, { accessFlags := 0, nameIndex := 494, descriptorIndex := 142, attributes := #[] }, { accessFlags := 8, nameIndex := 501, descriptorIndex := 391, attributes := #[] }] 49 2 #[1106, 1108, 575, 1110, 1112] #[{ accessFlags := 18, nameIndex := 13, descriptorIndex := 14, attributes := #[] }, { accessFlags := 18, nameIndex := 17, descriptorIndex := 18, attributes := #[] }, { accessFlags := 2, nameIndex := 21, descriptorIndex := 22, attributes := #[] }, { accessFlags := 2, nameIndex := 25, descriptorIndex := 26, attributes := #[] }, { accessFlags := 26, nameIndex := 1116, descriptorIndex := 1117, attributes := #[] }, { accessFlags := 24, nameIndex := 40, descriptorIndex := 26, attributes := #[] }, { accessFlags := 26, nameIndex := 1101, descriptorIndex := 1102, attributes := #[] }, { accessFlags := 26, nameIndex := 1121, descriptorIndex := 1122, attributes := #[] }, { accessFlags := 25, nameIndex := 599, descriptorIndex := 600, attributes := #[] }, { accessFlags := 24, nameIndex := 1125, descriptorIndex := 18, attributes := #[] }, { accessFlags := 24, nameIndex := 1127, descriptorIndex := 18, attributes := #[] }])
  fields := #[{ name := "value", type := (.array .byte), accessFlags := 18, slot := 0, constantValue := 0 }, { name := "coder", type := .byte, accessFlags := 18, slot := 1, constantValue := 0 }, { name := "hash", type := .int, accessFlags := 2, slot := 2, constantValue := 0 }, { name := "hashIsZero", type := .boolean, accessFlags := 2, slot := 3, constantValue := 0 }, { name := "serialVersionUID", type := .long, accessFlags := 26, slot := 0, constantValue := 0 }, { name := "COMPACT_STRINGS", type := .boolean, accessFlags := 24, slot := 1, constantValue := 0 }, { name := "serialPersistentFields", type := (.array (.object "java/io/ObjectStreamField")), accessFlags := 26, slot := 2, constantValue := 0 }, { name := "REPL", type := .char, accessFlags := 26, slot := 3, constantValue := 0 }, { name := "CASE_INSENSITIVE_ORDER", type := (.object "java/util/Comparator"), accessFlags := 25, slot := 4, constantValue := 0 }, { name := "LATIN1", type := .byte, accessFlags := 24, slot := 5, constantValue := 0 }, { name := "UTF16", type := .byte, accessFlags := 24, slot := 6, constantValue := 0 }]
  methods := #[k11m0, k11m1, k11m2, k11m3, k11m4, k11m5, k11m6, k11m7]
  instanceTypes := #[(.array .byte), .byte, .int, .boolean]
  staticTypes := #[.long, .boolean, (.array (.object "java/io/ObjectStreamField")), .char, (.object "java/util/Comparator"), .byte, .byte]
  resolved := Array.replicate 1451 none
  statics := some 0 }

def pool12 : Array CpInfo := pool [(1, .class_ 2), (0, u "java/lang/String"), (1, .class_ 6), (1, u "java/lang/Object"), (0, u "<init>"), (0, u "()V"), (0, .methodref 1 10), (0, .nameAndType 11 12), (0, u "checkIndex"), (0, u "(II)V"), (1, .class_ 16), (1, u "java/lang/StringLatin1"), (36, u "([BI)C"), (36, u "canEncode"), (14, u "(C)Z"), (15, u "$assertionsDisabled"), (0, u "Z"), (98, .class_ 223), (1, u "java/lang/StringLatin1$LinesSpliterator"), (28, u "charAt"), (137, .class_ 391), (0, u "java/lang/StringLatin1$CharsSpliterator")] 3

def k12m0 : Method := { name := "<init>", desc := "()V", sig := { parameters := [], returnType := none }, accessFlags := 0, code := none }
def k12c1 : Code := { maxStack := 2, maxLocals := 2, code := jdk_43_method_2_code, exceptionTable := #[], attributes := #[] }
def k12m1 : Method := { name := "charAt", desc := "([BI)C", sig := { parameters := [(.array .byte), .int], returnType := some .char }, accessFlags := 9, code := some k12c1 }
def k12c2 : Code := { maxStack := 2, maxLocals := 1, code := jdk_43_method_3_code, exceptionTable := #[], attributes := #[] }
def k12m2 : Method := { name := "canEncode", desc := "(C)Z", sig := { parameters := [.char], returnType := some .boolean }, accessFlags := 9, code := some k12c2 }
/-- java/lang/StringLatin1 -/
def k12 : Class := { plain "java/lang/StringLatin1" (some 0) with
  accessFlags := 48
  interfaces := #[]
  cf := some (fileOf pool12 14 #[.nestMembers #[390, 221]] #[{ accessFlags := 0, nameIndex := 7, descriptorIndex := 8, attributes := #[] }, { accessFlags := 9, nameIndex := 252, descriptorIndex := 53, attributes := #[] }, { accessFlags := 9, nameIndex := 90, descriptorIndex := 105, attributes := #[] }] 48 4 #[] #[{ accessFlags := 4120, nameIndex := 121, descriptorIndex := 122, attributes := #[] }])
  fields := #[{ name := "$assertionsDisabled", type := .boolean, accessFlags := 4120, slot := 0, constantValue := 0 }]
  methods := #[k12m0, k12m1, k12m2]
  instanceTypes := #[]
  staticTypes := #[.boolean]
  resolved := Array.replicate 395 none
  statics := none }

def pool13 : Array CpInfo := pool [(2, .class_ 4), (1, u "java/lang/Object"), (0, u "<init>"), (0, u "()V"), (7, .class_ 16), (1, u "java/util/Arrays"), (57, .class_ 76), (1, u "java/util/Arrays$NaturalOrder"), (36, .class_ 115), (1, u "java/util/Arrays$LegacyMergeSort"), (1, u "Z"), (21, u "copyOfRange"), (10, .methodref 151 152), (0, .class_ 153), (0, .nameAndType 154 155), (0, u "java/lang/System"), (0, u "arraycopy"), (0, u "(Ljava/lang/Object;ILjava/lang/Object;II)V"), (148, .methodref 305 306), (0, .class_ 307), (0, .nameAndType 308 309), (0, u "java/lang/Math"), (0, u "min"), (0, u "(II)I"), (29, .methodref 14 340), (0, .nameAndType 341 342), (0, u "copyOfRangeByte"), (0, u "([BII)[B"), (0, .methodref 14 344), (0, .nameAndType 345 346), (0, u "checkLength"), (0, u "(II)V"), (28, .class_ 376), (0, u "java/util/Arrays$ArrayList"), (68, u "$assertionsDisabled"), (269, u "MIN_ARRAY_SORT_GRAN"), (0, u "I"), (2, u "INSERTIONSORT_THRESHOLD"), (255, .class_ 976), (0, u "java/util/Arrays$ArrayItr")] 52

def k13m0 : Method := { name := "<init>", desc := "()V", sig := { parameters := [], returnType := none }, accessFlags := 2, code := none }
def k13c1 : Code := { maxStack := 4, maxLocals := 2, code := jdk_65_method_131_code, exceptionTable := #[], attributes := #[] }
def k13m1 : Method := { name := "checkLength", desc := "(II)V", sig := { parameters := [.int, .int], returnType := none }, accessFlags := 10, code := some k13c1 }
def k13c2 : Code := { maxStack := 3, maxLocals := 3, code := jdk_65_method_132_code, exceptionTable := #[], attributes := #[] }
def k13m2 : Method := { name := "copyOfRange", desc := "([BII)[B", sig := { parameters := [(.array .byte), .int, .int], returnType := some (.array .byte) }, accessFlags := 9, code := some k13c2 }
def k13c3 : Code := { maxStack := 6, maxLocals := 5, code := jdk_65_method_133_code, exceptionTable := #[], attributes := #[] }
def k13m3 : Method := { name := "copyOfRangeByte", desc := "([BII)[B", sig := { parameters := [(.array .byte), .int, .int], returnType := some (.array .byte) }, accessFlags := 10, code := some k13c3 }
/-- java/util/Arrays -/
def k13 : Class := { plain "java/util/Arrays" (some 0) with
  accessFlags := 49
  interfaces := #[]
  cf := some (fileOf pool13 14 #[.nestMembers #[975, 375, 113, 74]] #[{ accessFlags := 2, nameIndex := 5, descriptorIndex := 6, attributes := #[] }, { accessFlags := 10, nameIndex := 345, descriptorIndex := 346, attributes := #[] }, { accessFlags := 9, nameIndex := 139, descriptorIndex := 342, attributes := #[] }, { accessFlags := 10, nameIndex := 341, descriptorIndex := 342, attributes := #[] }] 49 2 #[] #[{ accessFlags := 26, nameIndex := 715, descriptorIndex := 716, attributes := #[] }, { accessFlags := 26, nameIndex := 719, descriptorIndex := 716, attributes := #[] }, { accessFlags := 4120, nameIndex := 445, descriptorIndex := 117, attributes := #[] }])
  fields := #[{ name := "MIN_ARRAY_SORT_GRAN", type := .int, accessFlags := 26, slot := 0, constantValue := 0 }, { name := "INSERTIONSORT_THRESHOLD", type := .int, accessFlags := 26, slot := 1, constantValue := 0 }, { name := "$assertionsDisabled", type := .boolean, accessFlags := 4120, slot := 2, constantValue := 0 }]
  methods := #[k13m0, k13m1, k13m2, k13m3]
  instanceTypes := #[]
  staticTypes := #[.int, .int, .boolean]
  resolved := Array.replicate 1029 none
  statics := none }

def pool14 : Array CpInfo := pool [(1, .class_ 2), (0, u "java/lang/Math"), (1, .class_ 6), (1, u "java/lang/Object"), (0, u "<init>"), (0, u "()V"), (89, .class_ 100), (1, u "java/lang/Math$RandomNumberGeneratorHolder"), (71, u "negativeZeroFloatBits"), (0, u "J"), (2, u "negativeZeroDoubleBits"), (24, u "min"), (43, u "$assertionsDisabled"), (0, u "Z"), (88, u "(II)I"), (2, u "twoToTheDoubleScaleDown"), (0, u "D"), (4, u "twoToTheDoubleScaleUp"), (9, u "E"), (3, u "PI"), (2, u "TAU"), (2, u "DEGREES_TO_RADIANS"), (0, u "RADIANS_TO_DEGREES")] 94

def k14m0 : Method := { name := "<init>", desc := "()V", sig := { parameters := [], returnType := none }, accessFlags := 2, code := none }
def k14c1 : Code := { maxStack := 2, maxLocals := 2, code := jdk_29_method_69_code, exceptionTable := #[], attributes := #[] }
def k14m1 : Method := { name := "min", desc := "(II)I", sig := { parameters := [.int, .int], returnType := some .int }, accessFlags := 9, code := some k14c1 }
/-- java/lang/Math -/
def k14 : Class := { plain "java/lang/Math" (some 0) with
  accessFlags := 49
  interfaces := #[]
  cf := some (fileOf pool14 1 #[.nestMembers #[98]] #[{ accessFlags := 2, nameIndex := 7, descriptorIndex := 8, attributes := #[] }, { accessFlags := 9, nameIndex := 201, descriptorIndex := 335, attributes := #[] }] 49 4 #[] #[{ accessFlags := 25, nameIndex := 354, descriptorIndex := 339, attributes := #[] }, { accessFlags := 25, nameIndex := 358, descriptorIndex := 339, attributes := #[] }, { accessFlags := 25, nameIndex := 361, descriptorIndex := 339, attributes := #[] }, { accessFlags := 26, nameIndex := 364, descriptorIndex := 339, attributes := #[] }, { accessFlags := 26, nameIndex := 365, descriptorIndex := 339, attributes := #[] }, { accessFlags := 26, nameIndex := 172, descriptorIndex := 173, attributes := #[] }, { accessFlags := 26, nameIndex := 176, descriptorIndex := 173, attributes := #[] }, { accessFlags := 8, nameIndex := 344, descriptorIndex := 339, attributes := #[] }, { accessFlags := 8, nameIndex := 338, descriptorIndex := 339, attributes := #[] }, { accessFlags := 4120, nameIndex := 245, descriptorIndex := 246, attributes := #[] }])
  fields := #[{ name := "E", type := .double, accessFlags := 25, slot := 0, constantValue := 0 }, { name := "PI", type := .double, accessFlags := 25, slot := 1, constantValue := 0 }, { name := "TAU", type := .double, accessFlags := 25, slot := 2, constantValue := 0 }, { name := "DEGREES_TO_RADIANS", type := .double, accessFlags := 26, slot := 3, constantValue := 0 }, { name := "RADIANS_TO_DEGREES", type := .double, accessFlags := 26, slot := 4, constantValue := 0 }, { name := "negativeZeroFloatBits", type := .long, accessFlags := 26, slot := 5, constantValue := 0 }, { name := "negativeZeroDoubleBits", type := .long, accessFlags := 26, slot := 6, constantValue := 0 }, { name := "twoToTheDoubleScaleUp", type := .double, accessFlags := 8, slot := 7, constantValue := 0 }, { name := "twoToTheDoubleScaleDown", type := .double, accessFlags := 8, slot := 8, constantValue := 0 }, { name := "$assertionsDisabled", type := .boolean, accessFlags := 4120, slot := 9, constantValue := 0 }]
  methods := #[k14m0, k14m1]
  instanceTypes := #[]
  staticTypes := #[.double, .double, .double, .double, .double, .long, .long, .double, .double, .boolean]
  resolved := Array.replicate 460 none
  statics := none }

def pool15 : Array CpInfo := pool [(2, .class_ 4), (1, u "java/lang/Object"), (0, u "<init>"), (0, u "()V"), (1, .class_ 10), (1, u "java/lang/System"), (0, u "allowSecurityManager"), (0, u "I"), (16, u "cons"), (0, u "Ljava/io/Console;"), (77, .class_ 110), (1, u "java/lang/System$CallersHolder"), (43, u "initialErrStream"), (0, u "Ljava/io/PrintStream;"), (19, u "security"), (0, u "Ljava/lang/SecurityManager;"), (31, .class_ 209), (0, u "java/lang/System$1"), (7, u "props"), (0, u "Ljava/util/Properties;"), (2, u "lineSeparator"), (0, u "Ljava/lang/String;"), (96, .class_ 321), (1, u "java/lang/System$LoggerFinder"), (5, .class_ 328), (0, u "java/lang/System$Logger"), (67, u "err"), (2, u "out"), (91, u "notSupportedJnuEncoding"), (15, u "in"), (17, u "initialIn"), (0, u "Ljava/io/InputStream;"), (35, u "bootLayer"), (0, u "Ljava/lang/ModuleLayer;"), (99, .class_ 664), (0, u "java/lang/System$2"), (9, u "NEVER"), (2, u "MAYBE"), (49, u "arraycopy"), (0, u "(Ljava/lang/Object;ILjava/lang/Object;II)V"), (72, .class_ 802), (0, u "java/lang/System$Logger$Level")] 31

def k15m0 : Method := { name := "<init>", desc := "()V", sig := { parameters := [], returnType := none }, accessFlags := 2, code := none }
def k15m1 : Method := { name := "arraycopy", desc := "(Ljava/lang/Object;ILjava/lang/Object;II)V", sig := { parameters := [(.object "java/lang/Object"), .int, (.object "java/lang/Object"), .int, .int], returnType := none }, accessFlags := 265, code := none }
/-- java/lang/System -/
def k15 : Class := { plain "java/lang/System" (some 0) with
  accessFlags := 49
  interfaces := #[]
  cf := some (fileOf pool15 8 #[.nestMembers #[319, 327, 801, 108, 663, 208]] #[{ accessFlags := 2, nameIndex := 5, descriptorIndex := 6, attributes := #[] }, { accessFlags := 265, nameIndex := 727, descriptorIndex := 728, attributes := #[] }] 49 2 #[] #[{ accessFlags := 25, nameIndex := 507, descriptorIndex := 526, attributes := #[] }, { accessFlags := 25, nameIndex := 399, descriptorIndex := 155, attributes := #[] }, { accessFlags := 25, nameIndex := 396, descriptorIndex := 155, attributes := #[] }, { accessFlags := 10, nameIndex := 525, descriptorIndex := 526, attributes := #[] }, { accessFlags := 26, nameIndex := 674, descriptorIndex := 12, attributes := #[] }, { accessFlags := 26, nameIndex := 677, descriptorIndex := 12, attributes := #[] }, { accessFlags := 10, nameIndex := 11, descriptorIndex := 12, attributes := #[] }, { accessFlags := 74, nameIndex := 175, descriptorIndex := 176, attributes := #[] }, { accessFlags := 10, nameIndex := 491, descriptorIndex := 222, attributes := #[] }, { accessFlags := 74, nameIndex := 29, descriptorIndex := 30, attributes := #[] }, { accessFlags := 74, nameIndex := 154, descriptorIndex := 155, attributes := #[] }, { accessFlags := 10, nameIndex := 217, descriptorIndex := 218, attributes := #[] }, { accessFlags := 10, nameIndex := 221, descriptorIndex := 222, attributes := #[] }, { accessFlags := 8, nameIndex := 562, descriptorIndex := 563, attributes := #[] }])
  fields := #[{ name := "in", type := (.object "java/io/InputStream"), accessFlags := 25, slot := 0, constantValue := 0 }, { name := "out", type := (.object "java/io/PrintStream"), accessFlags := 25, slot := 1, constantValue := 0 }, { name := "err", type := (.object "java/io/PrintStream"), accessFlags := 25, slot := 2, constantValue := 0 }, { name := "initialIn", type := (.object "java/io/InputStream"), accessFlags := 10, slot := 3, constantValue := 0 }, { name := "NEVER", type := .int, accessFlags := 26, slot := 4, constantValue := 0 }, { name := "MAYBE", type := .int, accessFlags := 26, slot := 5, constantValue := 0 }, { name := "allowSecurityManager", type := .int, accessFlags := 10, slot := 6, constantValue := 0 }, { name := "security", type := (.object "java/lang/SecurityManager"), accessFlags := 74, slot := 7, constantValue := 0 }, { name := "notSupportedJnuEncoding", type := (.object "java/lang/String"), accessFlags := 10, slot := 8, constantValue := 0 }, { name := "cons", type := (.object "java/io/Console"), accessFlags := 74, slot := 9, constantValue := 0 }, { name := "initialErrStream", type := (.object "java/io/PrintStream"), accessFlags := 74, slot := 10, constantValue := 0 }, { name := "props", type := (.object "java/util/Properties"), accessFlags := 10, slot := 11, constantValue := 0 }, { name := "lineSeparator", type := (.object "java/lang/String"), accessFlags := 10, slot := 12, constantValue := 0 }, { name := "bootLayer", type := (.object "java/lang/ModuleLayer"), accessFlags := 8, slot := 13, constantValue := 0 }]
  methods := #[k15m0, k15m1]
  instanceTypes := #[]
  staticTypes := #[(.object "java/io/InputStream"), (.object "java/io/PrintStream"), (.object "java/io/PrintStream"), (.object "java/io/InputStream"), .int, .int, .int, (.object "java/lang/SecurityManager"), (.object "java/lang/String"), (.object "java/io/Console"), (.object "java/io/PrintStream"), (.object "java/util/Properties"), (.object "java/lang/String"), (.object "java/lang/ModuleLayer")]
  resolved := Array.replicate 834 none
  statics := none }

def pool16 : Array CpInfo := pool [(2, .class_ 4), (1, u "java/lang/Object"), (0, u "<init>"), (0, u "()V"), (17, .class_ 26), (1, u "jdk/internal/util/Preconditions"), (6, u "checkIndex"), (21, .class_ 56), (0, u "jdk/internal/util/Preconditions$4"), (57, .class_ 115), (0, u "jdk/internal/util/Preconditions$1"), (7, u "SIOOBE_FORMATTER"), (0, u "Ljava/util/function/BiFunction;"), (0, .class_ 126), (0, u "jdk/internal/util/Preconditions$2"), (3, u "AIOOBE_FORMATTER"), (0, .class_ 132), (0, u "jdk/internal/util/Preconditions$3"), (3, u "IOOBE_FORMATTER"), (41, u "(IILjava/util/function/BiFunction;)I")] 15

def k16m0 : Method := { name := "<init>", desc := "()V", sig := { parameters := [], returnType := none }, accessFlags := 1, code := none }
def k16c1 : Code := { maxStack := 3, maxLocals := 3, code := jdk_41_method_11_code, exceptionTable := #[], attributes := #[] }
def k16m1 : Method := { name := "checkIndex", desc := "(IILjava/util/function/BiFunction;)I", sig := { parameters := [.int, .int, (.object "java/util/function/BiFunction")], returnType := some .int }, accessFlags := 9, code := some k16c1 }
/-- jdk/internal/util/Preconditions -/
def k16 : Class := { plain "jdk/internal/util/Preconditions" (some 0) with
  accessFlags := 33
  interfaces := #[]
  cf := some (fileOf pool16 24 #[.nestMembers #[55, 131, 125, 114]] #[{ accessFlags := 1, nameIndex := 5, descriptorIndex := 6, attributes := #[] }, { accessFlags := 9, nameIndex := 33, descriptorIndex := 178, attributes := #[] }] 33 2 #[] #[{ accessFlags := 25, nameIndex := 123, descriptorIndex := 124, attributes := #[] }, { accessFlags := 25, nameIndex := 130, descriptorIndex := 124, attributes := #[] }, { accessFlags := 25, nameIndex := 136, descriptorIndex := 124, attributes := #[] }])
  fields := #[{ name := "SIOOBE_FORMATTER", type := (.object "java/util/function/BiFunction"), accessFlags := 25, slot := 0, constantValue := 0 }, { name := "AIOOBE_FORMATTER", type := (.object "java/util/function/BiFunction"), accessFlags := 25, slot := 1, constantValue := 0 }, { name := "IOOBE_FORMATTER", type := (.object "java/util/function/BiFunction"), accessFlags := 25, slot := 2, constantValue := 0 }]
  methods := #[k16m0, k16m1]
  instanceTypes := #[]
  staticTypes := #[(.object "java/util/function/BiFunction"), (.object "java/util/function/BiFunction"), (.object "java/util/function/BiFunction")]
  resolved := Array.replicate 194 none
  statics := some 1 }

def pool17 : Array CpInfo := pool [(9, u "<init>"), (6, .class_ 18), (1, u "java/lang/Object"), (0, u "()V"), (1, .class_ 23), (1, u "jdk/internal/util/ArraysSupport"), (0, u "LOG2_ARRAY_LONG_INDEX_SCALE"), (0, u "I"), (2, u "U"), (0, u "Ljdk/internal/misc/Unsafe;"), (8, u "BIG_ENDIAN"), (0, u "Z"), (8, u "LOG2_BYTE_BIT_SIZE"), (4, u "LOG2_ARRAY_INT_INDEX_SCALE"), (54, u "JLA"), (0, u "Ljdk/internal/access/JavaLangAccess;"), (11, u "LOG2_ARRAY_BOOLEAN_INDEX_SCALE"), (9, u "LOG2_ARRAY_BYTE_INDEX_SCALE"), (5, u "LOG2_ARRAY_CHAR_INDEX_SCALE"), (5, u "LOG2_ARRAY_SHORT_INDEX_SCALE"), (18, u "LOG2_ARRAY_FLOAT_INDEX_SCALE"), (24, u "LOG2_ARRAY_DOUBLE_INDEX_SCALE"), (89, u "T_BOOLEAN"), (2, u "T_CHAR"), (1, u "T_FLOAT"), (1, u "T_DOUBLE"), (1, u "T_BYTE"), (1, u "T_SHORT"), (1, u "T_INT"), (1, u "T_LONG"), (1, u "SOFT_MAX_ARRAY_LENGTH")] 83

def k17m0 : Method := { name := "<init>", desc := "()V", sig := { parameters := [], returnType := none }, accessFlags := 2, code := none }
/-- jdk/internal/util/ArraysSupport -/
def k17 : Class := { plain "jdk/internal/util/ArraysSupport" (some 0) with
  accessFlags := 33
  interfaces := #[]
  cf := some (fileOf pool17 21 #[] #[{ accessFlags := 2, nameIndex := 9, descriptorIndex := 19, attributes := #[] }] 33 16 #[] #[{ accessFlags := 24, nameIndex := 28, descriptorIndex := 29, attributes := #[] }, { accessFlags := 26, nameIndex := 38, descriptorIndex := 39, attributes := #[] }, { accessFlags := 25, nameIndex := 121, descriptorIndex := 25, attributes := #[] }, { accessFlags := 25, nameIndex := 131, descriptorIndex := 25, attributes := #[] }, { accessFlags := 25, nameIndex := 137, descriptorIndex := 25, attributes := #[] }, { accessFlags := 25, nameIndex := 143, descriptorIndex := 25, attributes := #[] }, { accessFlags := 25, nameIndex := 53, descriptorIndex := 25, attributes := #[] }, { accessFlags := 25, nameIndex := 24, descriptorIndex := 25, attributes := #[] }, { accessFlags := 25, nameIndex := 162, descriptorIndex := 25, attributes := #[] }, { accessFlags := 25, nameIndex := 187, descriptorIndex := 25, attributes := #[] }, { accessFlags := 26, nameIndex := 48, descriptorIndex := 25, attributes := #[] }, { accessFlags := 25, nameIndex := 277, descriptorIndex := 25, attributes := #[] }, { accessFlags := 25, nameIndex := 280, descriptorIndex := 25, attributes := #[] }, { accessFlags := 25, nameIndex := 282, descriptorIndex := 25, attributes := #[] }, { accessFlags := 25, nameIndex := 284, descriptorIndex := 25, attributes := #[] }, { accessFlags := 25, nameIndex := 286, descriptorIndex := 25, attributes := #[] }, { accessFlags := 25, nameIndex := 288, descriptorIndex := 25, attributes := #[] }, { accessFlags := 25, nameIndex := 290, descriptorIndex := 25, attributes := #[] }, { accessFlags := 25, nameIndex := 292, descriptorIndex := 25, attributes := #[] }, { accessFlags := 26, nameIndex := 108, descriptorIndex := 109, attributes := #[] }, { accessFlags := 25, nameIndex := 294, descriptorIndex := 25, attributes := #[] }])
  fields := #[{ name := "U", type := (.object "jdk/internal/misc/Unsafe"), accessFlags := 24, slot := 0, constantValue := 0 }, { name := "BIG_ENDIAN", type := .boolean, accessFlags := 26, slot := 1, constantValue := 0 }, { name := "LOG2_ARRAY_BOOLEAN_INDEX_SCALE", type := .int, accessFlags := 25, slot := 2, constantValue := 0 }, { name := "LOG2_ARRAY_BYTE_INDEX_SCALE", type := .int, accessFlags := 25, slot := 3, constantValue := 0 }, { name := "LOG2_ARRAY_CHAR_INDEX_SCALE", type := .int, accessFlags := 25, slot := 4, constantValue := 0 }, { name := "LOG2_ARRAY_SHORT_INDEX_SCALE", type := .int, accessFlags := 25, slot := 5, constantValue := 0 }, { name := "LOG2_ARRAY_INT_INDEX_SCALE", type := .int, accessFlags := 25, slot := 6, constantValue := 0 }, { name := "LOG2_ARRAY_LONG_INDEX_SCALE", type := .int, accessFlags := 25, slot := 7, constantValue := 0 }, { name := "LOG2_ARRAY_FLOAT_INDEX_SCALE", type := .int, accessFlags := 25, slot := 8, constantValue := 0 }, { name := "LOG2_ARRAY_DOUBLE_INDEX_SCALE", type := .int, accessFlags := 25, slot := 9, constantValue := 0 }, { name := "LOG2_BYTE_BIT_SIZE", type := .int, accessFlags := 26, slot := 10, constantValue := 0 }, { name := "T_BOOLEAN", type := .int, accessFlags := 25, slot := 11, constantValue := 0 }, { name := "T_CHAR", type := .int, accessFlags := 25, slot := 12, constantValue := 0 }, { name := "T_FLOAT", type := .int, accessFlags := 25, slot := 13, constantValue := 0 }, { name := "T_DOUBLE", type := .int, accessFlags := 25, slot := 14, constantValue := 0 }, { name := "T_BYTE", type := .int, accessFlags := 25, slot := 15, constantValue := 0 }, { name := "T_SHORT", type := .int, accessFlags := 25, slot := 16, constantValue := 0 }, { name := "T_INT", type := .int, accessFlags := 25, slot := 17, constantValue := 0 }, { name := "T_LONG", type := .int, accessFlags := 25, slot := 18, constantValue := 0 }, { name := "JLA", type := (.object "jdk/internal/access/JavaLangAccess"), accessFlags := 26, slot := 19, constantValue := 0 }, { name := "SOFT_MAX_ARRAY_LENGTH", type := .int, accessFlags := 25, slot := 20, constantValue := 0 }]
  methods := #[k17m0]
  instanceTypes := #[]
  staticTypes := #[(.object "jdk/internal/misc/Unsafe"), .boolean, .int, .int, .int, .int, .int, .int, .int, .int, .int, .int, .int, .int, .int, .int, .int, .int, .int, (.object "jdk/internal/access/JavaLangAccess"), .int]
  resolved := Array.replicate 378 none
  statics := none }

def pool18 : Array CpInfo := pool [(1, u "java/lang/Cloneable"), (0, .class_ 1), (0, u "java/lang/Object"), (0, .class_ 3)] 3

/-- java/lang/Cloneable -/
def k18 : Class := { plain "java/lang/Cloneable" (some 0) with
  accessFlags := 1537
  interfaces := #[]
  cf := some (fileOf pool18 2 #[] #[] 1537 4 #[] #[])
  fields := #[]
  methods := #[]
  instanceTypes := #[]
  staticTypes := #[]
  resolved := Array.replicate 8 none
  statics := none }

/-- the primitive byte -/
def k19 : Class := { plain "byte" none with kind := .primitive 'B', accessFlags := 0x411 }
/-- [B -/
def k20 : Class := { plain "[B" (some 0) with kind := .array 19 .byte, interfaces := #[18, 6], accessFlags := 1041 }

/-- the primitive int -/
def k21 : Class := { plain "int" none with kind := .primitive 'I', accessFlags := 0x411 }
/-- [I -/
def k22 : Class := { plain "[I" (some 0) with kind := .array 21 .int, interfaces := #[18, 6], accessFlags := 1041 }

def heap : Heap := #[{ cls := 11, slots := #[.long 0, .int 1, .null, .int 0, .null, .int 0, .int 0], vm := .statics 11 },
  { cls := 16, slots := #[.null, .null, .null], vm := .statics 16 }]
def classes : Array Class := #[k0, k1, k2, k3, k4, k5, k6, k7, k8, k9, k10, k11, k12, k13, k14, k15, k16, k17, k18, k19, k20, k21, k22]
def interned : List (Array UInt16 × Addr) := []
def slotsUsed : Nat := 10
def theMethod : MethodId := ⟨1, 1⟩
def args0 : Array Value := #[.int 5, .int 5]
def aboutOver (below : List Frame) : State where
  vm := { classes := classes, interned := interned.toArray }
  heap := heap
  slotsUsed := slotsUsed
  threads := #[{ frames := .invoking theMethod args0 :: below }]
def below0 : List Frame := [.native { method := ⟨0, 0⟩, args := #[] }]
def about1 : State := aboutOver below0
def p0 : Program := .bare "" "" ""
def e0 : Env := launch0.env 0 0 0
theorem w_frames : about1.frames = Frame.invoking theMethod args0 :: below0 := rfl
set_option maxRecDepth 65536 in
theorem w_args : argsFit about1.vm theMethod args0 = true := by decide +kernel
set_option maxRecDepth 65536 in
theorem w_heap : heapFits about1 = true := by decide +kernel
set_option maxRecDepth 65536 in
theorem w_runnable : about1.curStatus? = some .runnable := by decide +kernel
set_option maxRecDepth 65536 in
theorem w_alone : about1.alone = true := by decide +kernel
set_option maxRecDepth 65536 in
theorem w_named : about1.methodNamed? x = some theMethod := by decide +kernel
set_option maxRecDepth 65536 in
theorem w_hears : about1.hears theMethod below0 = true := by decide +kernel
set_option maxRecDepth 65536 in
theorem w_ripe : about1.ripe theMethod args0 below0 = true := by decide +kernel
theorem w_running : about1.status = .running := rfl
set_option maxRecDepth 65536 in
theorem w_room : about1.hasRoom e0.platform room_1 = true :=
  launch0.hasRoom_least _ room_1 (by decide +kernel) (by decide +kernel) (by decide +kernel) (by decide +kernel) (by decide +kernel) (by decide +kernel)
theorem allAtoms_all (ts : List Jvm.Cond) (a : Array Jvm.Value) (st : Jvm.State) : (allAtoms ts).before a st = ts.all (fun c => c.before a st) := by
  induction ts with
  | nil => rfl
  | cons c t ih =>
    show (Jvm.Cond.and c (allAtoms t)).before a st = _
    rw [Jvm.Cond.before_and, ih, List.all_cons]
def words1 : List Jvm.Cond := Jvm.Cond.code x code maxLocals ret :: tables_1
/-- a 'code' word, met by the world's own term for the bytes: nothing is compared byte by byte -/
theorem code_word {y : MethodName} {bytes : ByteArray} {mx : Nat} {rt : Option FieldType} {a : Array Value} {s : State} {m : MethodId} {meth : Method} {c : Code} (h1 : s.methodNamed? y = some m) (h2 : s.vm.method? m = some meth) (h3 : meth.code = some c) (h4 : c.code = bytes)
    (h5 : (c.maxLocals == mx && c.exceptionTable.isEmpty && decide (c.maxStack ≤ mostOperands) && decide (meth.sig.returnType = rt) && !meth.locks && decide (parseMethodDescriptor y.desc = some meth.sig)) = true) : (Jvm.Cond.code y bytes mx rt).before a s = true := by
  simp only [Bool.and_eq_true, beq_iff_eq, Bool.not_eq_true', decide_eq_true_eq] at h5
  obtain ⟨⟨⟨⟨⟨g1, g2⟩, g3⟩, g4⟩, g5⟩, g6⟩ := h5
  simp [Cond.before, Cond.holds, Cond.value, h1, h2, h3, h4, g1, g2, g3, g4, g5, g6]
def isCode : Jvm.Cond → Bool
  | .code _ _ _ _ => true
  | _ => false
theorem all_split {L : List Jvm.Cond} {P : Jvm.Cond → Bool} (h1 : L.all (fun c => isCode c || P c) = true) (h2 : ∀ c ∈ L.filter isCode, P c = true) : L.all P = true := by
  refine List.all_eq_true.mpr fun c hc => ?_
  have h := List.all_eq_true.mp h1 c hc
  rcases Bool.eq_false_or_eq_true (isCode c) with hi | hi
  · exact h2 c (List.mem_filter.mpr ⟨hc, hi⟩)
  · simpa [hi] using h
set_option maxRecDepth 65536 in
theorem w_c0 : (Jvm.Cond.code x code maxLocals ret).before args0 about1 = true := code_word (m := ⟨1, 1⟩) (meth := k1m1) (c := k1c1) (by decide +kernel) rfl rfl rfl (by decide +kernel)
set_option maxRecDepth 65536 in
theorem w_c1 : (Jvm.Cond.code ({ cls := "com/example/parsewright/parsewright/runtime/Packing$Writer", name := "<init>", desc := "()V" } : Jvm.MethodName) prog_88_method_1_code (1 : Nat) (Option.none : Option Jvm.ClassFile.FieldType)).before args0 about1 = true := code_word (m := ⟨2, 0⟩) (meth := k2m0) (c := k2c0) (by decide +kernel) rfl rfl rfl (by decide +kernel)
set_option maxRecDepth 65536 in
theorem w_c2 : (Jvm.Cond.code ({ cls := "java/lang/Object", name := "<init>", desc := "()V" } : Jvm.MethodName) object_method_1_code (1 : Nat) (Option.none : Option Jvm.ClassFile.FieldType)).before args0 about1 = true := code_word (m := ⟨0, 0⟩) (meth := k0m0) (c := k0c0) (by decide +kernel) rfl rfl rfl (by decide +kernel)
set_option maxRecDepth 65536 in
theorem w_c3 : (Jvm.Cond.code ({ cls := "java/lang/StringBuilder", name := "<init>", desc := "()V" } : Jvm.MethodName) jdk_67_method_1_code (1 : Nat) (Option.none : Option Jvm.ClassFile.FieldType)).before args0 about1 = true := code_word (m := ⟨8, 0⟩) (meth := k8m0) (c := k8c0) (by decide +kernel) rfl rfl rfl (by decide +kernel)
set_option maxRecDepth 65536 in
theorem w_c4 : (Jvm.Cond.code ({ cls := "java/lang/AbstractStringBuilder", name := "<init>", desc := "(I)V" } : Jvm.MethodName) jdk_68_method_2_code (2 : Nat) (Option.none : Option Jvm.ClassFile.FieldType)).before args0 about1 = true := code_word (m := ⟨5, 1⟩) (meth := k5m1) (c := k5c1) (by decide +kernel) rfl rfl rfl (by decide +kernel)
set_option maxRecDepth 65536 in
theorem w_c5 : (Jvm.Cond.code ({ cls := "com/example/parsewright/parsewright/runtime/Packing$Writer", name := "number", desc := "(I)V" } : Jvm.MethodName) prog_88_method_2_code (3 : Nat) (Option.none : Option Jvm.ClassFile.FieldType)).before args0 about1 = true := code_word (m := ⟨2, 1⟩) (meth := k2m1) (c := k2c1) (by decide +kernel) rfl rfl rfl (by decide +kernel)
set_option maxRecDepth 65536 in
theorem w_c6 : (Jvm.Cond.code ({ cls := "java/lang/StringBuilder", name := "append", desc := "(C)Ljava/lang/StringBuilder;" } : Jvm.MethodName) jdk_67_method_14_code (2 : Nat) (Option.some (Jvm.ClassFile.FieldType.object "java/lang/StringBuilder"))).before args0 about1 = true := code_word (m := ⟨8, 1⟩) (meth := k8m1) (c := k8c1) (by decide +kernel) rfl rfl rfl (by decide +kernel)
set_option maxRecDepth 65536 in
theorem w_c7 : (Jvm.Cond.code ({ cls := "java/lang/AbstractStringBuilder", name := "append", desc := "(C)Ljava/lang/AbstractStringBuilder;" } : Jvm.MethodName) jdk_68_method_31_code (2 : Nat) (Option.some (Jvm.ClassFile.FieldType.object "java/lang/AbstractStringBuilder"))).before args0 about1 = true := code_word (m := ⟨5, 4⟩) (meth := k5m4) (c := k5c4) (by decide +kernel) rfl rfl rfl (by decide +kernel)
set_option maxRecDepth 65536 in
theorem w_c8 : (Jvm.Cond.code ({ cls := "java/lang/AbstractStringBuilder", name := "ensureCapacityInternal", desc := "(I)V" } : Jvm.MethodName) jdk_68_method_9_code (3 : Nat) (Option.none : Option Jvm.ClassFile.FieldType)).before args0 about1 = true := code_word (m := ⟨5, 3⟩) (meth := k5m3) (c := k5c3) (by decide +kernel) rfl rfl rfl (by decide +kernel)
set_option maxRecDepth 65536 in
theorem w_c9 : (Jvm.Cond.code ({ cls := "java/lang/AbstractStringBuilder", name := "isLatin1", desc := "()Z" } : Jvm.MethodName) jdk_68_method_68_code (1 : Nat) (Option.some Jvm.ClassFile.FieldType.boolean)).before args0 about1 = true := code_word (m := ⟨5, 6⟩) (meth := k5m6) (c := k5c6) (by decide +kernel) rfl rfl rfl (by decide +kernel)
set_option maxRecDepth 65536 in
theorem w_c10 : (Jvm.Cond.code ({ cls := "java/lang/StringLatin1", name := "canEncode", desc := "(C)Z" } : Jvm.MethodName) jdk_43_method_3_code (1 : Nat) (Option.some Jvm.ClassFile.FieldType.boolean)).before args0 about1 = true := code_word (m := ⟨12, 2⟩) (meth := k12m2) (c := k12c2) (by decide +kernel) rfl rfl rfl (by decide +kernel)
set_option maxRecDepth 65536 in
theorem w_c11 : (Jvm.Cond.code ({ cls := "com/example/parsewright/parsewright/runtime/Packing$Writer", name := "toString", desc := "()Ljava/lang/String;" } : Jvm.MethodName) prog_88_method_7_code (1 : Nat) (Option.some (Jvm.ClassFile.FieldType.object "java/lang/String"))).before args0 about1 = true := code_word (m := ⟨2, 2⟩) (meth := k2m2) (c := k2c2) (by decide +kernel) rfl rfl rfl (by decide +kernel)
set_option maxRecDepth 65536 in
theorem w_c12 : (Jvm.Cond.code ({ cls := "java/lang/StringBuilder", name := "toString", desc := "()Ljava/lang/String;" } : Jvm.MethodName) jdk_67_method_42_code (1 : Nat) (Option.some (Jvm.ClassFile.FieldType.object "java/lang/String"))).before args0 about1 = true := code_word (m := ⟨8, 2⟩) (meth := k8m2) (c := k8c2) (by decide +kernel) rfl rfl rfl (by decide +kernel)
set_option maxRecDepth 65536 in
theorem w_c13 : (Jvm.Cond.code ({ cls := "java/lang/String", name := "<init>", desc := "(Ljava/lang/StringBuilder;)V" } : Jvm.MethodName) jdk_42_method_53_code (2 : Nat) (Option.none : Option Jvm.ClassFile.FieldType)).before args0 about1 = true := code_word (m := ⟨11, 1⟩) (meth := k11m1) (c := k11c1) (by decide +kernel) rfl rfl rfl (by decide +kernel)
set_option maxRecDepth 65536 in
theorem w_c14 : (Jvm.Cond.code ({ cls := "java/lang/String", name := "<init>", desc := "(Ljava/lang/AbstractStringBuilder;Ljava/lang/Void;)V" } : Jvm.MethodName) jdk_42_method_150_code (5 : Nat) (Option.none : Option Jvm.ClassFile.FieldType)).before args0 about1 = true := code_word (m := ⟨11, 4⟩) (meth := k11m4) (c := k11c4) (by decide +kernel) rfl rfl rfl (by decide +kernel)
set_option maxRecDepth 65536 in
theorem w_c15 : (Jvm.Cond.code ({ cls := "java/lang/AbstractStringBuilder", name := "getValue", desc := "()[B" } : Jvm.MethodName) jdk_68_method_64_code (1 : Nat) (Option.some (Jvm.ClassFile.FieldType.array Jvm.ClassFile.FieldType.byte))).before args0 about1 = true := code_word (m := ⟨5, 5⟩) (meth := k5m5) (c := k5c5) (by decide +kernel) rfl rfl rfl (by decide +kernel)
set_option maxRecDepth 65536 in
theorem w_c16 : (Jvm.Cond.code ({ cls := "java/lang/StringBuilder", name := "length", desc := "()I" } : Jvm.MethodName) jdk_67_method_93_code (1 : Nat) (Option.some Jvm.ClassFile.FieldType.int)).before args0 about1 = true := code_word (m := ⟨8, 3⟩) (meth := k8m3) (c := k8c3) (by decide +kernel) rfl rfl rfl (by decide +kernel)
set_option maxRecDepth 65536 in
theorem w_c17 : (Jvm.Cond.code ({ cls := "java/lang/AbstractStringBuilder", name := "length", desc := "()I" } : Jvm.MethodName) jdk_68_method_6_code (1 : Nat) (Option.some Jvm.ClassFile.FieldType.int)).before args0 about1 = true := code_word (m := ⟨5, 2⟩) (meth := k5m2) (c := k5c2) (by decide +kernel) rfl rfl rfl (by decide +kernel)
set_option maxRecDepth 65536 in
theorem w_c18 : (Jvm.Cond.code ({ cls := "java/util/Arrays", name := "copyOfRange", desc := "([BII)[B" } : Jvm.MethodName) jdk_65_method_132_code (3 : Nat) (Option.some (Jvm.ClassFile.FieldType.array Jvm.ClassFile.FieldType.byte))).before args0 about1 = true := code_word (m := ⟨13, 2⟩) (meth := k13m2) (c := k13c2) (by decide +kernel) rfl rfl rfl (by decide +kernel)
set_option maxRecDepth 65536 in
theorem w_c19 : (Jvm.Cond.code ({ cls := "java/util/Arrays", name := "copyOfRangeByte", desc := "([BII)[B" } : Jvm.MethodName) jdk_65_method_133_code (5 : Nat) (Option.some (Jvm.ClassFile.FieldType.array Jvm.ClassFile.FieldType.byte))).before args0 about1 = true := code_word (m := ⟨13, 3⟩) (meth := k13m3) (c := k13c3) (by decide +kernel) rfl rfl rfl (by decide +kernel)
set_option maxRecDepth 65536 in
theorem w_c20 : (Jvm.Cond.code ({ cls := "java/util/Arrays", name := "checkLength", desc := "(II)V" } : Jvm.MethodName) jdk_65_method_131_code (2 : Nat) (Option.none : Option Jvm.ClassFile.FieldType)).before args0 about1 = true := code_word (m := ⟨13, 1⟩) (meth := k13m1) (c := k13c1) (by decide +kernel) rfl rfl rfl (by decide +kernel)
set_option maxRecDepth 65536 in
theorem w_c21 : (Jvm.Cond.code ({ cls := "java/lang/Math", name := "min", desc := "(II)I" } : Jvm.MethodName) jdk_29_method_69_code (2 : Nat) (Option.some Jvm.ClassFile.FieldType.int)).before args0 about1 = true := code_word (m := ⟨14, 1⟩) (meth := k14m1) (c := k14c1) (by decide +kernel) rfl rfl rfl (by decide +kernel)
set_option maxRecDepth 65536 in
theorem w_c22 : (Jvm.Cond.code ({ cls := "com/example/parsewright/parsewright/runtime/WriterNumberPinLaw", name := "zig", desc := "(I)J" } : Jvm.MethodName) method_3_code (3 : Nat) (Option.some Jvm.ClassFile.FieldType.long)).before args0 about1 = true := code_word (m := ⟨1, 2⟩) (meth := k1m2) (c := k1c2) (by decide +kernel) rfl rfl rfl (by decide +kernel)
set_option maxRecDepth 65536 in
theorem w_c23 : (Jvm.Cond.code ({ cls := "com/example/parsewright/parsewright/runtime/WriterNumberPinLaw", name := "len", desc := "(J)I" } : Jvm.MethodName) method_4_code (2 : Nat) (Option.some Jvm.ClassFile.FieldType.int)).before args0 about1 = true := code_word (m := ⟨1, 3⟩) (meth := k1m3) (c := k1c3) (by decide +kernel) rfl rfl rfl (by decide +kernel)
set_option maxRecDepth 65536 in
theorem w_c24 : (Jvm.Cond.code ({ cls := "java/lang/String", name := "length", desc := "()I" } : Jvm.MethodName) jdk_42_method_54_code (1 : Nat) (Option.some Jvm.ClassFile.FieldType.int)).before args0 about1 = true := code_word (m := ⟨11, 2⟩) (meth := k11m2) (c := k11c2) (by decide +kernel) rfl rfl rfl (by decide +kernel)
set_option maxRecDepth 65536 in
theorem w_c25 : (Jvm.Cond.code ({ cls := "java/lang/String", name := "coder", desc := "()B" } : Jvm.MethodName) jdk_42_method_152_code (1 : Nat) (Option.some Jvm.ClassFile.FieldType.byte)).before args0 about1 = true := code_word (m := ⟨11, 5⟩) (meth := k11m5) (c := k11c5) (by decide +kernel) rfl rfl rfl (by decide +kernel)
set_option maxRecDepth 65536 in
theorem w_c26 : (Jvm.Cond.code ({ cls := "com/example/parsewright/parsewright/runtime/WriterNumberPinLaw", name := "encodes", desc := "(Ljava/lang/String;IJI)Z" } : Jvm.MethodName) method_6_code (5 : Nat) (Option.some Jvm.ClassFile.FieldType.boolean)).before args0 about1 = true := code_word (m := ⟨1, 5⟩) (meth := k1m5) (c := k1c5) (by decide +kernel) rfl rfl rfl (by decide +kernel)
set_option maxRecDepth 65536 in
theorem w_c27 : (Jvm.Cond.code ({ cls := "com/example/parsewright/parsewright/runtime/WriterNumberPinLaw", name := "digit", desc := "(Ljava/lang/String;IJII)Z" } : Jvm.MethodName) method_5_code (9 : Nat) (Option.some Jvm.ClassFile.FieldType.boolean)).before args0 about1 = true := code_word (m := ⟨1, 4⟩) (meth := k1m4) (c := k1c4) (by decide +kernel) rfl rfl rfl (by decide +kernel)
set_option maxRecDepth 65536 in
theorem w_c28 : (Jvm.Cond.code ({ cls := "java/lang/String", name := "charAt", desc := "(I)C" } : Jvm.MethodName) jdk_42_method_56_code (2 : Nat) (Option.some Jvm.ClassFile.FieldType.char)).before args0 about1 = true := code_word (m := ⟨11, 3⟩) (meth := k11m3) (c := k11c3) (by decide +kernel) rfl rfl rfl (by decide +kernel)
set_option maxRecDepth 65536 in
theorem w_c29 : (Jvm.Cond.code ({ cls := "java/lang/String", name := "isLatin1", desc := "()Z" } : Jvm.MethodName) jdk_42_method_154_code (1 : Nat) (Option.some Jvm.ClassFile.FieldType.boolean)).before args0 about1 = true := code_word (m := ⟨11, 6⟩) (meth := k11m6) (c := k11c6) (by decide +kernel) rfl rfl rfl (by decide +kernel)
set_option maxRecDepth 65536 in
theorem w_c30 : (Jvm.Cond.code ({ cls := "java/lang/StringLatin1", name := "charAt", desc := "([BI)C" } : Jvm.MethodName) jdk_43_method_2_code (2 : Nat) (Option.some Jvm.ClassFile.FieldType.char)).before args0 about1 = true := code_word (m := ⟨12, 1⟩) (meth := k12m1) (c := k12c1) (by decide +kernel) rfl rfl rfl (by decide +kernel)
set_option maxRecDepth 65536 in
theorem w_c31 : (Jvm.Cond.code ({ cls := "java/lang/String", name := "checkIndex", desc := "(II)V" } : Jvm.MethodName) jdk_42_method_155_code (2 : Nat) (Option.none : Option Jvm.ClassFile.FieldType)).before args0 about1 = true := code_word (m := ⟨11, 7⟩) (meth := k11m7) (c := k11c7) (by decide +kernel) rfl rfl rfl (by decide +kernel)
set_option maxRecDepth 65536 in
theorem w_c32 : (Jvm.Cond.code ({ cls := "jdk/internal/util/Preconditions", name := "checkIndex", desc := "(IILjava/util/function/BiFunction;)I" } : Jvm.MethodName) jdk_41_method_11_code (3 : Nat) (Option.some Jvm.ClassFile.FieldType.int)).before args0 about1 = true := code_word (m := ⟨16, 1⟩) (meth := k16m1) (c := k16c1) (by decide +kernel) rfl rfl rfl (by decide +kernel)
def codes1 : List Jvm.Cond := [Jvm.Cond.code x code maxLocals ret, Jvm.Cond.code ({ cls := "com/example/parsewright/parsewright/runtime/Packing$Writer", name := "<init>", desc := "()V" } : Jvm.MethodName) prog_88_method_1_code (1 : Nat) (Option.none : Option Jvm.ClassFile.FieldType), Jvm.Cond.code ({ cls := "java/lang/Object", name := "<init>", desc := "()V" } : Jvm.MethodName) object_method_1_code (1 : Nat) (Option.none : Option Jvm.ClassFile.FieldType), Jvm.Cond.code ({ cls := "java/lang/StringBuilder", name := "<init>", desc := "()V" } : Jvm.MethodName) jdk_67_method_1_code (1 : Nat) (Option.none : Option Jvm.ClassFile.FieldType), Jvm.Cond.code ({ cls := "java/lang/AbstractStringBuilder", name := "<init>", desc := "(I)V" } : Jvm.MethodName) jdk_68_method_2_code (2 : Nat) (Option.none : Option Jvm.ClassFile.FieldType), Jvm.Cond.code ({ cls := "com/example/parsewright/parsewright/runtime/Packing$Writer", name := "number", desc := "(I)V" } : Jvm.MethodName) prog_88_method_2_code (3 : Nat) (Option.none : Option Jvm.ClassFile.FieldType), Jvm.Cond.code ({ cls := "java/lang/StringBuilder", name := "append", desc := "(C)Ljava/lang/StringBuilder;" } : Jvm.MethodName) jdk_67_method_14_code (2 : Nat) (Option.some (Jvm.ClassFile.FieldType.object "java/lang/StringBuilder")), Jvm.Cond.code ({ cls := "java/lang/AbstractStringBuilder", name := "append", desc := "(C)Ljava/lang/AbstractStringBuilder;" } : Jvm.MethodName) jdk_68_method_31_code (2 : Nat) (Option.some (Jvm.ClassFile.FieldType.object "java/lang/AbstractStringBuilder")), Jvm.Cond.code ({ cls := "java/lang/AbstractStringBuilder", name := "ensureCapacityInternal", desc := "(I)V" } : Jvm.MethodName) jdk_68_method_9_code (3 : Nat) (Option.none : Option Jvm.ClassFile.FieldType), Jvm.Cond.code ({ cls := "java/lang/AbstractStringBuilder", name := "isLatin1", desc := "()Z" } : Jvm.MethodName) jdk_68_method_68_code (1 : Nat) (Option.some Jvm.ClassFile.FieldType.boolean), Jvm.Cond.code ({ cls := "java/lang/StringLatin1", name := "canEncode", desc := "(C)Z" } : Jvm.MethodName) jdk_43_method_3_code (1 : Nat) (Option.some Jvm.ClassFile.FieldType.boolean), Jvm.Cond.code ({ cls := "com/example/parsewright/parsewright/runtime/Packing$Writer", name := "toString", desc := "()Ljava/lang/String;" } : Jvm.MethodName) prog_88_method_7_code (1 : Nat) (Option.some (Jvm.ClassFile.FieldType.object "java/lang/String")), Jvm.Cond.code ({ cls := "java/lang/StringBuilder", name := "toString", desc := "()Ljava/lang/String;" } : Jvm.MethodName) jdk_67_method_42_code (1 : Nat) (Option.some (Jvm.ClassFile.FieldType.object "java/lang/String")), Jvm.Cond.code ({ cls := "java/lang/String", name := "<init>", desc := "(Ljava/lang/StringBuilder;)V" } : Jvm.MethodName) jdk_42_method_53_code (2 : Nat) (Option.none : Option Jvm.ClassFile.FieldType), Jvm.Cond.code ({ cls := "java/lang/String", name := "<init>", desc := "(Ljava/lang/AbstractStringBuilder;Ljava/lang/Void;)V" } : Jvm.MethodName) jdk_42_method_150_code (5 : Nat) (Option.none : Option Jvm.ClassFile.FieldType), Jvm.Cond.code ({ cls := "java/lang/AbstractStringBuilder", name := "getValue", desc := "()[B" } : Jvm.MethodName) jdk_68_method_64_code (1 : Nat) (Option.some (Jvm.ClassFile.FieldType.array Jvm.ClassFile.FieldType.byte)), Jvm.Cond.code ({ cls := "java/lang/StringBuilder", name := "length", desc := "()I" } : Jvm.MethodName) jdk_67_method_93_code (1 : Nat) (Option.some Jvm.ClassFile.FieldType.int), Jvm.Cond.code ({ cls := "java/lang/AbstractStringBuilder", name := "length", desc := "()I" } : Jvm.MethodName) jdk_68_method_6_code (1 : Nat) (Option.some Jvm.ClassFile.FieldType.int), Jvm.Cond.code ({ cls := "java/util/Arrays", name := "copyOfRange", desc := "([BII)[B" } : Jvm.MethodName) jdk_65_method_132_code (3 : Nat) (Option.some (Jvm.ClassFile.FieldType.array Jvm.ClassFile.FieldType.byte)), Jvm.Cond.code ({ cls := "java/util/Arrays", name := "copyOfRangeByte", desc := "([BII)[B" } : Jvm.MethodName) jdk_65_method_133_code (5 : Nat) (Option.some (Jvm.ClassFile.FieldType.array Jvm.ClassFile.FieldType.byte)), Jvm.Cond.code ({ cls := "java/util/Arrays", name := "checkLength", desc := "(II)V" } : Jvm.MethodName) jdk_65_method_131_code (2 : Nat) (Option.none : Option Jvm.ClassFile.FieldType), Jvm.Cond.code ({ cls := "java/lang/Math", name := "min", desc := "(II)I" } : Jvm.MethodName) jdk_29_method_69_code (2 : Nat) (Option.some Jvm.ClassFile.FieldType.int), Jvm.Cond.code ({ cls := "com/example/parsewright/parsewright/runtime/WriterNumberPinLaw", name := "zig", desc := "(I)J" } : Jvm.MethodName) method_3_code (3 : Nat) (Option.some Jvm.ClassFile.FieldType.long), Jvm.Cond.code ({ cls := "com/example/parsewright/parsewright/runtime/WriterNumberPinLaw", name := "len", desc := "(J)I" } : Jvm.MethodName) method_4_code (2 : Nat) (Option.some Jvm.ClassFile.FieldType.int), Jvm.Cond.code ({ cls := "java/lang/String", name := "length", desc := "()I" } : Jvm.MethodName) jdk_42_method_54_code (1 : Nat) (Option.some Jvm.ClassFile.FieldType.int), Jvm.Cond.code ({ cls := "java/lang/String", name := "coder", desc := "()B" } : Jvm.MethodName) jdk_42_method_152_code (1 : Nat) (Option.some Jvm.ClassFile.FieldType.byte), Jvm.Cond.code ({ cls := "com/example/parsewright/parsewright/runtime/WriterNumberPinLaw", name := "encodes", desc := "(Ljava/lang/String;IJI)Z" } : Jvm.MethodName) method_6_code (5 : Nat) (Option.some Jvm.ClassFile.FieldType.boolean), Jvm.Cond.code ({ cls := "com/example/parsewright/parsewright/runtime/WriterNumberPinLaw", name := "digit", desc := "(Ljava/lang/String;IJII)Z" } : Jvm.MethodName) method_5_code (9 : Nat) (Option.some Jvm.ClassFile.FieldType.boolean), Jvm.Cond.code ({ cls := "java/lang/String", name := "charAt", desc := "(I)C" } : Jvm.MethodName) jdk_42_method_56_code (2 : Nat) (Option.some Jvm.ClassFile.FieldType.char), Jvm.Cond.code ({ cls := "java/lang/String", name := "isLatin1", desc := "()Z" } : Jvm.MethodName) jdk_42_method_154_code (1 : Nat) (Option.some Jvm.ClassFile.FieldType.boolean), Jvm.Cond.code ({ cls := "java/lang/StringLatin1", name := "charAt", desc := "([BI)C" } : Jvm.MethodName) jdk_43_method_2_code (2 : Nat) (Option.some Jvm.ClassFile.FieldType.char), Jvm.Cond.code ({ cls := "java/lang/String", name := "checkIndex", desc := "(II)V" } : Jvm.MethodName) jdk_42_method_155_code (2 : Nat) (Option.none : Option Jvm.ClassFile.FieldType), Jvm.Cond.code ({ cls := "jdk/internal/util/Preconditions", name := "checkIndex", desc := "(IILjava/util/function/BiFunction;)I" } : Jvm.MethodName) jdk_41_method_11_code (3 : Nat) (Option.some Jvm.ClassFile.FieldType.int)]
set_option maxRecDepth 65536 in
theorem codes_eq : words1.filter isCode = codes1 := rfl
theorem w_codes : ∀ c ∈ words1.filter isCode, c.before args0 about1 = true := by
  rw [codes_eq]
  intro c hc
  simp only [codes1, List.mem_cons, List.not_mem_nil, or_false] at hc
  rcases hc with rfl | rfl | rfl | rfl | rfl | rfl | rfl | rfl | rfl | rfl | rfl | rfl | rfl | rfl | rfl | rfl | rfl | rfl | rfl | rfl | rfl | rfl | rfl | rfl | rfl | rfl | rfl | rfl | rfl | rfl | rfl | rfl | rfl
  · exact w_c0
  · exact w_c1
  · exact w_c2
  · exact w_c3
  · exact w_c4
  · exact w_c5
  · exact w_c6
  · exact w_c7
  · exact w_c8
  · exact w_c9
  · exact w_c10
  · exact w_c11
  · exact w_c12
  · exact w_c13
  · exact w_c14
  · exact w_c15
  · exact w_c16
  · exact w_c17
  · exact w_c18
  · exact w_c19
  · exact w_c20
  · exact w_c21
  · exact w_c22
  · exact w_c23
  · exact w_c24
  · exact w_c25
  · exact w_c26
  · exact w_c27
  · exact w_c28
  · exact w_c29
  · exact w_c30
  · exact w_c31
  · exact w_c32
set_option maxRecDepth 65536 in
theorem w_t1 : (words1.take 24).all (fun c => isCode c || c.before args0 about1) = true := by decide +kernel
set_option maxRecDepth 65536 in
theorem w_t2 : ((words1.drop 24).take 24).all (fun c => isCode c || c.before args0 about1) = true := by decide +kernel
set_option maxRecDepth 65536 in
theorem w_t3 : (((words1.drop 24).drop 24).take 24).all (fun c => isCode c || c.before args0 about1) = true := by decide +kernel
set_option maxRecDepth 65536 in
theorem w_t4 : ((((words1.drop 24).drop 24).drop 24).take 24).all (fun c => isCode c || c.before args0 about1) = true := by decide +kernel
set_option maxRecDepth 65536 in
theorem w_t5 : (((((words1.drop 24).drop 24).drop 24).drop 24).take 24).all (fun c => isCode c || c.before args0 about1) = true := by decide +kernel
set_option maxRecDepth 65536 in
theorem w_t6 : ((((((words1.drop 24).drop 24).drop 24).drop 24).drop 24).take 24).all (fun c => isCode c || c.before args0 about1) = true := by decide +kernel
set_option maxRecDepth 65536 in
theorem w_t7 : (((((((words1.drop 24).drop 24).drop 24).drop 24).drop 24).drop 24).take 24).all (fun c => isCode c || c.before args0 about1) = true := by decide +kernel
set_option maxRecDepth 65536 in
theorem w_t8 : (((((((words1.drop 24).drop 24).drop 24).drop 24).drop 24).drop 24).drop 24).all (fun c => isCode c || c.before args0 about1) = true := by decide +kernel
theorem w_tables : (allAtoms (Jvm.Cond.code x code maxLocals ret :: tables_1)).before args0 about1 = true := by
  rw [allAtoms_all]
  show words1.all (fun c => c.before args0 about1) = true
  refine all_split ?_ w_codes
  rw [← List.take_append_drop 24 words1, List.all_append, w_t1, ← List.take_append_drop 24 (words1.drop 24), List.all_append, w_t2, ← List.take_append_drop 24 ((words1.drop 24).drop 24), List.all_append, w_t3, ← List.take_append_drop 24 (((words1.drop 24).drop 24).drop 24), List.all_append, w_t4, ← List.take_append_drop 24 ((((words1.drop 24).drop 24).drop 24).drop 24), List.all_append, w_t5, ← List.take_append_drop 24 (((((words1.drop 24).drop 24).drop 24).drop 24).drop 24), List.all_append, w_t6, ← List.take_append_drop 24 ((((((words1.drop 24).drop 24).drop 24).drop 24).drop 24).drop 24), List.all_append, w_t7, w_t8]
  rfl
set_option maxRecDepth 65536 in
theorem w_rest : rest_1_c.before args0 about1 = true := by decide +kernel
set_option maxRecDepth 65536 in
theorem w_case : (Jvm.Cond.and given_1 narrow_1).before args0 about1 = true := by decide +kernel
theorem w_applies : (headSpec (Jvm.Cond.code x code maxLocals ret :: tables_1) room_1).applies x e0.platform about1 = true :=
  (Spec.applies_iff w_frames).mpr ⟨w_running, w_runnable, w_alone, w_named, w_hears, w_ripe, w_room, w_tables⟩
theorem atStart : AtStart classFile x code maxLocals ret World_1 tables_1 room_1 Calls_1 rest_1 Pre_1 launch0 p0 e0 about1 theMethod args0 below0 :=
  ⟨lists_1, trivial, launch0.admits_env _ _ _, launch0.least_env, fairChoices_fair.cas, fairChoices_fair.clock, w_frames, w_args, w_heap, w_applies, trivial, w_rest, w_case⟩
end start1
theorem witness_1 : WitnessClaimed_1 := ⟨start1.p0, start1.e0, start1.about1, start1.theMethod, start1.args0, start1.below0, start1.atStart⟩
end Jvm.Pilot.@@N@@
