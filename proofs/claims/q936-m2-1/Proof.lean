import JvmDerived
import JvmDerived.Pilot.@@N@@Statement
import JvmDerived.Pilot.@@N@@Code
set_option linter.unusedVariables false
set_option linter.unusedSimpArgs false
@@BLOCK:NumsL.lean.txt@@
namespace Jvm.Pilot.@@N@@
open Jvm Jvm.ClassFile Sem Op Lib Jvm.Free Jvm.Stand Jvm.LawKit Jvm.RoadKit Bundle Jvm.Pilot.@@N@@.Jvm.D
section Own
variable {p : Program} {l : Launch} {e : Env} {R : Room} {s : State} {m : MethodId} {args : Array Value} {below : List Frame} {meth : Method} {c : Code} {T : State} {locs : List Loc} {cells slots : Nat} {Z : State} {h h' : Heap}
/-- the run goes on from S to a state of which F holds -/
def Goes (tb : Tables) (e : Env) (below : List Frame) (F : State → Prop) (S : State) : Prop := ∃ t, Steps tb e below S t ∧ F t
theorem Goes.via {tb : Tables} {F : State → Prop} {S S' : State} (q : ∀ t, Steps tb e below S' t → Steps tb e below S t) (g : Goes tb e below F S') : Goes tb e below F S := by
  obtain ⟨t, a, b⟩ := g
  exact ⟨t, q t a, b⟩
/-- what a body leaves -/
def Fin (s : State) (below : List Frame) (Q : Option Value → Heap → List Loc → Prop) (C S : Nat) (t : State) : Prop := ∃ o, t.status = .running ∧ Ended t below o ∧ ∃ v L, o = .returned v ∧ Q v t.heap L ∧ FrameEnd s o t L C S
theorem own_start {tb : Tables} {Q : Option Value → Heap → List Loc → Prop} {C S : Nat} {S0 : State} (g : Goes tb e below (Fin s below Q C S) S0) : ∃ s₂ o, Steps tb e below S0 s₂ ∧ s₂.status = .running ∧ Ended s₂ below o ∧ ∃ v L, o = .returned v ∧ Q v s₂.heap L ∧ FrameEnd s o s₂ L C S := by
  obtain ⟨t, a, o, b, d, r⟩ := g
  exact ⟨t, o, a, b, d, r⟩
theorem own_ret (X : Stand p l e R s m args below meth c T locs cells slots) (hx : p.tables.exec = Jvm.exec) {pc : Nat} {Ls : Array Slot} {w : Value} {t : FieldType} {i : Instr} {rest : List Value} (hlk : meth.locks = false) (hret : meth.sig.returnType = some t) (hn : narrow t w = w)
    (hi : (i = .ireturn ∧ (t = .int ∨ t = .boolean ∨ t = .byte ∨ t = .char ∨ t = .short) ∧ ∃ z, w = .int z) ∨ (i = .lreturn ∧ t = .long ∧ ∃ z, w = .long z) ∨ (i = .dreturn ∧ t = .double ∧ ∃ z, w = .double z) ∨ (i = .freturn ∧ t = .float ∧ ∃ z, w = .float z) ∨ (i = .areturn ∧ t.isReference = true ∧ w.isRef = true))
    (hd : decode c.code pc = .ok (i, 1)) {Q : Option Value → Heap → List Loc → Prop} {C S : Nat} (eT : T.heap = h) (hQ : Q (some w) h locs) (hc : cells ≤ C) (hs : slots ≤ S) : Goes p.tables e below (Fin s below Q C S) (T.setTop (mkF m pc Ls (w :: rest))) := by
  obtain ⟨fs, hr, hrun, hended, hW, hsame⟩ := X.leave (v := some w) (fun q => by rw [hret] at q; cases q) hlk
  exact ⟨_, retOut X hx hret hn hi hd hr, _, hrun, hended, _, _, rfl, (by show Q (some w) T.heap locs; rw [eT]; exact hQ), ⟨_, rfl⟩, hW, hsame.mono hc hs⟩
theorem own_retV (X : Stand p l e R s m args below meth c T locs cells slots) (hx : p.tables.exec = Jvm.exec) {pc : Nat} {Ls : Array Slot} (hlk : meth.locks = false) (hret : meth.sig.returnType = none)
    (hd : decode c.code pc = .ok (.return_, 1)) {Q : Option Value → Heap → List Loc → Prop} {C S : Nat} (eT : T.heap = h) (hQ : Q none h locs) (hc : cells ≤ C) (hs : slots ≤ S) : Goes p.tables e below (Fin s below Q C S) (T.setTop (mkF m pc Ls [])) := by
  obtain ⟨fs, hr, hrun, hended, hW, hsame⟩ := X.leave (v := none) (fun _ => rfl) hlk
  exact ⟨_, X.returnOut hx hret hd hr, _, hrun, hended, _, _, rfl, (by show Q none T.heap locs; rw [eT]; exact hQ), ⟨_, rfl⟩, hW, hsame.mono hc hs⟩
theorem own_b1 {P : Prop} [Decidable P] {v : Int32} (hv : v = if P then 1 else 0) (q : P) : ¬ v = 0 := by rw [hv, if_pos q]; decide
theorem own_b0 {P : Prop} [Decidable P] {v : Int32} (hv : v = if P then 1 else 0) (q : ¬ P) : v = 0 := by rw [hv, if_neg q]
theorem own_beq {P P' : Prop} [Decidable P] [Decidable P'] {v v' : Int32} (hv : v = if P then 1 else 0) (hv' : v' = if P' then 1 else 0) (q : P ↔ P') : v = v' := by rw [hv, hv']; simp [q]
theorem own_nb {P : Prop} [Decidable P] {v : Int32} (hv : v = if P then 1 else 0) : narrow .boolean (.int v) = .int v := by rw [hv]; split <;> rfl
theorem own_nb2 {P : Prop} [Decidable P] {v : Int32} (hv : v = if P then 1 else 0) : nar .boolean v = v := by rw [hv]; split <;> rfl
theorem own_lt {x y : Int64} (q : x < y) : lcmpW x y < 0 := (lw_lt x y).mpr q
theorem own_nlt {x y : Int64} (q : ¬ x < y) : ¬ lcmpW x y < 0 := fun r => q ((lw_lt x y).mp r)
theorem own_gt {x y : Int64} (q : y < x) : 0 < lcmpW x y := (lw_gt x y).mpr q
theorem own_ngt {x y : Int64} (q : ¬ y < x) : ¬ 0 < lcmpW x y := fun r => q ((lw_gt x y).mp r)
theorem own_eq {x y : Int64} (q : x = y) : lcmpW x y = 0 := (lw_eq x y).mpr q
theorem own_neq {x y : Int64} (q : ¬ x = y) : ¬ lcmpW x y = 0 := fun r => q ((lw_eq x y).mp r)
theorem own_staKeep {C n d : String} {v : Value} {ws : List Addr} (F : Sta Z h C n d v) (K : Keep h h' ws) (q : ∀ x ∈ ws, ∀ cc : Cell, h[x]? = some cc → cc.vm.isStatics = false) : Sta Z h' C n d v := by
  obtain ⟨cf, i, k, f, st, cell, h1, h2, h3, h4, h5, h6, h7⟩ := F
  exact ⟨cf, i, k, f, st, cell, h1, h2, h3, h4, K.2.1 st cell h5 (fun r => by rw [q st r cell h5] at h6; cases h6), h6, h7⟩
theorem own_nst {a : Addr} {C : String} (F : Exa Z h a C) : ∀ cc : Cell, h[a]? = some cc → cc.vm.isStatics = false := fun cc q => by
  obtain ⟨c1, k, h1, -, -, h4, -⟩ := F
  cases h1.symm.trans q
  exact h4
theorem own_nstV {a : Addr} {k : ClassId} {ty : FieldType} {n : Int32} {vs : List Value} {dv : Value} (F : Arv Z h a k ty n vs dv) : ∀ cc : Cell, h[a]? = some cc → cc.vm.isStatics = false := fun cc q => by
  obtain ⟨c1, A, -⟩ := F
  cases A.1.symm.trans q
  exact A.plain
theorem own_fval {a : Addr} {C n d : String} {v w : Value} (q : v = w) (F : Fld Z h a C n d v) : Fld Z h a C n d w := q ▸ F
theorem own_exS {a0 : Array Value} {C n d K : String} (q : (Cond.exactly (Term.static C n d) K).value a0 Z none Z [] = some true) (wi : (Cond.initialized C).before a0 Z = true) (wl : (Cond.laysStatic C n d).before a0 Z = true) : ∃ a, Sta Z Z.heap C n d (.ref a) ∧ Exa Z Z.heap a K ∧ (Term.static C n d).eval a0 Z none [] Z = some (.ref a) := by
  obtain ⟨a, c', cell, k, e1, -⟩ := Cond.exactly_spec (Cond.before_iff.mpr q)
  exact ⟨a, Sta.start e1 (Or.inr ⟨wi, wl⟩), Exa.start e1 q, e1⟩
theorem own_eqI {a0 : Array Value} {t : Term} {k : Int32} (q : (Cond.eq t (Term.int k)).value a0 Z none Z [] = some true) : t.eval a0 Z none [] Z = some (.int k) := by
  simp only [Cond.value] at q
  split at q <;> simp_all [Term.int_eval]
theorem own_fldI {a0 : Array Value} {t : Term} {O n d : String} {k : Int32} {a : Addr} (ev : t.eval a0 Z none [] Z = some (.ref a)) (q : (Cond.eq (Term.field t O n d) (Term.int k)).value a0 Z none Z [] = some true) : Fld Z Z.heap a O n d (.int k) := by
  have r : (Term.field t O n d).eval a0 Z none [] Z = some (.int k) := own_eqI q
  refine Fld.start ?_
  simpa [Term.eval, ev] using r
theorem own_intne {x y : Int32} (q : ¬ x = y) : Value.int x ≠ Value.int y := fun r => q (Value.int.inj r)
theorem own_fldN {a0 : Array Value} {t : Term} {O n d : String} {a : Addr} (ev : t.eval a0 Z none [] Z = some (.ref a)) (q : (Cond.eq (Term.field t O n d) Term.null).value a0 Z none Z [] = some true) : Fld Z Z.heap a O n d .null := by
  have r : (Term.field t O n d).eval a0 Z none [] Z = some .null := by
    have e0 : Term.null.eval a0 Z none [] Z = some .null := rfl
    simp only [Cond.value, e0] at q
    split at q <;> simp_all
  refine Fld.start ?_
  simpa [Term.eval, ev] using r
theorem own_nz {x : Int32} (q : x = 0 ∨ x = 1) : narrow .boolean (.int x) = .int x := by rcases q with rfl | rfl <;> rfl
theorem own_fz {x : Int32} (q : x = 0 ∨ x = 1) : fits .boolean (.int x) = true := by rcases q with rfl | rfl <;> rfl
theorem own_b01 {P : Prop} [Decidable P] {v : Int32} (hv : v = if P then 1 else 0) : v = 0 ∨ v = 1 := by rw [hv]; split <;> simp
theorem own_narR {C : String} {v : Value} (q : v.isRef = true) : narrow (.object C) v = v := by rcases ref_cases q with r | ⟨_, r⟩ <;> rw [r] <;> rfl
theorem own_fitR {C : String} {v : Value} (q : v.isRef = true) : fits (.object C) v = true := by rcases ref_cases q with r | ⟨_, r⟩ <;> rw [r] <;> rfl
theorem own_lenAt {a0 : Array Value} {t : Term} {k : Int32} {a : Addr} {cl : Cell} (ev : t.eval a0 Z none [] Z = some (.ref a)) (hA : Z.arrayAt? a = some cl) (q : (Term.length t).eval a0 Z none [] Z = some (.int k)) : cl.slots.size < 2 ^ 31 ∧ cl.slots.size.toInt32 = k := by
  by_cases hl : cl.slots.size < 2 ^ 31
  · rw [len_f ev hA hl] at q
    exact ⟨hl, Value.int.inj (Option.some.inj q)⟩
  · simp [Term.eval, ev, hA, hl] at q
theorem own_cast {L L' : List Loc} {k k' n n' : Nat} (X : Stand p l e R s m args below meth c T L k n) (q1 : L = L') (q2 : k = k') (q3 : n = n') : Stand p l e R s m args below meth c T L' k' n' := by
  subst q1 q2 q3
  exact X
theorem own_selP {a0 as' : Array Value} {y : MethodName} {n : Nat} (hZ : Z.Warmed39 s.vm) (wi : (Cond.instantiable y.cls n).before a0 Z = true) (wp : (Cond.privateMethod y).before a0 Z = true) (wm : (Cond.instanceMethod y).before a0 Z = true) (hy : y.cls ≠ "java/lang/invoke/MethodHandle" ∧ y.cls ≠ "java/lang/invoke/VarHandle") : (Cond.selects y.cls y y).before as' s = true := by
  obtain ⟨c, k, h1, h2, -, h4, -⟩ := Cond.instantiable_spec (mvT (args := as') hZ wi)
  simp only [Bool.or_eq_false_iff] at h4
  exact selects_self_of_private h1 h2 h4.1 (Cond.privateMethod_at (mvP (args := as') hZ wp)) (mvT hZ wm) hy
end Own
theorem own_unat (r : Int32) : (r.toInt = r.toUInt32.toNat ∧ r.toUInt32.toNat < 2147483648) ∨ (r.toInt = (r.toUInt32.toNat : Int) - 4294967296 ∧ 2147483648 ≤ r.toUInt32.toNat) := by
  have h1 : r.toInt = r.toBitVec.toInt := rfl
  have h2 : r.toUInt32.toNat = r.toBitVec.toNat := rfl
  have h3 := r.toBitVec.isLt
  rw [h1, h2, BitVec.toInt_eq_toNat_bmod, Int.bmod_def]
  split <;> omega
theorem own_i2c {x : Int32} (h0 : 0 ≤ x.toInt) (h1 : x.toInt < 65536) : x.toUInt32.toUInt16.toUInt32.toInt32 = x := by
  have hu := own_unat x
  have hl := x.toUInt32.toNat_lt
  apply Int32.toBitVec_inj.mp
  apply BitVec.eq_of_toNat_eq
  show x.toUInt32.toUInt16.toUInt32.toNat = x.toUInt32.toNat
  rw [UInt16.toNat_toUInt32, UInt32.toNat_toUInt16]
  omega
def own_ch (c : Int32) : Int32 := (c &&& (255 : Int32)).toUInt32.toUInt16.toUInt32.toInt32
theorem own_chN (c : Int32) : narrow .char (.int (own_ch c)) = .int (own_ch c) := by
  have m := Jvm.Kit.i32_mask c 255 (k := 8) (by decide) (by decide)
  have q : own_ch c = (c &&& (255 : Int32)) := own_i2c (by omega) (by omega)
  show Value.int ((own_ch c).toUInt32.toUInt16.toUInt32.toInt32) = _
  rw [q, own_i2c (by omega) (by omega)]
theorem own_shr0 (x : Int32) : x >>> ((0 : Int32) &&& 31) = x := by
  rw [← Int32.toInt_inj, Jvm.Kit.i32_shr x ((0 : Int32) &&& 31) (k := 0) (by decide)]
  simp
theorem own_clone {p : Program} {l : Launch} {e : Env} {R : Room} {s : State} {m : MethodId} {args : Array Value} {below : List Frame} {meth : Method} {c : Code} {T : State} {locs : List Loc} {cells slots : Nat} {Z : State} {h : Heap} {a : Addr} {ty : FieldType} (X : Stand p l e R s m args below meth c T locs cells slots) (hx : p.tables.exec = Jvm.exec) (hZ : Z.Warmed39 s.vm) {a0 : Array Value} {own ad : String} {index : Nat} (hown : s.vm.findClass own = some m.cls)
    (w1 : (Cond.methodLink own index ⟨ad, "clone", "()Ljava/lang/Object;"⟩).before a0 Z = true) (w2 : (Cond.sameMethod ad "java/lang/Object" "clone" "()Ljava/lang/Object;").before a0 Z = true) (w3 : (Cond.native ⟨"java/lang/Object", "clone", "()Ljava/lang/Object;"⟩).before a0 Z = true)
    (w4 : (Cond.instanceMethod ⟨"java/lang/Object", "clone", "()Ljava/lang/Object;"⟩).before a0 Z = true) (w5 : (Cond.selects ad ⟨ad, "clone", "()Ljava/lang/Object;"⟩ ⟨"java/lang/Object", "clone", "()Ljava/lang/Object;"⟩).before a0 Z = true) (w6 : (Cond.castable ad "java/lang/Cloneable").before a0 Z = true)
    (eT : T.heap = h) {k : ClassId} {z : Int32} {vs : List Value} {dv : Value} (F : Arv Z h a k ty z vs dv) (E : Exa Z h a ad) {g : JFrame} (hg : g.method = m) (hsize : g.locals.size = c.maxLocals) {rest : List Value} (hst : g.stack = .ref a :: rest) (hd : decode c.code g.pc = .ok (.invokevirtual index, 3))
    (hf : 1 ≤ R.frames) {W cap : Nat} (hW : 2 * g.monitorRoom + (rest.map fun v => v.category).sum ≤ W) (hl : W + 14 ≤ R.locals) (hcap : z.toNatClampNeg ≤ cap) (hc : cells + 1 ≤ R.cells) (hsl : slots + cap ≤ R.slots) :
    ∃ T' h', Stand p l e R s m args below meth c T' locs (cells + 1) (slots + cap) ∧ T'.heap = h' ∧ Ext h h' ∧ Arv Z h' h.size k ty z vs dv ∧ Exa Z h' h.size ad ∧
      ∀ target, Steps p.tables e below (T'.setTop { g with pc := g.pc + 3, stack := .ref h.size :: rest }) target → Steps p.tables e below (T.setTop g) target := by
  obtain ⟨cl, A, q1, S, q3, H, G⟩ := F
  obtain ⟨T', h', X', e', ex, A', E', st⟩ := cloneA X hx hZ hown w1 w2 w3 w4 w5 w6 eT A E (fitC_of A fun i hi v hv => by rw [H i hi] at hv; cases hv; exact G i hi) hg hsize hst hd hf hW hl (by rw [S]; exact hcap) hc hsl
  exact ⟨T', h', X', e', ex, ⟨_, A', q1, S, q3, H, G⟩, E', st⟩
section OwnW
variable {p : Program} {l : Launch} {e : Env} {R : Room} {s : State} {m : MethodId} {args : Array Value} {below : List Frame} {meth : Method} {c : Code} {T : State} {locs : List Loc} {cells slots : Nat} {Z : State} {h h' : Heap} {EL : List (String × Nat)}
/-- what a body leaves that may intern -/
def FinW (Z : State) (EL : List (String × Nat)) (s : State) (below : List Frame) (Q : Option Value → Heap → List Loc → Prop) (C S : Nat) (t : State) : Prop := ∃ o, t.status = .running ∧ Ended t below o ∧ ∃ v L, o = .returned v ∧ Q v t.heap L ∧ CHr Z EL s.vm s.heap t.vm t.heap ∧ ReturnedEndW s o t L C S
theorem own_startW {tb : Tables} {Q : Option Value → Heap → List Loc → Prop} {C S : Nat} {S0 : State} (g : Goes tb e below (FinW Z EL s below Q C S) S0) : ∃ s₂ o, Steps tb e below S0 s₂ ∧ s₂.status = .running ∧ Ended s₂ below o ∧ ∃ v L, o = .returned v ∧ Q v s₂.heap L ∧ CHr Z EL s.vm s.heap s₂.vm s₂.heap ∧ ReturnedEndW s o s₂ L C S := by
  obtain ⟨t, a, o, b, d, r⟩ := g
  exact ⟨t, o, a, b, d, r⟩
theorem own_endW {s t : State} {o : Outcome} {L : List Loc} {k n k' n' : Nat} (q : ReturnedEndW s o t L k n) (hk : k ≤ k') (hn : n ≤ n') : ReturnedEndW s o t L k' n' := ⟨q.1, q.2.1, q.2.2.1, q.2.2.2.mono hk hn⟩
theorem own_retW {vm : Vm} {k0 : Nat} {a0 : Array Value} {h0 : Heap} (X : Stand p l e R (s.setVm vm) m args below meth c T locs cells slots) (hx : p.tables.exec = Jvm.exec) {pc : Nat} {Ls : Array Slot} {w : Value} {t : FieldType} {i : Instr} {rest : List Value} (hlk : meth.locks = false) (hret : meth.sig.returnType = some t) (hn : narrow t w = w)
    (hi : (i = .ireturn ∧ (t = .int ∨ t = .boolean ∨ t = .byte ∨ t = .char ∨ t = .short) ∧ ∃ z, w = .int z) ∨ (i = .lreturn ∧ t = .long ∧ ∃ z, w = .long z) ∨ (i = .dreturn ∧ t = .double ∧ ∃ z, w = .double z) ∨ (i = .freturn ∧ t = .float ∧ ∃ z, w = .float z) ∨ (i = .areturn ∧ t.isReference = true ∧ w.isRef = true))
    (hd : decode c.code pc = .ok (i, 1)) {Q : Option Value → Heap → List Loc → Prop} {C S : Nat} (eT : T.heap = h) (hS : s.Since vm k0) (hk : k0 ≤ h.size) (hZ : Z.Warmed39 (s.setVm vm).vm) (hEL : EW Z a0 EL) (CR : CHr Z EL s.vm h0 vm h) (hh : s.heap = h0) (hQ : Q (some w) h locs) (hc : cells ≤ C) (hs : slots ≤ S) : Goes p.tables e below (FinW Z EL s below Q C S) (T.setTop (mkF m pc Ls (w :: rest))) := by
  obtain ⟨fs, hr, hrun, hended, hW⟩ := X.leaveW hS (by rw [eT]; exact hk) (v := some w) (fun q => by rw [hret] at q; cases q) hlk
  refine ⟨_, retOut X hx hret hn hi hd hr, _, hrun, hended, _, _, rfl, (by show Q (some w) T.heap locs; rw [eT]; exact hQ), ?_, own_endW hW hc hs⟩
  show CHr Z EL s.vm s.heap T.vm T.heap
  rw [hh, eT]
  exact CR.trans (CHv.at X hZ hEL CR.1)
theorem own_retVW {vm : Vm} {k0 : Nat} {a0 : Array Value} {h0 : Heap} (X : Stand p l e R (s.setVm vm) m args below meth c T locs cells slots) (hx : p.tables.exec = Jvm.exec) {pc : Nat} {Ls : Array Slot} (hlk : meth.locks = false) (hret : meth.sig.returnType = none)
    (hd : decode c.code pc = .ok (.return_, 1)) {Q : Option Value → Heap → List Loc → Prop} {C S : Nat} (eT : T.heap = h) (hS : s.Since vm k0) (hk : k0 ≤ h.size) (hZ : Z.Warmed39 (s.setVm vm).vm) (hEL : EW Z a0 EL) (CR : CHr Z EL s.vm h0 vm h) (hh : s.heap = h0) (hQ : Q none h locs) (hc : cells ≤ C) (hs : slots ≤ S) : Goes p.tables e below (FinW Z EL s below Q C S) (T.setTop (mkF m pc Ls [])) := by
  obtain ⟨fs, hr, hrun, hended, hW⟩ := X.leaveW hS (by rw [eT]; exact hk) (v := none) (fun _ => rfl) hlk
  refine ⟨_, X.returnOut hx hret hd hr, _, hrun, hended, _, _, rfl, (by show Q none T.heap locs; rw [eT]; exact hQ), ?_, own_endW hW hc hs⟩
  show CHr Z EL s.vm s.heap T.vm T.heap
  rw [hh, eT]
  exact CR.trans (CHv.at X hZ hEL CR.1)
theorem own_x0 (X : Stand p l e R s m args below meth c T locs cells slots) : Stand p l e R (s.setVm s.vm) m args below meth c T locs cells slots := X
theorem own_safeNull {x : Addr} {vm : Vm} (hal : Z.vm.Alike vm) (E : Exa Z h x "java/lang/String") (Fv : Fld Z h x "java/lang/String" "value" "[B" .null) : Safe Z EL vm h x := fun B => by
  obtain ⟨cell, k, e1, e2, e3, -, -⟩ := E
  have nm : ∀ {n : String} {c : ClassId}, vm.findClass n = some c → c = cell.cls → n = "java/lang/String" := fun {n c} f e => by
    subst e
    rw [hal.findClass] at f
    obtain ⟨k1, q1, q2⟩ := Vm.findClass_spec f
    obtain ⟨k2, q3, q4⟩ := Vm.findClass_spec e2
    cases q1.symm.trans q3
    exact q2.symm.trans q4
  obtain ⟨p, -, u, a, -, q, -, F, rfl | rfl⟩ := B
  · obtain ⟨cell', cf, kf, i, f, h1, h2, -, -, -, -, h7⟩ := Fv
    cases (show h[q.sa]? = some q.sC from F.ha).symm.trans h1
    obtain ⟨cS, ⟨⟨-, -, -, ⟨c1, k1, i1, f1, -⟩, -, -, -, v1, -⟩, -⟩, -⟩ := F
    obtain ⟨k3, e3', -⟩ := State.fieldFound?_setVm (s := Z) hal h2
    have e4 := (show (Wst Z vm h).fieldFound? _ _ _ = _ from e3').symm.trans f1
    simp only [Option.some.injEq, Prod.mk.injEq] at e4
    rw [← e4.2.2.2, h7] at v1
    cases v1
  · cases (show h[q.sd]? = some q.SA from F.hd).symm.trans e1
    obtain ⟨cS, -, -, f, -⟩ := F
    exact absurd (nm f rfl) (by decide)
end OwnW
theorem own_chR (c : Int32) : ¬ own_ch c < (0 : Int32) ∧ ¬ (255 : Int32) < own_ch c := by
  have m := Jvm.Kit.i32_mask c 255 (k := 8) (by decide) (by decide)
  have q : own_ch c = (c &&& (255 : Int32)) := own_i2c (by omega) (by omega)
  have c0 : (0 : Int32).toInt = 0 := rfl
  have c1 : (255 : Int32).toInt = 255 := rfl
  rw [Int32.lt_iff_toInt_lt, Int32.lt_iff_toInt_lt, q, c0, c1]
  omega
theorem own_rC {r : Int32} (h : ¬ r < (0 : Int32) ∧ ¬ (255 : Int32) < r) : r.toUInt32.toUInt16.toUInt32.toInt32 = r := by
  have c0 : (0 : Int32).toInt = 0 := rfl
  have c1 : (255 : Int32).toInt = 255 := rfl
  rw [Int32.lt_iff_toInt_lt, Int32.lt_iff_toInt_lt, c0, c1] at h
  exact own_i2c (by omega) (by omega)
theorem own_rN {r : Int32} (h : ¬ r < (0 : Int32) ∧ ¬ (255 : Int32) < r) : narrow .char (.int r) = .int r := by
  show Value.int (r.toUInt32.toUInt16.toUInt32.toInt32) = _
  rw [own_rC h]
theorem own_ncR {r : Int32} (h : ¬ r < (0 : Int32) ∧ ¬ (255 : Int32) < r) : ¬ (255 : Int32) < nar .char r := by
  show ¬ (255 : Int32) < r.toUInt32.toUInt16.toUInt32.toInt32
  rw [own_rC h]
  exact h.2
theorem own_getInt (vs : List Int32) (n : Nat) : ∃ c : Int32, (vs.map Value.int).getD n (.int (0 : Int32)) = .int c := by
  induction vs generalizing n with
  | nil => exact ⟨0, rfl⟩
  | cons a r ih => cases n with
    | zero => exact ⟨a, rfl⟩
    | succ k => exact ih k
theorem own_flip3 {a b c a' b' c' : Int32} (h : a = a' ∧ b = b' ∧ c = c') : a' = a ∧ b' = b ∧ c' = c := ⟨h.1.symm, h.2.1.symm, h.2.2.symm⟩
theorem own_flip5 {a b c d e a' b' c' d' e' : Int32} (h : a = a' ∧ b = b' ∧ c = c' ∧ d = d' ∧ e = e') : a' = a ∧ b' = b ∧ c' = c ∧ d' = d ∧ e' = e := ⟨h.1.symm, h.2.1.symm, h.2.2.1.symm, h.2.2.2.1.symm, h.2.2.2.2.symm⟩
def own_EL : List (String × Nat) := consts_1
theorem own_EW {a0 : Array Value} {Z : State} (hw : ∀ d ∈ tables_1, d.before a0 Z = true) : EW Z a0 own_EL := EW.cons (hw _ (List.mem_of_getElem? (i := 7) rfl)) (by decide) (EW.cons (hw _ (List.mem_of_getElem? (i := 130) rfl)) (by decide) (EW.cons (hw _ (List.mem_of_getElem? (i := 135) rfl)) (by decide) EW.nil))
theorem own_wS {a0 : Array Value} {Z : State} (hw : ∀ d ∈ tables_1, d.before a0 Z = true) : ∀ a ∈ Bundle.stringAtoms, a.before a0 Z = true := fun a ha => by
  simp only [Bundle.stringAtoms, List.mem_cons, List.not_mem_nil, or_false] at ha
  rcases ha with rfl | rfl | rfl | rfl | rfl | rfl | rfl
  · exact hw _ (List.mem_of_getElem? (i := 8) rfl)
  · exact hw _ (List.mem_of_getElem? (i := 9) rfl)
  · exact hw _ (List.mem_of_getElem? (i := 10) rfl)
  · exact hw _ (List.mem_of_getElem? (i := 11) rfl)
  · exact hw _ (List.mem_of_getElem? (i := 12) rfl)
  · exact hw _ (List.mem_of_getElem? (i := 13) rfl)
  · exact hw _ (List.mem_of_getElem? (i := 14) rfl)
theorem own_mem {x : String × Nat} (h : own_EL.contains x = true) : x ∈ own_EL := List.contains_iff_mem.mp h
theorem own_ne0 {Z : State} {a0 : Array Value} {t : Term} {w : Int32} (ev : t.eval a0 Z none [] Z = some (.int w)) (q : (Cond.not (Cond.eq t (Term.int (0 : Int32)))).value a0 Z none Z [] = some true) : ¬ w = (0 : Int32) := by
  intro h
  subst h
  simp [Cond.value, ev, Term.int_eval] at q
theorem own_isR {Z : State} {a0 : Array Value} {t : Term} (q : (Cond.isRef t).value a0 Z none Z [] = some true) : ∃ v, t.eval a0 Z none [] Z = some v ∧ v.isRef = true := by
  simp only [Cond.value, Option.map_eq_some_iff] at q
  obtain ⟨v, h1, h2⟩ := q
  refine ⟨v, h1, ?_⟩
  cases v <;> simp_all [Value.isRef]
theorem own_eqT {Z : State} {a0 : Array Value} {t u : Term} {a : Addr} (ev : u.eval a0 Z none [] Z = some (.ref a)) (q : (Cond.eq t u).value a0 Z none Z [] = some true) : t.eval a0 Z none [] Z = some (.ref a) := by
  simp only [Cond.value, ev] at q
  split at q <;> simp_all
theorem own_fldT {Z : State} {a0 : Array Value} {t : Term} {O n d : String} {v : Value} {a : Addr} (ev : t.eval a0 Z none [] Z = some (.ref a)) (r : (Term.field t O n d).eval a0 Z none [] Z = some v) : Fld Z Z.heap a O n d v := by
  refine Fld.start ?_
  simpa [Term.eval, ev] using r
theorem own_arr {Z : State} {a0 : Array Value} {t : Term} {ty : FieldType} {z : Int32} {a : Addr} (ev : t.eval a0 Z none [] Z = some (.ref a)) (qa : (Cond.arrayOf t ty).value a0 Z none Z [] = some true) (ql : (Cond.eq (Term.length t) (Term.int z)).value a0 Z none Z [] = some true) : ∃ cl, Arr Z Z.heap a cl ty ∧ Z.arrayAt? a = some cl ∧ cl.slots.size < 2 ^ 31 ∧ cl.slots.size.toInt32 = z := by
  obtain ⟨cl, A⟩ := Arr.start ev qa
  have hA : Z.arrayAt? a = some cl := IntBox.arrayAt_of A.1 A.2.1 A.2.2
  obtain ⟨l1, l2⟩ := own_lenAt ev hA (own_eqI ql)
  exact ⟨cl, A, hA, l1, l2⟩
theorem own_el {Z : State} {a0 : Array Value} {t : Term} {j : Int32} {a : Addr} {cl : Cell} {v : Value} (ev : t.eval a0 Z none [] Z = some (.ref a)) (hA : Z.arrayAt? a = some cl) (hj : ¬ j < 0) (r : (Term.elem t (Term.int j)).eval a0 Z none [] Z = some v) : cl.slots[j.toNatClampNeg]? = some v := (elem_f ev (Term.int_eval j) hA hj).symm.trans r
theorem own_refA {Z : State} {a0 : Array Value} {t : Term} {ty : FieldType} (q : (Cond.arrayOf t ty).value a0 Z none Z [] = some true) : ∃ a, t.eval a0 Z none [] Z = some (.ref a) := by
  simp only [Cond.value] at q
  cases h : t.eval a0 Z none [] Z with
  | none => simp [h] at q
  | some v => cases v with
    | ref a => exact ⟨a, rfl⟩
    | _ => simp [h] at q

theorem pd_0 : parseMethodDescriptor "()B" = some ⟨[], some .byte⟩ := by decide +kernel
theorem pd_1 : parseMethodDescriptor "(IILjava/util/function/BiFunction;)I" = some ⟨[.int, .int, (.object "java/util/function/BiFunction")], some .int⟩ := by decide +kernel
theorem pd_2 : parseMethodDescriptor "(II)V" = some ⟨[.int, .int], none⟩ := by decide +kernel
theorem pd_3 : parseMethodDescriptor "()Z" = some ⟨[], some .boolean⟩ := by decide +kernel
theorem pd_4 : parseMethodDescriptor "([BI)C" = some ⟨[(.array .byte), .int], some .char⟩ := by decide +kernel
theorem pd_5 : parseMethodDescriptor "()I" = some ⟨[], some .int⟩ := by decide +kernel
theorem pd_6 : parseMethodDescriptor "(I)C" = some ⟨[.int], some .char⟩ := by decide +kernel
theorem pd_7 : parseMethodDescriptor "(III)C" = some ⟨[.int, .int, .int], some .char⟩ := by decide +kernel
theorem pd_8 : parseMethodDescriptor "([CI[BII)I" = some ⟨[(.array .char), .int, (.array .byte), .int, .int], some .int⟩ := by decide +kernel
theorem pd_9 : parseMethodDescriptor "([CII)[B" = some ⟨[(.array .char), .int, .int], some (.array .byte)⟩ := by decide +kernel
theorem pd_10 : parseMethodDescriptor "([BI)B" = some ⟨[(.array .byte), .int], some .byte⟩ := by decide +kernel
theorem pd_11 : parseMethodDescriptor "([CIILjava/lang/Void;)V" = some ⟨[(.array .char), .int, .int, (.object "java/lang/Void")], none⟩ := by decide +kernel
theorem pd_12 : parseMethodDescriptor "([B[B)Z" = some ⟨[(.array .byte), (.array .byte)], some .boolean⟩ := by decide +kernel
theorem pd_13 : parseMethodDescriptor "(Ljava/lang/Object;)Ljava/lang/Object;" = some ⟨[(.object "java/lang/Object")], some (.object "java/lang/Object")⟩ := by decide +kernel
theorem pd_14 : parseMethodDescriptor "(Ljava/lang/Object;)V" = some ⟨[(.object "java/lang/Object")], none⟩ := by decide +kernel
theorem pd_15 : parseMethodDescriptor "()[Lcom/example/tallyman/tallyman/ledger/Period;" = some ⟨[], some (.array (.object "com/example/tallyman/tallyman/ledger/Period"))⟩ := by decide +kernel
theorem pd_16 : parseMethodDescriptor "(Ljava/lang/Object;)Z" = some ⟨[(.object "java/lang/Object")], some .boolean⟩ := by decide +kernel
theorem pd_17 : parseMethodDescriptor "()Ljava/util/Optional;" = some ⟨[], some (.object "java/util/Optional")⟩ := by decide +kernel
theorem pd_18 : parseMethodDescriptor "(Ljava/lang/Object;)Ljava/util/Optional;" = some ⟨[(.object "java/lang/Object")], some (.object "java/util/Optional")⟩ := by decide +kernel
theorem pd_19 : parseMethodDescriptor "(IIIII)C" = some ⟨[.int, .int, .int, .int, .int], some .char⟩ := by decide +kernel
theorem pd_20 : parseMethodDescriptor "([C)V" = some ⟨[(.array .char)], none⟩ := by decide +kernel
theorem pd_21 : parseMethodDescriptor "(Ljava/lang/String;)Ljava/util/Optional;" = some ⟨[(.object "java/lang/String")], some (.object "java/util/Optional")⟩ := by decide +kernel
theorem pn_6 : plainName "java/lang/String" = true := by first | (simp [plainName, overriddenIn]; done) | decide +kernel
theorem pn_29 : plainName "jdk/internal/util/Preconditions" = true := by first | (simp [plainName, overriddenIn]; done) | decide +kernel
theorem pn_47 : plainName "java/lang/StringLatin1" = true := by first | (simp [plainName, overriddenIn]; done) | decide +kernel
theorem pn_77 : plainName "com/example/tallyman/tallyman/ledger/PeriodNamedPinLaw" = true := by first | (simp [plainName, overriddenIn]; done) | decide +kernel
theorem pn_105 : plainName "java/lang/StringUTF16" = true := by first | (simp [plainName, overriddenIn]; done) | decide +kernel
theorem pn_237 : plainName "com/example/tallyman/tallyman/ledger/Period" = true := by first | (simp [plainName, overriddenIn]; done) | decide +kernel
theorem pn_242 : plainName "java/util/Objects" = true := by first | (simp [plainName, overriddenIn]; done) | decide +kernel
theorem pn_249 : plainName "java/util/Optional" = true := by first | (simp [plainName, overriddenIn]; done) | decide +kernel
theorem d4_0 : decode jdk_42_method_152_code 0 = .ok (.getstatic 38, 3) := by decide +kernel
theorem d4_3 : decode jdk_42_method_152_code 3 = .ok (.ifCond .eq 10, 3) := by decide +kernel
theorem d4_6 : decode jdk_42_method_152_code 6 = .ok (.aload_n 0, 1) := by decide +kernel
theorem d4_7 : decode jdk_42_method_152_code 7 = .ok (.getfield 15, 3) := by decide +kernel
theorem d4_10 : decode jdk_42_method_152_code 10 = .ok (.goto 4, 3) := by decide +kernel
theorem d4_14 : decode jdk_42_method_152_code 14 = .ok (.ireturn, 1) := by decide +kernel
abbrev sI (x : Int32) : Slot := .val (.int x)
abbrev sU : Slot := .unset
abbrev sR (x : Addr) : Slot := .val (.ref x)
theorem w_ {a0 : Array Value} {Z : State} (hw : ∀ d ∈ tables_1, d.before a0 Z = true) (i : Nat) {d : Cond} (h : tables_1[i]? = some d) : d.before a0 Z = true := hw _ (List.mem_of_getElem? h)
abbrev bN (r : Int32) : Int32 := nar .byte ((nar .char r).toInt8.toInt32)
theorem own_rm {a b : Nat} (h : a = b) : a ≤ b := Nat.le_of_eq h
theorem gv {tb : Tables} {e : Env} {below : List Frame} {F : State → Prop} {S : State} {m : MethodId} (T : State) (pc : Nat) (L : Array Slot) (st : List Value) (q : ∀ t, Steps tb e below (T.setTop (mkF m pc L st)) t → Steps tb e below S t) (g : Goes tb e below F (T.setTop (mkF m pc L st))) : Goes tb e below F S := Goes.via q g
theorem ef_4 (m : MethodId) (xs : Addr) : entryFrame m #[(.ref xs)] 1 = mkF m 0 #[.val (.ref xs)] [] := by first | (simp [entryFrame, mkF, argsToLocals, Value.category]; done) | rfl
def Q4 (Z : State) (xs : Addr) (wc : Int32) (h0 : Heap) (n0 : Nat) (v : Option Value) (h : Heap) (L : List Loc) : Prop := v = some (.int (0 : Int32)) ∧ Fr n0 L ∧ h = h0
set_option maxRecDepth 65536 in
set_option maxHeartbeats 40000000 in
theorem rm4 (l : Launch) (Z : State) (a0 : Array Value) (hw : ∀ d ∈ tables_1, d.before a0 Z = true) (ws : List Jvm.Cond) (xs : Addr) (wc : Int32) (h0 : Heap) (n0 : Nat) (Z0 : n0 ≤ h0.size) (f0_xs_coder : Fld Z h0 xs "java/lang/String" "coder" "B" (.int (0 : Int32))) (f1_COMPACT_STRINGS : Sta Z h0 "java/lang/String" "COMPACT_STRINGS" "Z" (.int wc)) (hwc : ¬ wc = (0 : Int32)) :
    MetFree l (⟨"java/lang/String", "coder", "()B"⟩ : MethodName) (head1 (Jvm.Cond.code (⟨"java/lang/String", "coder", "()B"⟩ : MethodName) jdk_42_method_152_code 1 (some .byte) :: ws) ({ frames := 0, cells := 0, slots := 0, locals := 0 } : Room)) (fun a U => a = #[(.ref xs)] ∧ Z.Warmed39 U.vm ∧ U.heap = h0) (fun _ _ _ _ _ => True) (fun _ U o U' => ∃ v L, o = .returned v ∧ Q4 Z xs wc h0 n0 v U'.heap L ∧ FrameEnd U o U' L 0 0) := by
  refine MetFree.of_bodySF (plainFor_of_name pn_6) hisR ?_
  intro p e s m args below meth c s₁ Bd hml0 hP hK
  obtain ⟨rfl,hZ,hh⟩ := hP
  have hx := Bd.exec
  have hby := Bd.bytes
  have hml : c.maxLocals = 1 := hml0
  have hown : s.vm.findClass "java/lang/String" = some m.cls := findClass_of_methodNamed Bd.named
  have hnm := (name_of_methodNamed Bd.named Bd.method).1
  have X0 : Stand p l e ({ frames := 0,cells := 0,slots := 0,locals := 0 } : Room) s m #[(.ref xs)] below meth c s₁ [] 0 0 := Stand.of_body Bd
  have e0 : s₁.heap = h0 := by rw [← hh,Bd.state]; rfl
  have N0 := Fr.nil n0
  refine own_start (Q := fun v h L => Q4 Z xs wc h0 n0 v h L) ?_
  refine gv s₁ 0 #[sR xs] [] (fun t k => castTop (ef_4 m xs) k) ?_
  obtain ⟨T1,X1,e1,st1⟩ := getS2 X0 hx hZ hown (host := "") (Or.inl (w_ hw 26 rfl)) Via.refl e0 f1_COMPACT_STRINGS (g := (mkF m 0 #[sR xs] [])) rfl (hb hby d4_0)
  refine gv T1 3 #[sR xs] [(.int wc)] (fun t k => st1 _ k) ?_
  refine gv T1 6 #[sR xs] [] (fun t k => XS.ifNo X1.here hx rfl (hb hby d4_3) rfl ((if0 _ _).trans (feq hwc).1) k) ?_
  refine gv T1 7 #[sR xs] [(.ref xs)] (fun t k => XS.aloadN X1.here hx rfl (hb hby d4_6) rfl rfl k) ?_
  obtain ⟨T2,X2,e2,st2⟩ := getF X1 hx hZ hown (host := "") (Or.inl (w_ hw 27 rfl)) Via.refl e1 f0_xs_coder (g := (mkF m 7 #[sR xs] [(.ref xs)])) rfl rfl (hb hby d4_7)
  refine gv T2 10 #[sR xs] [(.int 0)] (fun t k => st2 _ k) ?_
  refine gv T2 14 #[sR xs] [(.int 0)] (fun t k => XS.goto X2.here hx rfl (pc0 := 10) (pc' := 14) rfl (hb hby d4_10) (by decide) (by decide) k) ?_
  exact own_ret X2 hx Bd.notSynchronized Bd.returns rfl (Or.inl ⟨rfl,by simp,_,rfl⟩) (hb hby d4_14) e2 ⟨rfl,N0,rfl⟩ (by decide) (by decide)
theorem d3_0 : decode jdk_42_method_54_code 0 = .ok (.aload_n 0, 1) := by decide +kernel
theorem d3_1 : decode jdk_42_method_54_code 1 = .ok (.getfield 9, 3) := by decide +kernel
theorem d3_4 : decode jdk_42_method_54_code 4 = .ok (.arraylength, 1) := by decide +kernel
theorem d3_5 : decode jdk_42_method_54_code 5 = .ok (.aload_n 0, 1) := by decide +kernel
theorem d3_6 : decode jdk_42_method_54_code 6 = .ok (.invokevirtual 335, 3) := by decide +kernel
theorem d3_9 : decode jdk_42_method_54_code 9 = .ok (.ishr, 1) := by decide +kernel
theorem d3_10 : decode jdk_42_method_54_code 10 = .ok (.ireturn, 1) := by decide +kernel
theorem ef_3 (m : MethodId) (xs : Addr) : entryFrame m #[(.ref xs)] 1 = mkF m 0 #[.val (.ref xs)] [] := by first | (simp [entryFrame, mkF, argsToLocals, Value.category]; done) | rfl
def Q3 (Z : State) (xs : Addr) (yn : Addr) (kn : ClassId) (vn : List Value) (zn : Int32) (wc : Int32) (h0 : Heap) (n0 : Nat) (v : Option Value) (h : Heap) (L : List Loc) : Prop := v = some (.int zn) ∧ Fr n0 L ∧ h = h0
set_option maxRecDepth 65536 in
set_option maxHeartbeats 40000000 in
theorem rm3 (l : Launch) (Z : State) (a0 : Array Value) (hw : ∀ d ∈ tables_1, d.before a0 Z = true) (ws : List Jvm.Cond) (xs : Addr) (yn : Addr) (kn : ClassId) (vn : List Value) (zn : Int32) (wc : Int32) (h0 : Heap) (n0 : Nat) (Z0 : n0 ≤ h0.size) (f0_xs : Exa Z h0 xs "java/lang/String") (f1_xs_coder : Fld Z h0 xs "java/lang/String" "coder" "B" (.int (0 : Int32))) (f2_xs_value : Fld Z h0 xs "java/lang/String" "value" "[B" (.ref yn)) (f3_yn : Arv Z h0 yn kn .byte zn vn (.int (0 : Int32))) (f4_COMPACT_STRINGS : Sta Z h0 "java/lang/String" "COMPACT_STRINGS" "Z" (.int wc)) (hwc : ¬ wc = (0 : Int32)) :
    MetFree l (⟨"java/lang/String", "length", "()I"⟩ : MethodName) (head1 (Jvm.Cond.code (⟨"java/lang/String", "length", "()I"⟩ : MethodName) jdk_42_method_54_code 1 (some .int) :: ws) ({ frames := 1, cells := 0, slots := 0, locals := 13 } : Room)) (fun a U => a = #[(.ref xs)] ∧ Z.Warmed39 U.vm ∧ U.heap = h0) (fun _ _ _ _ _ => True) (fun _ U o U' => ∃ v L, o = .returned v ∧ Q3 Z xs yn kn vn zn wc h0 n0 v U'.heap L ∧ FrameEnd U o U' L 0 0) := by
  refine MetFree.of_bodySF (plainFor_of_name pn_6) hisR ?_
  intro p e s m args below meth c s₁ Bd hml0 hP hK
  obtain ⟨rfl,hZ,hh⟩ := hP
  have hx := Bd.exec
  have hby := Bd.bytes
  have hml : c.maxLocals = 1 := hml0
  have hown : s.vm.findClass "java/lang/String" = some m.cls := findClass_of_methodNamed Bd.named
  have hnm := (name_of_methodNamed Bd.named Bd.method).1
  have X0 : Stand p l e ({ frames := 1,cells := 0,slots := 0,locals := 13 } : Room) s m #[(.ref xs)] below meth c s₁ [] 0 0 := Stand.of_body Bd
  have e0 : s₁.heap = h0 := by rw [← hh,Bd.state]; rfl
  have N0 := Fr.nil n0
  refine own_start (Q := fun v h L => Q3 Z xs yn kn vn zn wc h0 n0 v h L) ?_
  refine gv s₁ 0 #[sR xs] [] (fun t k => castTop (ef_3 m xs) k) ?_
  refine gv s₁ 1 #[sR xs] [(.ref xs)] (fun t k => XS.aloadN X0.here hx rfl (hb hby d3_0) rfl rfl k) ?_
  obtain ⟨T1,X1,e1,st1⟩ := getF X0 hx hZ hown (host := "") (Or.inl (w_ hw 20 rfl)) Via.refl e0 f2_xs_value (g := (mkF m 1 #[sR xs] [(.ref xs)])) rfl rfl (hb hby d3_1)
  refine gv T1 4 #[sR xs] [(.ref yn)] (fun t k => st1 _ k) ?_
  obtain ⟨cl2,Ar2,q2,S2,M2,Hs2,G2⟩ := id f3_yn
  refine gv T1 5 #[sR xs] [(.int zn)] (fun t k => X1.arraylength hx (by rw [e1]; exact Ar2.1) (State.isArrayOf_alike hZ.alike Ar2.2.1) (g := (mkF m 4 #[sR xs] [(.ref yn)])) rfl rfl (hb hby d3_4) _ (by rw [len_of S2 M2]; exact k)) ?_
  refine gv T1 6 #[sR xs] [(.ref xs),(.int zn)] (fun t k => XS.aloadN X1.here hx rfl (hb hby d3_5) rfl rfl k) ?_
  obtain ⟨cq3,kq3,q3a,q3b,q3c⟩ := isOf hZ e1 f0_xs
  obtain ⟨_,_,⟨T3,L3,k3,n3⟩,-,X3,⟨Lc3,hQ3,l3,y3,z3⟩,st3⟩ := X1.virtualBack hx (y := (⟨"java/lang/String","coder","()B"⟩ : MethodName)) (z := (⟨"java/lang/String","coder","()B"⟩ : MethodName)) hown (mvT hZ (w_ hw 21 rfl)) (mvT hZ (w_ hw 22 rfl)) (notFace_of_selects (args := #[]) (mvT hZ (w_ hw 24 rfl))) (mvT hZ (w_ hw 24 rfl)) (mvT hZ (w_ hw 23 rfl)) (by decide) (backOf (W := 1) (rm4 l Z a0 hw [] xs wc h0 n0 Z0 f1_xs_coder f4_COMPACT_STRINGS hwc) hZ (w_ hw 25 rfl) (w_ hw 8 rfl) (by decide) (by decide)) q3a q3c (g := (mkF m 6 #[sR xs] [(.ref xs),(.int zn)])) rfl (by rw [hml]; rfl) (Steps.refl _) (argsL := []) (rest := [(.int zn)]) (lenOf pd_0 rfl) rfl (own_rm rfl) (hb hby d3_6) (fun _ _ => ⟨rfl,e1,(by decide : 0 + 0 ≤ _),(by decide : 0 + 0 ≤ _)⟩)
  dsimp only [Pt.U, Pt.locs, Pt.cells, Pt.slots] at X3 l3 y3 z3 st3 hQ3
  replace X3 := own_cast X3 l3 y3 z3
  obtain ⟨rfl,N3q,eq3⟩ := hQ3
  have N3 := Fr.app N0 N3q
  refine gv T3 9 #[sR xs] [(.int 0),(.int zn)] (fun t k => st3.trans k) ?_
  refine gv T3 10 #[sR xs] [(.int (zn >>> ((0 : Int32) &&& 31)))] (fun t k => XS.ishr X3.here hx rfl (hb hby d3_9) rfl k) ?_
  rw [own_shr0]
  exact own_ret X3 hx Bd.notSynchronized Bd.returns rfl (Or.inl ⟨rfl,by simp,_,rfl⟩) (hb hby d3_10) eq3 ⟨rfl,N3,rfl⟩ (by decide) (by decide)
theorem d6_0 : decode jdk_42_method_154_code 0 = .ok (.getstatic 38, 3) := by decide +kernel
theorem d6_3 : decode jdk_42_method_154_code 3 = .ok (.ifCond .eq 14, 3) := by decide +kernel
theorem d6_6 : decode jdk_42_method_154_code 6 = .ok (.aload_n 0, 1) := by decide +kernel
theorem d6_7 : decode jdk_42_method_154_code 7 = .ok (.getfield 15, 3) := by decide +kernel
theorem d6_10 : decode jdk_42_method_154_code 10 = .ok (.ifCond .ne 7, 3) := by decide +kernel
theorem d6_13 : decode jdk_42_method_154_code 13 = .ok (.iconst 1, 1) := by decide +kernel
theorem d6_14 : decode jdk_42_method_154_code 14 = .ok (.goto 4, 3) := by decide +kernel
theorem d6_18 : decode jdk_42_method_154_code 18 = .ok (.ireturn, 1) := by decide +kernel
theorem ef_6 (m : MethodId) (xs : Addr) : entryFrame m #[(.ref xs)] 1 = mkF m 0 #[.val (.ref xs)] [] := by first | (simp [entryFrame, mkF, argsToLocals, Value.category]; done) | rfl
def Q6 (Z : State) (xs : Addr) (wc : Int32) (h0 : Heap) (n0 : Nat) (v : Option Value) (h : Heap) (L : List Loc) : Prop := v = some (.int (1 : Int32)) ∧ Fr n0 L ∧ h = h0
set_option maxRecDepth 65536 in
set_option maxHeartbeats 40000000 in
theorem rm6 (l : Launch) (Z : State) (a0 : Array Value) (hw : ∀ d ∈ tables_1, d.before a0 Z = true) (ws : List Jvm.Cond) (xs : Addr) (wc : Int32) (h0 : Heap) (n0 : Nat) (Z0 : n0 ≤ h0.size) (f0_xs_coder : Fld Z h0 xs "java/lang/String" "coder" "B" (.int (0 : Int32))) (f1_COMPACT_STRINGS : Sta Z h0 "java/lang/String" "COMPACT_STRINGS" "Z" (.int wc)) (hwc : ¬ wc = (0 : Int32)) :
    MetFree l (⟨"java/lang/String", "isLatin1", "()Z"⟩ : MethodName) (head1 (Jvm.Cond.code (⟨"java/lang/String", "isLatin1", "()Z"⟩ : MethodName) jdk_42_method_154_code 1 (some .boolean) :: ws) ({ frames := 0, cells := 0, slots := 0, locals := 0 } : Room)) (fun a U => a = #[(.ref xs)] ∧ Z.Warmed39 U.vm ∧ U.heap = h0) (fun _ _ _ _ _ => True) (fun _ U o U' => ∃ v L, o = .returned v ∧ Q6 Z xs wc h0 n0 v U'.heap L ∧ FrameEnd U o U' L 0 0) := by
  refine MetFree.of_bodySF (plainFor_of_name pn_6) hisR ?_
  intro p e s m args below meth c s₁ Bd hml0 hP hK
  obtain ⟨rfl,hZ,hh⟩ := hP
  have hx := Bd.exec
  have hby := Bd.bytes
  have hml : c.maxLocals = 1 := hml0
  have hown : s.vm.findClass "java/lang/String" = some m.cls := findClass_of_methodNamed Bd.named
  have hnm := (name_of_methodNamed Bd.named Bd.method).1
  have X0 : Stand p l e ({ frames := 0,cells := 0,slots := 0,locals := 0 } : Room) s m #[(.ref xs)] below meth c s₁ [] 0 0 := Stand.of_body Bd
  have e0 : s₁.heap = h0 := by rw [← hh,Bd.state]; rfl
  have N0 := Fr.nil n0
  refine own_start (Q := fun v h L => Q6 Z xs wc h0 n0 v h L) ?_
  refine gv s₁ 0 #[sR xs] [] (fun t k => castTop (ef_6 m xs) k) ?_
  obtain ⟨T1,X1,e1,st1⟩ := getS2 X0 hx hZ hown (host := "") (Or.inl (w_ hw 26 rfl)) Via.refl e0 f1_COMPACT_STRINGS (g := (mkF m 0 #[sR xs] [])) rfl (hb hby d6_0)
  refine gv T1 3 #[sR xs] [(.int wc)] (fun t k => st1 _ k) ?_
  refine gv T1 6 #[sR xs] [] (fun t k => XS.ifNo X1.here hx rfl (hb hby d6_3) rfl ((if0 _ _).trans (feq hwc).1) k) ?_
  refine gv T1 7 #[sR xs] [(.ref xs)] (fun t k => XS.aloadN X1.here hx rfl (hb hby d6_6) rfl rfl k) ?_
  obtain ⟨T2,X2,e2,st2⟩ := getF X1 hx hZ hown (host := "") (Or.inl (w_ hw 27 rfl)) Via.refl e1 f0_xs_coder (g := (mkF m 7 #[sR xs] [(.ref xs)])) rfl rfl (hb hby d6_7)
  refine gv T2 10 #[sR xs] [(.int 0)] (fun t k => st2 _ k) ?_
  refine gv T2 13 #[sR xs] [] (fun t k => XS.ifNo X2.here hx rfl (hb hby d6_10) rfl ((if0 _ _).trans (teq rfl).2) k) ?_
  refine gv T2 14 #[sR xs] [(.int 1)] (fun t k => XS.iconst X2.here hx rfl (hb hby d6_13) k) ?_
  refine gv T2 18 #[sR xs] [(.int 1)] (fun t k => XS.goto X2.here hx rfl (pc0 := 14) (pc' := 18) rfl (hb hby d6_14) (by decide) (by decide) k) ?_
  exact own_ret X2 hx Bd.notSynchronized Bd.returns rfl (Or.inl ⟨rfl,by simp,_,rfl⟩) (hb hby d6_18) e2 ⟨rfl,N0,rfl⟩ (by decide) (by decide)
theorem d9_0 : decode jdk_41_method_11_code 0 = .ok (.iload_n 0, 1) := by decide +kernel
theorem d9_1 : decode jdk_41_method_11_code 1 = .ok (.ifCond .lt 8, 3) := by decide +kernel
theorem d9_4 : decode jdk_41_method_11_code 4 = .ok (.iload_n 0, 1) := by decide +kernel
theorem d9_5 : decode jdk_41_method_11_code 5 = .ok (.iload_n 1, 1) := by decide +kernel
theorem d9_6 : decode jdk_41_method_11_code 6 = .ok (.if_icmp .lt 10, 3) := by decide +kernel
theorem d9_16 : decode jdk_41_method_11_code 16 = .ok (.iload_n 0, 1) := by decide +kernel
theorem d9_17 : decode jdk_41_method_11_code 17 = .ok (.ireturn, 1) := by decide +kernel
theorem ef_9 (m : MethodId) (p0 : Int32) (p1 : Int32) (vB : Value) (hr_vB : vB.isRef = true) : entryFrame m #[(.int p0), (.int p1), vB] 3 = mkF m 0 #[.val (.int p0), .val (.int p1), .val vB] [] := by
  rcases ref_cases hr_vB with q_vB | ⟨_, q_vB⟩ <;> subst q_vB <;> first | (simp [entryFrame, mkF, argsToLocals, Value.category]; done) | rfl
def Q9 (Z : State) (p0 : Int32) (p1 : Int32) (vB : Value) (h0 : Heap) (n0 : Nat) (v : Option Value) (h : Heap) (L : List Loc) : Prop := v = some (.int p0) ∧ Fr n0 L ∧ h = h0
set_option maxRecDepth 65536 in
set_option maxHeartbeats 40000000 in
theorem rm9 (l : Launch) (Z : State) (a0 : Array Value) (hw : ∀ d ∈ tables_1, d.before a0 Z = true) (ws : List Jvm.Cond) (p0 : Int32) (p1 : Int32) (vB : Value) (h0 : Heap) (n0 : Nat) (Z0 : n0 ≤ h0.size) (hr_vB : vB.isRef = true) (hb1 : ¬ p0 < 0) (hb2 : p0 < p1) :
    MetFree l (⟨"jdk/internal/util/Preconditions", "checkIndex", "(IILjava/util/function/BiFunction;)I"⟩ : MethodName) (head1 (Jvm.Cond.code (⟨"jdk/internal/util/Preconditions", "checkIndex", "(IILjava/util/function/BiFunction;)I"⟩ : MethodName) jdk_41_method_11_code 3 (some .int) :: ws) ({ frames := 0, cells := 0, slots := 0, locals := 0 } : Room)) (fun a U => a = #[(.int p0), (.int p1), vB] ∧ Z.Warmed39 U.vm ∧ U.heap = h0) (fun _ _ _ _ _ => True) (fun _ U o U' => ∃ v L, o = .returned v ∧ Q9 Z p0 p1 vB h0 n0 v U'.heap L ∧ FrameEnd U o U' L 0 0) := by
  refine MetFree.of_bodySF (plainFor_of_name pn_29) hisR ?_
  intro p e s m args below meth c s₁ Bd hml0 hP hK
  obtain ⟨rfl,hZ,hh⟩ := hP
  have hx := Bd.exec
  have hby := Bd.bytes
  have hml : c.maxLocals = 3 := hml0
  have hown : s.vm.findClass "jdk/internal/util/Preconditions" = some m.cls := findClass_of_methodNamed Bd.named
  have hnm := (name_of_methodNamed Bd.named Bd.method).1
  have X0 : Stand p l e ({ frames := 0,cells := 0,slots := 0,locals := 0 } : Room) s m #[(.int p0),(.int p1),vB] below meth c s₁ [] 0 0 := Stand.of_body Bd
  have e0 : s₁.heap = h0 := by rw [← hh,Bd.state]; rfl
  have N0 := Fr.nil n0
  refine own_start (Q := fun v h L => Q9 Z p0 p1 vB h0 n0 v h L) ?_
  refine gv s₁ 0 #[sI p0,sI p1,.val vB] [] (fun t k => castTop (ef_9 m p0 p1 vB hr_vB) k) ?_
  refine gv s₁ 1 #[sI p0,sI p1,.val vB] [(.int p0)] (fun t k => XS.iloadN X0.here hx rfl (hb hby d9_0) rfl k) ?_
  refine gv s₁ 4 #[sI p0,sI p1,.val vB] [] (fun t k => XS.ifNo X0.here hx rfl (hb hby d9_1) rfl ((if0 _ _).trans (flt hb1).1) k) ?_
  refine gv s₁ 5 #[sI p0,sI p1,.val vB] [(.int p0)] (fun t k => XS.iloadN X0.here hx rfl (hb hby d9_4) rfl k) ?_
  refine gv s₁ 6 #[sI p0,sI p1,.val vB] [(.int p1),(.int p0)] (fun t k => XS.iloadN X0.here hx rfl (hb hby d9_5) rfl k) ?_
  refine gv s₁ 16 #[sI p0,sI p1,.val vB] [] (fun t k => XS.icmpYes X0.here hx rfl (pc0 := 6) (pc' := 16) rfl (hb hby d9_6) rfl (tlt hb2).1 (by decide) (by decide) k) ?_
  refine gv s₁ 17 #[sI p0,sI p1,.val vB] [(.int p0)] (fun t k => XS.iloadN X0.here hx rfl (hb hby d9_16) rfl k) ?_
  exact own_ret X0 hx Bd.notSynchronized Bd.returns rfl (Or.inl ⟨rfl,by simp,_,rfl⟩) (hb hby d9_17) e0 ⟨rfl,N0,rfl⟩ (by decide) (by decide)
theorem d8_0 : decode jdk_42_method_155_code 0 = .ok (.iload_n 0, 1) := by decide +kernel
theorem d8_1 : decode jdk_42_method_155_code 1 = .ok (.iload_n 1, 1) := by decide +kernel
theorem d8_2 : decode jdk_42_method_155_code 2 = .ok (.getstatic 1053, 3) := by decide +kernel
theorem d8_5 : decode jdk_42_method_155_code 5 = .ok (.invokestatic 1059, 3) := by decide +kernel
theorem d8_8 : decode jdk_42_method_155_code 8 = .ok (.pop, 1) := by decide +kernel
theorem d8_9 : decode jdk_42_method_155_code 9 = .ok (.return_, 1) := by decide +kernel
theorem ef_8 (m : MethodId) (p0 : Int32) (p1 : Int32) : entryFrame m #[(.int p0), (.int p1)] 2 = mkF m 0 #[.val (.int p0), .val (.int p1)] [] := by first | (simp [entryFrame, mkF, argsToLocals, Value.category]; done) | rfl
def Q8 (Z : State) (p0 : Int32) (p1 : Int32) (vB : Value) (h0 : Heap) (n0 : Nat) (v : Option Value) (h : Heap) (L : List Loc) : Prop := v = none ∧ Fr n0 L ∧ h = h0
set_option maxRecDepth 65536 in
set_option maxHeartbeats 40000000 in
theorem rm8 (l : Launch) (Z : State) (a0 : Array Value) (hw : ∀ d ∈ tables_1, d.before a0 Z = true) (ws : List Jvm.Cond) (p0 : Int32) (p1 : Int32) (vB : Value) (h0 : Heap) (n0 : Nat) (Z0 : n0 ≤ h0.size) (f0_SIOOBE_FORMATTER : Sta Z h0 "jdk/internal/util/Preconditions" "SIOOBE_FORMATTER" "Ljava/util/function/BiFunction;" vB) (hr_vB : vB.isRef = true) (hb1 : ¬ p0 < 0) (hb2 : p0 < p1) :
    MetFree l (⟨"java/lang/String", "checkIndex", "(II)V"⟩ : MethodName) (head1 (Jvm.Cond.code (⟨"java/lang/String", "checkIndex", "(II)V"⟩ : MethodName) jdk_42_method_155_code 2 none :: ws) ({ frames := 1, cells := 0, slots := 0, locals := 14 } : Room)) (fun a U => a = #[(.int p0), (.int p1)] ∧ Z.Warmed39 U.vm ∧ U.heap = h0) (fun _ _ _ _ _ => True) (fun _ U o U' => ∃ v L, o = .returned v ∧ Q8 Z p0 p1 vB h0 n0 v U'.heap L ∧ FrameEnd U o U' L 0 0) := by
  refine MetFree.of_bodySF (plainFor_of_name pn_6) hisR ?_
  intro p e s m args below meth c s₁ Bd hml0 hP hK
  obtain ⟨rfl,hZ,hh⟩ := hP
  have hx := Bd.exec
  have hby := Bd.bytes
  have hml : c.maxLocals = 2 := hml0
  have hown : s.vm.findClass "java/lang/String" = some m.cls := findClass_of_methodNamed Bd.named
  have hnm := (name_of_methodNamed Bd.named Bd.method).1
  have X0 : Stand p l e ({ frames := 1,cells := 0,slots := 0,locals := 14 } : Room) s m #[(.int p0),(.int p1)] below meth c s₁ [] 0 0 := Stand.of_body Bd
  have e0 : s₁.heap = h0 := by rw [← hh,Bd.state]; rfl
  have N0 := Fr.nil n0
  refine own_start (Q := fun v h L => Q8 Z p0 p1 vB h0 n0 v h L) ?_
  refine gv s₁ 0 #[sI p0,sI p1] [] (fun t k => castTop (ef_8 m p0 p1) k) ?_
  refine gv s₁ 1 #[sI p0,sI p1] [(.int p0)] (fun t k => XS.iloadN X0.here hx rfl (hb hby d8_0) rfl k) ?_
  refine gv s₁ 2 #[sI p0,sI p1] [(.int p1),(.int p0)] (fun t k => XS.iloadN X0.here hx rfl (hb hby d8_1) rfl k) ?_
  obtain ⟨T1,X1,e1,st1⟩ := getS2 X0 hx hZ hown (host := "") (Or.inl (w_ hw 45 rfl)) Via.refl e0 f0_SIOOBE_FORMATTER (g := (mkF m 2 #[sI p0,sI p1] [(.int p1),(.int p0)])) rfl (hb hby d8_2)
  refine gv T1 5 #[sI p0,sI p1] [vB,(.int p1),(.int p0)] (fun t k => st1 _ k) ?_
  obtain ⟨_,_,⟨T2,L2,k2,n2⟩,-,X2,⟨Lc2,hQ2,l2,y2,z2⟩,st2⟩ := Jvm.LawKit.callS X1 hx (y := (⟨"jdk/internal/util/Preconditions","checkIndex","(IILjava/util/function/BiFunction;)I"⟩ : MethodName)) hown (mvT hZ (w_ hw 47 rfl)) (mvT hZ (w_ hw 48 rfl)) (mvT hZ (w_ hw 46 rfl)) (mvT hZ (w_ hw 49 rfl)) (by decide) (backOf (W := 0) (rm9 l Z a0 hw [] p0 p1 vB h0 n0 Z0 hr_vB hb1 hb2) hZ (w_ hw 49 rfl) (w_ hw 46 rfl) (by decide) (by decide)) (g := (mkF m 5 #[sI p0,sI p1] [vB,(.int p1),(.int p0)])) rfl (by rw [hml]; rfl) (argsL := [(.int p0),(.int p1),vB]) (rest := []) (lenOf pd_1 rfl) rfl (own_rm rfl) (hb hby d8_5) (fun _ _ => ⟨rfl,e1,(by decide : 0 + 0 ≤ _),(by decide : 0 + 0 ≤ _)⟩)
  dsimp only [Pt.U, Pt.locs, Pt.cells, Pt.slots] at X2 l2 y2 z2 st2 hQ2
  replace X2 := own_cast X2 l2 y2 z2
  obtain ⟨rfl,N2q,eq2⟩ := hQ2
  have N2 := Fr.app N0 N2q
  refine gv T2 8 #[sI p0,sI p1] [(.int p0)] (fun t k => st2 _ k) ?_
  refine gv T2 9 #[sI p0,sI p1] [] (fun t k => XS.pop X2.here hx rfl (hb hby d8_8) rfl rfl k) ?_
  exact own_retV X2 hx Bd.notSynchronized Bd.returns (hb hby d8_9) eq2 ⟨rfl,N2,rfl⟩ (by decide) (by decide)
theorem d7_0 : decode jdk_43_method_2_code 0 = .ok (.iload_n 1, 1) := by decide +kernel
theorem d7_1 : decode jdk_43_method_2_code 1 = .ok (.aload_n 0, 1) := by decide +kernel
theorem d7_2 : decode jdk_43_method_2_code 2 = .ok (.arraylength, 1) := by decide +kernel
theorem d7_3 : decode jdk_43_method_2_code 3 = .ok (.invokestatic 9, 3) := by decide +kernel
theorem d7_6 : decode jdk_43_method_2_code 6 = .ok (.aload_n 0, 1) := by decide +kernel
theorem d7_7 : decode jdk_43_method_2_code 7 = .ok (.iload_n 1, 1) := by decide +kernel
theorem d7_8 : decode jdk_43_method_2_code 8 = .ok (.baload, 1) := by decide +kernel
theorem d7_9 : decode jdk_43_method_2_code 9 = .ok (.sipush 255, 3) := by decide +kernel
theorem d7_12 : decode jdk_43_method_2_code 12 = .ok (.iand, 1) := by decide +kernel
theorem d7_13 : decode jdk_43_method_2_code 13 = .ok (.i2c, 1) := by decide +kernel
theorem d7_14 : decode jdk_43_method_2_code 14 = .ok (.ireturn, 1) := by decide +kernel
theorem ef_7 (m : MethodId) (ya : Addr) (p1 : Int32) : entryFrame m #[(.ref ya), (.int p1)] 2 = mkF m 0 #[.val (.ref ya), .val (.int p1)] [] := by first | (simp [entryFrame, mkF, argsToLocals, Value.category]; done) | rfl
def Q7 (Z : State) (ya : Addr) (p1 : Int32) (kn : ClassId) (zn : Int32) (vn : List Value) (cc : Int32) (vB : Value) (h0 : Heap) (n0 : Nat) (v : Option Value) (h : Heap) (L : List Loc) : Prop := v = some (.int (own_ch cc)) ∧ Fr n0 L ∧ h = h0
set_option maxRecDepth 65536 in
set_option maxHeartbeats 40000000 in
theorem rm7 (l : Launch) (Z : State) (a0 : Array Value) (hw : ∀ d ∈ tables_1, d.before a0 Z = true) (ws : List Jvm.Cond) (ya : Addr) (p1 : Int32) (kn : ClassId) (zn : Int32) (vn : List Value) (cc : Int32) (vB : Value) (h0 : Heap) (n0 : Nat) (Z0 : n0 ≤ h0.size) (f0_ya : Arv Z h0 ya kn .byte zn vn (.int (0 : Int32))) (f1_SIOOBE_FORMATTER : Sta Z h0 "jdk/internal/util/Preconditions" "SIOOBE_FORMATTER" "Ljava/util/function/BiFunction;" vB) (hr_vB : vB.isRef = true) (hb1 : ¬ p1 < 0) (hb2 : p1 < zn) (hat : vn.getD p1.toNatClampNeg (.int (0 : Int32)) = (.int cc)) :
    MetFree l (⟨"java/lang/StringLatin1", "charAt", "([BI)C"⟩ : MethodName) (head1 (Jvm.Cond.code (⟨"java/lang/StringLatin1", "charAt", "([BI)C"⟩ : MethodName) jdk_43_method_2_code 2 (some .char) :: ws) ({ frames := 2, cells := 0, slots := 0, locals := 27 } : Room)) (fun a U => a = #[(.ref ya), (.int p1)] ∧ Z.Warmed39 U.vm ∧ U.heap = h0) (fun _ _ _ _ _ => True) (fun _ U o U' => ∃ v L, o = .returned v ∧ Q7 Z ya p1 kn zn vn cc vB h0 n0 v U'.heap L ∧ FrameEnd U o U' L 0 0) := by
  refine MetFree.of_bodySF (plainFor_of_name pn_47) hisR ?_
  intro p e s m args below meth c s₁ Bd hml0 hP hK
  obtain ⟨rfl,hZ,hh⟩ := hP
  have hx := Bd.exec
  have hby := Bd.bytes
  have hml : c.maxLocals = 2 := hml0
  have hown : s.vm.findClass "java/lang/StringLatin1" = some m.cls := findClass_of_methodNamed Bd.named
  have hnm := (name_of_methodNamed Bd.named Bd.method).1
  have X0 : Stand p l e ({ frames := 2,cells := 0,slots := 0,locals := 27 } : Room) s m #[(.ref ya),(.int p1)] below meth c s₁ [] 0 0 := Stand.of_body Bd
  have e0 : s₁.heap = h0 := by rw [← hh,Bd.state]; rfl
  have N0 := Fr.nil n0
  refine own_start (Q := fun v h L => Q7 Z ya p1 kn zn vn cc vB h0 n0 v h L) ?_
  refine gv s₁ 0 #[sR ya,sI p1] [] (fun t k => castTop (ef_7 m ya p1) k) ?_
  refine gv s₁ 1 #[sR ya,sI p1] [(.int p1)] (fun t k => XS.iloadN X0.here hx rfl (hb hby d7_0) rfl k) ?_
  refine gv s₁ 2 #[sR ya,sI p1] [(.ref ya),(.int p1)] (fun t k => XS.aloadN X0.here hx rfl (hb hby d7_1) rfl rfl k) ?_
  obtain ⟨cl1,Ar1,q1,S1,M1,Hs1,G1⟩ := id f0_ya
  refine gv s₁ 3 #[sR ya,sI p1] [(.int zn),(.int p1)] (fun t k => X0.arraylength hx (by rw [e0]; exact Ar1.1) (State.isArrayOf_alike hZ.alike Ar1.2.1) (g := (mkF m 2 #[sR ya,sI p1] [(.ref ya),(.int p1)])) rfl rfl (hb hby d7_2) _ (by rw [len_of S1 M1]; exact k)) ?_
  obtain ⟨_,_,⟨T2,L2,k2,n2⟩,-,X2,⟨Lc2,hQ2,l2,y2,z2⟩,st2⟩ := Jvm.LawKit.callS X0 hx (y := (⟨"java/lang/String","checkIndex","(II)V"⟩ : MethodName)) hown (mvT hZ (w_ hw 42 rfl)) (mvT hZ (w_ hw 43 rfl)) (mvT hZ (w_ hw 8 rfl)) (mvT hZ (w_ hw 44 rfl)) (by decide) (backOf (W := 0) (rm8 l Z a0 hw [] p1 zn vB h0 n0 Z0 f1_SIOOBE_FORMATTER hr_vB hb1 hb2) hZ (w_ hw 44 rfl) (w_ hw 8 rfl) (by decide) (by decide)) (g := (mkF m 3 #[sR ya,sI p1] [(.int zn),(.int p1)])) rfl (by rw [hml]; rfl) (argsL := [(.int p1),(.int zn)]) (rest := []) (lenOf pd_2 rfl) rfl (own_rm rfl) (hb hby d7_3) (fun _ _ => ⟨rfl,e0,(by decide : 0 + 0 ≤ _),(by decide : 0 + 0 ≤ _)⟩)
  dsimp only [Pt.U, Pt.locs, Pt.cells, Pt.slots] at X2 l2 y2 z2 st2 hQ2
  replace X2 := own_cast X2 l2 y2 z2
  obtain ⟨rfl,N2q,eq2⟩ := hQ2
  have N2 := Fr.app N0 N2q
  refine gv T2 6 #[sR ya,sI p1] [] (fun t k => st2 _ k) ?_
  refine gv T2 7 #[sR ya,sI p1] [(.ref ya)] (fun t k => XS.aloadN X2.here hx rfl (hb hby d7_6) rfl rfl k) ?_
  refine gv T2 8 #[sR ya,sI p1] [(.int p1),(.ref ya)] (fun t k => XS.iloadN X2.here hx rfl (hb hby d7_7) rfl k) ?_
  obtain ⟨cl3,Ar3,q3,S3,M3,Hs3,G3⟩ := id f0_ya
  have hin3 : ¬ (p1 < 0 ∨ cl3.slots.size ≤ (p1).toNatClampNeg) := inb_of S3 ⟨hb1,hb2⟩
  have hat3 : cl3.slots[(p1).toNatClampNeg]? = some (.int cc) := Has.at Hs3 hin3 hat
  refine gv T2 9 #[sR ya,sI p1] [(.int cc)] (fun t k => X2.baloadBytes hx (j := p1) (v := (.int cc)) (by rw [eq2]; exact Ar3.1) (State.isArrayOf_alike hZ.alike Ar3.2.1) Ar3.2.2 hin3 hat3 (g := (mkF m 8 #[sR ya,sI p1] [(.int p1),(.ref ya)])) rfl rfl (hb hby d7_8) _ k) ?_
  refine gv T2 12 #[sR ya,sI p1] [(.int 255),(.int cc)] (fun t k => XS.sipush X2.here hx rfl (hb hby d7_9) k) ?_
  refine gv T2 13 #[sR ya,sI p1] [(.int (cc &&& (255 : Int32)))] (fun t k => XS.iand X2.here hx rfl (hb hby d7_12) rfl k) ?_
  refine gv T2 14 #[sR ya,sI p1] [(.int ((cc &&& (255 : Int32)).toUInt32.toUInt16.toUInt32.toInt32))] (fun t k => XS.i2c X2.here hx rfl (hb hby d7_13) rfl k) ?_
  exact own_ret X2 hx Bd.notSynchronized Bd.returns (own_chN cc) (Or.inl ⟨rfl,by simp,_,rfl⟩) (hb hby d7_14) eq2 ⟨rfl,N2,rfl⟩ (by decide) (by decide)
theorem d5_0 : decode jdk_42_method_56_code 0 = .ok (.aload_n 0, 1) := by decide +kernel
theorem d5_1 : decode jdk_42_method_56_code 1 = .ok (.invokevirtual 492, 3) := by decide +kernel
theorem d5_4 : decode jdk_42_method_56_code 4 = .ok (.ifCond .eq 12, 3) := by decide +kernel
theorem d5_7 : decode jdk_42_method_56_code 7 = .ok (.aload_n 0, 1) := by decide +kernel
theorem d5_8 : decode jdk_42_method_56_code 8 = .ok (.getfield 9, 3) := by decide +kernel
theorem d5_11 : decode jdk_42_method_56_code 11 = .ok (.iload_n 1, 1) := by decide +kernel
theorem d5_12 : decode jdk_42_method_56_code 12 = .ok (.invokestatic 495, 3) := by decide +kernel
theorem d5_15 : decode jdk_42_method_56_code 15 = .ok (.ireturn, 1) := by decide +kernel
theorem ef_5 (m : MethodId) (xs : Addr) (p1 : Int32) : entryFrame m #[(.ref xs), (.int p1)] 2 = mkF m 0 #[.val (.ref xs), .val (.int p1)] [] := by first | (simp [entryFrame, mkF, argsToLocals, Value.category]; done) | rfl
def Q5 (Z : State) (xs : Addr) (p1 : Int32) (yn : Addr) (kn : ClassId) (vn : List Value) (zn : Int32) (cc : Int32) (wc : Int32) (vB : Value) (h0 : Heap) (n0 : Nat) (v : Option Value) (h : Heap) (L : List Loc) : Prop := v = some (.int (own_ch cc)) ∧ Fr n0 L ∧ h = h0
set_option maxRecDepth 65536 in
set_option maxHeartbeats 40000000 in
theorem rm5 (l : Launch) (Z : State) (a0 : Array Value) (hw : ∀ d ∈ tables_1, d.before a0 Z = true) (ws : List Jvm.Cond) (xs : Addr) (p1 : Int32) (yn : Addr) (kn : ClassId) (vn : List Value) (zn : Int32) (cc : Int32) (wc : Int32) (vB : Value) (h0 : Heap) (n0 : Nat) (Z0 : n0 ≤ h0.size) (f0_xs : Exa Z h0 xs "java/lang/String") (f1_xs_coder : Fld Z h0 xs "java/lang/String" "coder" "B" (.int (0 : Int32))) (f2_xs_value : Fld Z h0 xs "java/lang/String" "value" "[B" (.ref yn)) (f3_yn : Arv Z h0 yn kn .byte zn vn (.int (0 : Int32))) (f4_COMPACT_STRINGS : Sta Z h0 "java/lang/String" "COMPACT_STRINGS" "Z" (.int wc)) (f5_SIOOBE_FORMATTER : Sta Z h0 "jdk/internal/util/Preconditions" "SIOOBE_FORMATTER" "Ljava/util/function/BiFunction;" vB) (hwc : ¬ wc = (0 : Int32)) (hr_vB : vB.isRef = true) (hb1 : ¬ p1 < 0) (hb2 : p1 < zn) (hat : vn.getD p1.toNatClampNeg (.int (0 : Int32)) = (.int cc)) :
    MetFree l (⟨"java/lang/String", "charAt", "(I)C"⟩ : MethodName) (head1 (Jvm.Cond.code (⟨"java/lang/String", "charAt", "(I)C"⟩ : MethodName) jdk_42_method_56_code 2 (some .char) :: ws) ({ frames := 3, cells := 0, slots := 0, locals := 40 } : Room)) (fun a U => a = #[(.ref xs), (.int p1)] ∧ Z.Warmed39 U.vm ∧ U.heap = h0) (fun _ _ _ _ _ => True) (fun _ U o U' => ∃ v L, o = .returned v ∧ Q5 Z xs p1 yn kn vn zn cc wc vB h0 n0 v U'.heap L ∧ FrameEnd U o U' L 0 0) := by
  refine MetFree.of_bodySF (plainFor_of_name pn_6) hisR ?_
  intro p e s m args below meth c s₁ Bd hml0 hP hK
  obtain ⟨rfl,hZ,hh⟩ := hP
  have hx := Bd.exec
  have hby := Bd.bytes
  have hml : c.maxLocals = 2 := hml0
  have hown : s.vm.findClass "java/lang/String" = some m.cls := findClass_of_methodNamed Bd.named
  have hnm := (name_of_methodNamed Bd.named Bd.method).1
  have X0 : Stand p l e ({ frames := 3,cells := 0,slots := 0,locals := 40 } : Room) s m #[(.ref xs),(.int p1)] below meth c s₁ [] 0 0 := Stand.of_body Bd
  have e0 : s₁.heap = h0 := by rw [← hh,Bd.state]; rfl
  have N0 := Fr.nil n0
  refine own_start (Q := fun v h L => Q5 Z xs p1 yn kn vn zn cc wc vB h0 n0 v h L) ?_
  refine gv s₁ 0 #[sR xs,sI p1] [] (fun t k => castTop (ef_5 m xs p1) k) ?_
  refine gv s₁ 1 #[sR xs,sI p1] [(.ref xs)] (fun t k => XS.aloadN X0.here hx rfl (hb hby d5_0) rfl rfl k) ?_
  obtain ⟨cq1,kq1,q1a,q1b,q1c⟩ := isOf hZ e0 f0_xs
  obtain ⟨_,_,⟨T1,L1,k1,n1⟩,-,X1,⟨Lc1,hQ1,l1,y1,z1⟩,st1⟩ := X0.virtualBack hx (y := (⟨"java/lang/String","isLatin1","()Z"⟩ : MethodName)) (z := (⟨"java/lang/String","isLatin1","()Z"⟩ : MethodName)) hown (mvT hZ (w_ hw 33 rfl)) (mvT hZ (w_ hw 34 rfl)) (notFace_of_selects (args := #[]) (mvT hZ (w_ hw 36 rfl))) (mvT hZ (w_ hw 36 rfl)) (mvT hZ (w_ hw 35 rfl)) (by decide) (backOf (W := 0) (rm6 l Z a0 hw [] xs wc h0 n0 Z0 f1_xs_coder f4_COMPACT_STRINGS hwc) hZ (w_ hw 37 rfl) (w_ hw 8 rfl) (by decide) (by decide)) q1a q1c (g := (mkF m 1 #[sR xs,sI p1] [(.ref xs)])) rfl (by rw [hml]; rfl) (Steps.refl _) (argsL := []) (rest := []) (lenOf pd_3 rfl) rfl (own_rm rfl) (hb hby d5_1) (fun _ _ => ⟨rfl,e0,(by decide : 0 + 0 ≤ _),(by decide : 0 + 0 ≤ _)⟩)
  dsimp only [Pt.U, Pt.locs, Pt.cells, Pt.slots] at X1 l1 y1 z1 st1 hQ1
  replace X1 := own_cast X1 l1 y1 z1
  obtain ⟨rfl,N1q,eq1⟩ := hQ1
  have N1 := Fr.app N0 N1q
  refine gv T1 4 #[sR xs,sI p1] [(.int 1)] (fun t k => st1.trans k) ?_
  refine gv T1 7 #[sR xs,sI p1] [] (fun t k => XS.ifNo X1.here hx rfl (hb hby d5_4) rfl ((if0 _ _).trans (feq (by decide : ¬ ((1 : Int32) = (0 : Int32)))).1) k) ?_
  refine gv T1 8 #[sR xs,sI p1] [(.ref xs)] (fun t k => XS.aloadN X1.here hx rfl (hb hby d5_7) rfl rfl k) ?_
  obtain ⟨T2,X2,e2,st2⟩ := getF X1 hx hZ hown (host := "") (Or.inl (w_ hw 20 rfl)) Via.refl eq1 f2_xs_value (g := (mkF m 8 #[sR xs,sI p1] [(.ref xs)])) rfl rfl (hb hby d5_8)
  refine gv T2 11 #[sR xs,sI p1] [(.ref yn)] (fun t k => st2 _ k) ?_
  refine gv T2 12 #[sR xs,sI p1] [(.int p1),(.ref yn)] (fun t k => XS.iloadN X2.here hx rfl (hb hby d5_11) rfl k) ?_
  obtain ⟨_,_,⟨T3,L3,k3,n3⟩,-,X3,⟨Lc3,hQ3,l3,y3,z3⟩,st3⟩ := Jvm.LawKit.callS X2 hx (y := (⟨"java/lang/StringLatin1","charAt","([BI)C"⟩ : MethodName)) hown (mvT hZ (w_ hw 38 rfl)) (mvT hZ (w_ hw 39 rfl)) (mvT hZ (w_ hw 40 rfl)) (mvT hZ (w_ hw 41 rfl)) (by decide) (backOf (W := 0) (rm7 l Z a0 hw [] yn p1 kn zn vn cc vB h0 n0 Z0 f3_yn f5_SIOOBE_FORMATTER hr_vB hb1 hb2 hat) hZ (w_ hw 41 rfl) (w_ hw 40 rfl) (by decide) (by decide)) (g := (mkF m 12 #[sR xs,sI p1] [(.int p1),(.ref yn)])) rfl (by rw [hml]; rfl) (argsL := [(.ref yn),(.int p1)]) (rest := []) (lenOf pd_4 rfl) rfl (own_rm rfl) (hb hby d5_12) (fun _ _ => ⟨rfl,e2,(by decide : 0 + 0 ≤ _),(by decide : 0 + 0 ≤ _)⟩)
  dsimp only [Pt.U, Pt.locs, Pt.cells, Pt.slots] at X3 l3 y3 z3 st3 hQ3
  replace X3 := own_cast X3 l3 y3 z3
  obtain ⟨rfl,N3q,eq3⟩ := hQ3
  have N3 := Fr.app N1 N3q
  refine gv T3 15 #[sR xs,sI p1] [(.int (own_ch cc))] (fun t k => st3 _ k) ?_
  exact own_ret X3 hx Bd.notSynchronized Bd.returns (own_chN cc) (Or.inl ⟨rfl,by simp,_,rfl⟩) (hb hby d5_15) eq3 ⟨rfl,N3,rfl⟩ (by decide) (by decide)
theorem d2_0 : decode method_2_code 0 = .ok (.iload_n 0, 1) := by decide +kernel
theorem d2_1 : decode method_2_code 1 = .ok (.iconst 1, 1) := by decide +kernel
theorem d2_2 : decode method_2_code 2 = .ok (.iand, 1) := by decide +kernel
theorem d2_3 : decode method_2_code 3 = .ok (.ifCond .ne 8, 3) := by decide +kernel
theorem d2_6 : decode method_2_code 6 = .ok (.ldc 7, 2) := by decide +kernel
theorem d2_8 : decode method_2_code 8 = .ok (.goto 5, 3) := by decide +kernel
theorem d2_11 : decode method_2_code 11 = .ok (.ldc 9, 2) := by decide +kernel
theorem d2_13 : decode method_2_code 13 = .ok (.astore_n 3, 1) := by decide +kernel
theorem d2_14 : decode method_2_code 14 = .ok (.iload_n 1, 1) := by decide +kernel
theorem d2_15 : decode method_2_code 15 = .ok (.aload_n 3, 1) := by decide +kernel
theorem d2_16 : decode method_2_code 16 = .ok (.invokevirtual 11, 3) := by decide +kernel
theorem d2_19 : decode method_2_code 19 = .ok (.if_icmp .ge 9, 3) := by decide +kernel
theorem d2_22 : decode method_2_code 22 = .ok (.aload_n 3, 1) := by decide +kernel
theorem d2_23 : decode method_2_code 23 = .ok (.iload_n 1, 1) := by decide +kernel
theorem d2_24 : decode method_2_code 24 = .ok (.invokevirtual 17, 3) := by decide +kernel
theorem d2_27 : decode method_2_code 27 = .ok (.ireturn, 1) := by decide +kernel
theorem d2_28 : decode method_2_code 28 = .ok (.iload_n 2, 1) := by decide +kernel
theorem d2_29 : decode method_2_code 29 = .ok (.sipush 255, 3) := by decide +kernel
theorem d2_32 : decode method_2_code 32 = .ok (.iand, 1) := by decide +kernel
theorem d2_33 : decode method_2_code 33 = .ok (.i2c, 1) := by decide +kernel
theorem d2_34 : decode method_2_code 34 = .ok (.ireturn, 1) := by decide +kernel
theorem ef_2 (m : MethodId) (p0 : Int32) (p1 : Int32) (p2 : Int32) : entryFrame m #[(.int p0), (.int p1), (.int p2)] 4 = mkF m 0 #[.val (.int p0), .val (.int p1), .val (.int p2), .unset] [] := by first | (simp [entryFrame, mkF, argsToLocals, Value.category]; done) | rfl
def Q2 (Z : State) (p0 : Int32) (p1 : Int32) (p2 : Int32) (wc : Int32) (vB : Value) (h0 : Heap) (n0 : Nat) (v : Option Value) (h : Heap) (L : List Loc) : Prop := ∃ r : Int32, v = some (.int r) ∧ (¬ r < (0 : Int32) ∧ ¬ (255 : Int32) < r) ∧ Fr n0 L ∧ Keep h0 h []
set_option maxRecDepth 65536 in
set_option maxHeartbeats 40000000 in
theorem rm2 (l : Launch) (Z : State) (a0 : Array Value) (hw : ∀ d ∈ tables_1, d.before a0 Z = true) (ws : List Jvm.Cond) (p0 : Int32) (p1 : Int32) (p2 : Int32) (wc : Int32) (vB : Value) (h0 : Heap) (n0 : Nat) (Z0 : n0 ≤ h0.size) (f0_COMPACT_STRINGS : Sta Z h0 "java/lang/String" "COMPACT_STRINGS" "Z" (.int wc)) (f1_SIOOBE_FORMATTER : Sta Z h0 "jdk/internal/util/Preconditions" "SIOOBE_FORMATTER" "Ljava/util/function/BiFunction;" vB) (hwc : ¬ wc = (0 : Int32)) (hr_vB : vB.isRef = true) (hi : ¬ p1 < (0 : Int32)) :
    MetFree l (⟨"com/example/tallyman/tallyman/ledger/PeriodNamedPinLaw", "at", "(III)C"⟩ : MethodName) (head1 (Jvm.Cond.code (⟨"com/example/tallyman/tallyman/ledger/PeriodNamedPinLaw", "at", "(III)C"⟩ : MethodName) method_2_code 4 (some .char) :: ws) ({ frames := 4, cells := 2, slots := 24, locals := 53 } : Room)) (fun a U => a = #[(.int p0), (.int p1), (.int p2)] ∧ Z.Warmed39 U.vm ∧ U.heap = h0 ∧ CHv Z own_EL U.vm h0) (fun _ _ _ _ _ => True) (fun _ U o U' => ∃ v L, o = .returned v ∧ Q2 Z p0 p1 p2 wc vB h0 n0 v U'.heap L ∧ CHr Z own_EL U.vm U.heap U'.vm U'.heap ∧ ReturnedEndW U o U' L 2 24) := by
  refine MetFree.of_bodySF (plainFor_of_name pn_77) hisR ?_
  intro p e s m args below meth c s₁ Bd hml0 hP hK
  obtain ⟨rfl,hZ,hh,CH0⟩ := hP
  have hx := Bd.exec
  have hby := Bd.bytes
  have hml : c.maxLocals = 4 := hml0
  have hown : s.vm.findClass "com/example/tallyman/tallyman/ledger/PeriodNamedPinLaw" = some m.cls := findClass_of_methodNamed Bd.named
  have hnm := (name_of_methodNamed Bd.named Bd.method).1
  have X0 : Stand p l e ({ frames := 4,cells := 2,slots := 24,locals := 53 } : Room) (s.setVm s.vm) m #[(.int p0),(.int p1),(.int p2)] below meth c s₁ [] 0 0 := own_x0 (Stand.of_body Bd)
  have e0 : s₁.heap = h0 := by rw [← hh,Bd.state]; rfl
  have N0 := Fr.nil n0
  have hS0 : s.Since s.vm h0.size := (State.WarmedH.refl s).since _
  have hk0 : h0.size ≤ h0.size := Nat.le_refl _
  have CR0 : CHr Z own_EL s.vm h0 s.vm h0 := CHr.refl CH0
  refine own_startW (Z := Z) (EL := own_EL) (Q := fun v h L => Q2 Z p0 p1 p2 wc vB h0 n0 v h L) ?_
  refine gv s₁ 0 #[sI p0,sI p1,sI p2,sU] [] (fun t k => castTop (ef_2 m p0 p1 p2) k) ?_
  refine gv s₁ 1 #[sI p0,sI p1,sI p2,sU] [(.int p0)] (fun t k => XS.iloadN X0.here hx rfl (hb hby d2_0) rfl k) ?_
  refine gv s₁ 2 #[sI p0,sI p1,sI p2,sU] [(.int 1),(.int p0)] (fun t k => XS.iconst X0.here hx rfl (hb hby d2_1) k) ?_
  refine gv s₁ 3 #[sI p0,sI p1,sI p2,sU] [(.int (p0 &&& (1 : Int32)))] (fun t k => XS.iand X0.here hx rfl (hb hby d2_2) rfl k) ?_
  by_cases hc1 : ((p0 &&& (1 : Int32)) = (0 : Int32))
  · refine gv s₁ 6 #[sI p0,sI p1,sI p2,sU] [] (fun t k => XS.ifNo X0.here hx rfl (hb hby d2_3) rfl ((if0 _ _).trans (teq hc1).2) k) ?_
    obtain ⟨b2,T2,h2,kz2,d2,k2,X2,e2,E2,hS2,hk2,hZ,hown,A2,C2,V2,R2,lta2,ltb2,cr2,Lt2,Nn2,st2⟩ := ldcCH X0 hx hZ hown (w_ hw 7 rfl) (own_wS hw) e0 hS0 hk0 (own_EW hw) (own_mem (by decide)) CH0 (vs := [(.int 100),(.int 97),(.int 121)]) (z := (3 : Int32)) ⟨by decide,rfl⟩ (by decide) rfl (g := (mkF m 6 #[sI p0,sI p1,sI p2,sU] [])) rfl (hb hby d2_6) (n := 12) (by decide) (by decide) (by decide) (by decide)
    have f3 := f0_COMPACT_STRINGS.ext E2
    have f4 := f1_SIOOBE_FORMATTER.ext E2
    have CR2 := CR0.trans cr2
    have CH2 := cr2.1
    have K2 := Keep.ext (Keep.refl h0 []) E2
    have Z2 := Nat.le_trans Z0 K2.1
    have f5 : Exa Z h2 b2 "java/lang/String" := A2
    have f6 : Fld Z h2 b2 "java/lang/String" "coder" "B" (.int 0) := C2
    have f7 : Fld Z h2 b2 "java/lang/String" "value" "[B" (.ref d2) := V2
    have f8 : Arv Z h2 d2 k2 .byte (3 : Int32) [(.int 100),(.int 97),(.int 121)] (.int 0) := R2
    refine gv T2 8 #[sI p0,sI p1,sI p2,sU] [(.ref b2)] (fun t k => st2 _ k) ?_
    refine gv T2 13 #[sI p0,sI p1,sI p2,sU] [(.ref b2)] (fun t k => XS.goto X2.here hx rfl (pc0 := 8) (pc' := 13) rfl (hb hby d2_8) (by decide) (by decide) k) ?_
    refine gv T2 14 #[sI p0,sI p1,sI p2,sR b2] [] (fun t k => XS.astoreN X2.here hx rfl (hb hby d2_13) rfl rfl (l' := #[sI p0,sI p1,sI p2,sR b2]) rfl k) ?_
    refine gv T2 15 #[sI p0,sI p1,sI p2,sR b2] [(.int p1)] (fun t k => XS.iloadN X2.here hx rfl (hb hby d2_14) rfl k) ?_
    refine gv T2 16 #[sI p0,sI p1,sI p2,sR b2] [(.ref b2),(.int p1)] (fun t k => XS.aloadN X2.here hx rfl (hb hby d2_15) rfl rfl k) ?_
    obtain ⟨cq9,kq9,q9a,q9b,q9c⟩ := isOf hZ e2 f5
    obtain ⟨_,_,⟨T9,L9,k9,n9⟩,-,X9,⟨Lc9,hQ9,l9,y9,z9⟩,st9⟩ := X2.virtualBack hx (y := (⟨"java/lang/String","length","()I"⟩ : MethodName)) (z := (⟨"java/lang/String","length","()I"⟩ : MethodName)) hown (mvT hZ (w_ hw 15 rfl)) (mvT hZ (w_ hw 16 rfl)) (notFace_of_selects (args := #[]) (mvT hZ (w_ hw 18 rfl))) (mvT hZ (w_ hw 18 rfl)) (mvT hZ (w_ hw 17 rfl)) (by decide) (backOf (W := 1) (rm3 l Z a0 hw [] b2 d2 k2 ([(.int 100),(.int 97),(.int 121)] : List Value) (3 : Int32) wc h2 n0 Z2 f5 f6 f7 f8 f3 hwc) hZ (w_ hw 19 rfl) (w_ hw 8 rfl) (by decide) (by decide)) q9a q9c (g := (mkF m 16 #[sI p0,sI p1,sI p2,sR b2] [(.ref b2),(.int p1)])) rfl (by rw [hml]; rfl) (Steps.refl _) (argsL := []) (rest := [(.int p1)]) (lenOf pd_5 rfl) rfl (own_rm rfl) (hb hby d2_16) (fun _ _ => ⟨rfl,e2,(by decide : 2 + 0 ≤ _),(by decide : 16 + 0 ≤ _)⟩)
    dsimp only [Pt.U, Pt.locs, Pt.cells, Pt.slots] at X9 l9 y9 z9 st9 hQ9
    replace X9 := own_cast X9 l9 y9 z9
    obtain ⟨rfl,N9q,eq9⟩ := hQ9
    have N9 := Fr.app N0 N9q
    refine gv T9 19 #[sI p0,sI p1,sI p2,sR b2] [(.int 3),(.int p1)] (fun t k => st9.trans k) ?_
    by_cases hc10 : (p1 < (3 : Int32))
    · refine gv T9 22 #[sI p0,sI p1,sI p2,sR b2] [] (fun t k => XS.icmpNo X9.here hx rfl (hb hby d2_19) rfl (tlt hc10).2.1 k) ?_
      refine gv T9 23 #[sI p0,sI p1,sI p2,sR b2] [(.ref b2)] (fun t k => XS.aloadN X9.here hx rfl (hb hby d2_22) rfl rfl k) ?_
      refine gv T9 24 #[sI p0,sI p1,sI p2,sR b2] [(.int p1),(.ref b2)] (fun t k => XS.iloadN X9.here hx rfl (hb hby d2_23) rfl k) ?_
      obtain ⟨cc,hcc⟩ : ∃ cc : Int32,([(.int 100),(.int 97),(.int 121)] : List Value).getD p1.toNatClampNeg (.int 0) = .int cc := own_getInt [(100 : Int32),(97 : Int32),(121 : Int32)] _
      obtain ⟨cq11,kq11,q11a,q11b,q11c⟩ := isOf hZ eq9 f5
      obtain ⟨_,_,⟨T11,L11,k11,n11⟩,-,X11,⟨Lc11,hQ11,l11,y11,z11⟩,st11⟩ := X9.virtualBack hx (y := (⟨"java/lang/String","charAt","(I)C"⟩ : MethodName)) (z := (⟨"java/lang/String","charAt","(I)C"⟩ : MethodName)) hown (mvT hZ (w_ hw 28 rfl)) (mvT hZ (w_ hw 29 rfl)) (notFace_of_selects (args := #[]) (mvT hZ (w_ hw 31 rfl))) (mvT hZ (w_ hw 31 rfl)) (mvT hZ (w_ hw 30 rfl)) (by decide) (backOf (W := 0) (rm5 l Z a0 hw [] b2 p1 d2 k2 ([(.int 100),(.int 97),(.int 121)] : List Value) (3 : Int32) cc wc vB h2 n0 Z2 f5 f6 f7 f8 f3 f4 hwc hr_vB hi hc10 hcc) hZ (w_ hw 32 rfl) (w_ hw 8 rfl) (by decide) (by decide)) q11a q11c (g := (mkF m 24 #[sI p0,sI p1,sI p2,sR b2] [(.int p1),(.ref b2)])) rfl (by rw [hml]; rfl) (Steps.refl _) (argsL := [(.int p1)]) (rest := []) (lenOf pd_6 rfl) rfl (own_rm rfl) (hb hby d2_24) (fun _ _ => ⟨rfl,eq9,(by decide : 2 + 0 ≤ _),(by decide : 16 + 0 ≤ _)⟩)
      dsimp only [Pt.U, Pt.locs, Pt.cells, Pt.slots] at X11 l11 y11 z11 st11 hQ11
      replace X11 := own_cast X11 l11 y11 z11
      obtain ⟨rfl,N11q,eq11⟩ := hQ11
      have N11 := Fr.app N9 N11q
      refine gv T11 27 #[sI p0,sI p1,sI p2,sR b2] [(.int (own_ch cc))] (fun t k => st11.trans k) ?_
      exact own_retW X11 hx Bd.notSynchronized Bd.returns (own_chN _) (Or.inl ⟨rfl,by simp,_,rfl⟩) (hb hby d2_27) eq11 hS2 hk2 hZ (own_EW hw) CR2 hh ⟨(own_ch cc),rfl,(own_chR _),N11,K2⟩ (by decide) (by decide)
    · refine gv T9 28 #[sI p0,sI p1,sI p2,sR b2] [] (fun t k => XS.icmpYes X9.here hx rfl (pc0 := 19) (pc' := 28) rfl (hb hby d2_19) rfl (flt hc10).2.1 (by decide) (by decide) k) ?_
      refine gv T9 29 #[sI p0,sI p1,sI p2,sR b2] [(.int p2)] (fun t k => XS.iloadN X9.here hx rfl (hb hby d2_28) rfl k) ?_
      refine gv T9 32 #[sI p0,sI p1,sI p2,sR b2] [(.int 255),(.int p2)] (fun t k => XS.sipush X9.here hx rfl (hb hby d2_29) k) ?_
      refine gv T9 33 #[sI p0,sI p1,sI p2,sR b2] [(.int (p2 &&& (255 : Int32)))] (fun t k => XS.iand X9.here hx rfl (hb hby d2_32) rfl k) ?_
      refine gv T9 34 #[sI p0,sI p1,sI p2,sR b2] [(.int ((p2 &&& (255 : Int32)).toUInt32.toUInt16.toUInt32.toInt32))] (fun t k => XS.i2c X9.here hx rfl (hb hby d2_33) rfl k) ?_
      exact own_retW X9 hx Bd.notSynchronized Bd.returns (own_chN _) (Or.inl ⟨rfl,by simp,_,rfl⟩) (hb hby d2_34) eq9 hS2 hk2 hZ (own_EW hw) CR2 hh ⟨((p2 &&& (255 : Int32)).toUInt32.toUInt16.toUInt32.toInt32),rfl,(own_chR _),N9,K2⟩ (by decide) (by decide)
  · refine gv s₁ 11 #[sI p0,sI p1,sI p2,sU] [] (fun t k => XS.ifYes X0.here hx rfl (pc0 := 3) (pc' := 11) rfl (hb hby d2_3) rfl ((if0 _ _).trans (feq hc1).2) (by decide) (by decide) k) ?_
    obtain ⟨b12,T12,h12,kz12,d12,k12,X12,e12,E12,hS12,hk12,hZ,hown,A12,C12,V12,R12,lta12,ltb12,cr12,Lt12,Nn12,st12⟩ := ldcCH X0 hx hZ hown (w_ hw 130 rfl) (own_wS hw) e0 hS0 hk0 (own_EW hw) (own_mem (by decide)) CH0 (vs := [(.int 109),(.int 111),(.int 110),(.int 116),(.int 104)]) (z := (5 : Int32)) ⟨by decide,rfl⟩ (by decide) rfl (g := (mkF m 11 #[sI p0,sI p1,sI p2,sU] [])) rfl (hb hby d2_11) (n := 20) (by decide) (by decide) (by decide) (by decide)
    have f13 := f0_COMPACT_STRINGS.ext E12
    have f14 := f1_SIOOBE_FORMATTER.ext E12
    have CR12 := CR0.trans cr12
    have CH12 := cr12.1
    have K12 := Keep.ext (Keep.refl h0 []) E12
    have Z12 := Nat.le_trans Z0 K12.1
    have f15 : Exa Z h12 b12 "java/lang/String" := A12
    have f16 : Fld Z h12 b12 "java/lang/String" "coder" "B" (.int 0) := C12
    have f17 : Fld Z h12 b12 "java/lang/String" "value" "[B" (.ref d12) := V12
    have f18 : Arv Z h12 d12 k12 .byte (5 : Int32) [(.int 109),(.int 111),(.int 110),(.int 116),(.int 104)] (.int 0) := R12
    refine gv T12 13 #[sI p0,sI p1,sI p2,sU] [(.ref b12)] (fun t k => st12 _ k) ?_
    refine gv T12 14 #[sI p0,sI p1,sI p2,sR b12] [] (fun t k => XS.astoreN X12.here hx rfl (hb hby d2_13) rfl rfl (l' := #[sI p0,sI p1,sI p2,sR b12]) rfl k) ?_
    refine gv T12 15 #[sI p0,sI p1,sI p2,sR b12] [(.int p1)] (fun t k => XS.iloadN X12.here hx rfl (hb hby d2_14) rfl k) ?_
    refine gv T12 16 #[sI p0,sI p1,sI p2,sR b12] [(.ref b12),(.int p1)] (fun t k => XS.aloadN X12.here hx rfl (hb hby d2_15) rfl rfl k) ?_
    obtain ⟨cq19,kq19,q19a,q19b,q19c⟩ := isOf hZ e12 f15
    obtain ⟨_,_,⟨T19,L19,k19,n19⟩,-,X19,⟨Lc19,hQ19,l19,y19,z19⟩,st19⟩ := X12.virtualBack hx (y := (⟨"java/lang/String","length","()I"⟩ : MethodName)) (z := (⟨"java/lang/String","length","()I"⟩ : MethodName)) hown (mvT hZ (w_ hw 15 rfl)) (mvT hZ (w_ hw 16 rfl)) (notFace_of_selects (args := #[]) (mvT hZ (w_ hw 18 rfl))) (mvT hZ (w_ hw 18 rfl)) (mvT hZ (w_ hw 17 rfl)) (by decide) (backOf (W := 1) (rm3 l Z a0 hw [] b12 d12 k12 ([(.int 109),(.int 111),(.int 110),(.int 116),(.int 104)] : List Value) (5 : Int32) wc h12 n0 Z12 f15 f16 f17 f18 f13 hwc) hZ (w_ hw 19 rfl) (w_ hw 8 rfl) (by decide) (by decide)) q19a q19c (g := (mkF m 16 #[sI p0,sI p1,sI p2,sR b12] [(.ref b12),(.int p1)])) rfl (by rw [hml]; rfl) (Steps.refl _) (argsL := []) (rest := [(.int p1)]) (lenOf pd_5 rfl) rfl (own_rm rfl) (hb hby d2_16) (fun _ _ => ⟨rfl,e12,(by decide : 2 + 0 ≤ _),(by decide : 24 + 0 ≤ _)⟩)
    dsimp only [Pt.U, Pt.locs, Pt.cells, Pt.slots] at X19 l19 y19 z19 st19 hQ19
    replace X19 := own_cast X19 l19 y19 z19
    obtain ⟨rfl,N19q,eq19⟩ := hQ19
    have N19 := Fr.app N0 N19q
    refine gv T19 19 #[sI p0,sI p1,sI p2,sR b12] [(.int 5),(.int p1)] (fun t k => st19.trans k) ?_
    by_cases hc20 : (p1 < (5 : Int32))
    · refine gv T19 22 #[sI p0,sI p1,sI p2,sR b12] [] (fun t k => XS.icmpNo X19.here hx rfl (hb hby d2_19) rfl (tlt hc20).2.1 k) ?_
      refine gv T19 23 #[sI p0,sI p1,sI p2,sR b12] [(.ref b12)] (fun t k => XS.aloadN X19.here hx rfl (hb hby d2_22) rfl rfl k) ?_
      refine gv T19 24 #[sI p0,sI p1,sI p2,sR b12] [(.int p1),(.ref b12)] (fun t k => XS.iloadN X19.here hx rfl (hb hby d2_23) rfl k) ?_
      obtain ⟨cc,hcc⟩ : ∃ cc : Int32,([(.int 109),(.int 111),(.int 110),(.int 116),(.int 104)] : List Value).getD p1.toNatClampNeg (.int 0) = .int cc := own_getInt [(109 : Int32),(111 : Int32),(110 : Int32),(116 : Int32),(104 : Int32)] _
      obtain ⟨cq21,kq21,q21a,q21b,q21c⟩ := isOf hZ eq19 f15
      obtain ⟨_,_,⟨T21,L21,k21,n21⟩,-,X21,⟨Lc21,hQ21,l21,y21,z21⟩,st21⟩ := X19.virtualBack hx (y := (⟨"java/lang/String","charAt","(I)C"⟩ : MethodName)) (z := (⟨"java/lang/String","charAt","(I)C"⟩ : MethodName)) hown (mvT hZ (w_ hw 28 rfl)) (mvT hZ (w_ hw 29 rfl)) (notFace_of_selects (args := #[]) (mvT hZ (w_ hw 31 rfl))) (mvT hZ (w_ hw 31 rfl)) (mvT hZ (w_ hw 30 rfl)) (by decide) (backOf (W := 0) (rm5 l Z a0 hw [] b12 p1 d12 k12 ([(.int 109),(.int 111),(.int 110),(.int 116),(.int 104)] : List Value) (5 : Int32) cc wc vB h12 n0 Z12 f15 f16 f17 f18 f13 f14 hwc hr_vB hi hc20 hcc) hZ (w_ hw 32 rfl) (w_ hw 8 rfl) (by decide) (by decide)) q21a q21c (g := (mkF m 24 #[sI p0,sI p1,sI p2,sR b12] [(.int p1),(.ref b12)])) rfl (by rw [hml]; rfl) (Steps.refl _) (argsL := [(.int p1)]) (rest := []) (lenOf pd_6 rfl) rfl (own_rm rfl) (hb hby d2_24) (fun _ _ => ⟨rfl,eq19,(by decide : 2 + 0 ≤ _),(by decide : 24 + 0 ≤ _)⟩)
      dsimp only [Pt.U, Pt.locs, Pt.cells, Pt.slots] at X21 l21 y21 z21 st21 hQ21
      replace X21 := own_cast X21 l21 y21 z21
      obtain ⟨rfl,N21q,eq21⟩ := hQ21
      have N21 := Fr.app N19 N21q
      refine gv T21 27 #[sI p0,sI p1,sI p2,sR b12] [(.int (own_ch cc))] (fun t k => st21.trans k) ?_
      exact own_retW X21 hx Bd.notSynchronized Bd.returns (own_chN _) (Or.inl ⟨rfl,by simp,_,rfl⟩) (hb hby d2_27) eq21 hS12 hk12 hZ (own_EW hw) CR12 hh ⟨(own_ch cc),rfl,(own_chR _),N21,K12⟩ (by decide) (by decide)
    · refine gv T19 28 #[sI p0,sI p1,sI p2,sR b12] [] (fun t k => XS.icmpYes X19.here hx rfl (pc0 := 19) (pc' := 28) rfl (hb hby d2_19) rfl (flt hc20).2.1 (by decide) (by decide) k) ?_
      refine gv T19 29 #[sI p0,sI p1,sI p2,sR b12] [(.int p2)] (fun t k => XS.iloadN X19.here hx rfl (hb hby d2_28) rfl k) ?_
      refine gv T19 32 #[sI p0,sI p1,sI p2,sR b12] [(.int 255),(.int p2)] (fun t k => XS.sipush X19.here hx rfl (hb hby d2_29) k) ?_
      refine gv T19 33 #[sI p0,sI p1,sI p2,sR b12] [(.int (p2 &&& (255 : Int32)))] (fun t k => XS.iand X19.here hx rfl (hb hby d2_32) rfl k) ?_
      refine gv T19 34 #[sI p0,sI p1,sI p2,sR b12] [(.int ((p2 &&& (255 : Int32)).toUInt32.toUInt16.toUInt32.toInt32))] (fun t k => XS.i2c X19.here hx rfl (hb hby d2_33) rfl k) ?_
      exact own_retW X19 hx Bd.notSynchronized Bd.returns (own_chN _) (Or.inl ⟨rfl,by simp,_,rfl⟩) (hb hby d2_34) eq19 hS12 hk12 hZ (own_EW hw) CR12 hh ⟨((p2 &&& (255 : Int32)).toUInt32.toUInt16.toUInt32.toInt32),rfl,(own_chR _),N19,K12⟩ (by decide) (by decide)
theorem d1_0 : decode method_3_code 0 = .ok (.iload_n 1, 1) := by decide +kernel
theorem d1_1 : decode method_3_code 1 = .ok (.iconst 2, 1) := by decide +kernel
theorem d1_2 : decode method_3_code 2 = .ok (.iand, 1) := by decide +kernel
theorem d1_3 : decode method_3_code 3 = .ok (.ifCond .eq 19, 3) := by decide +kernel
theorem d1_6 : decode method_3_code 6 = .ok (.iload_n 2, 1) := by decide +kernel
theorem d1_7 : decode method_3_code 7 = .ok (.bipush 7, 2) := by decide +kernel
theorem d1_9 : decode method_3_code 9 = .ok (.iand, 1) := by decide +kernel
theorem d1_10 : decode method_3_code 10 = .ok (.iload_n 0, 1) := by decide +kernel
theorem d1_11 : decode method_3_code 11 = .ok (.if_icmp .ne 11, 3) := by decide +kernel
theorem d1_14 : decode method_3_code 14 = .ok (.iload 4, 2) := by decide +kernel
theorem d1_16 : decode method_3_code 16 = .ok (.sipush 255, 3) := by decide +kernel
theorem d1_19 : decode method_3_code 19 = .ok (.iand, 1) := by decide +kernel
theorem d1_20 : decode method_3_code 20 = .ok (.i2c, 1) := by decide +kernel
theorem d1_21 : decode method_3_code 21 = .ok (.ireturn, 1) := by decide +kernel
theorem d1_22 : decode method_3_code 22 = .ok (.iload_n 1, 1) := by decide +kernel
theorem d1_23 : decode method_3_code 23 = .ok (.iload_n 0, 1) := by decide +kernel
theorem d1_24 : decode method_3_code 24 = .ok (.iload_n 3, 1) := by decide +kernel
theorem d1_25 : decode method_3_code 25 = .ok (.invokestatic 21, 3) := by decide +kernel
theorem d1_28 : decode method_3_code 28 = .ok (.ireturn, 1) := by decide +kernel
theorem ef_1 (m : MethodId) (p0 : Int32) (p1 : Int32) (p2 : Int32) (p3 : Int32) (p4 : Int32) : entryFrame m #[(.int p0), (.int p1), (.int p2), (.int p3), (.int p4)] 5 = mkF m 0 #[.val (.int p0), .val (.int p1), .val (.int p2), .val (.int p3), .val (.int p4)] [] := by first | (simp [entryFrame, mkF, argsToLocals, Value.category]; done) | rfl
def Q1 (Z : State) (p0 : Int32) (p1 : Int32) (p2 : Int32) (p3 : Int32) (p4 : Int32) (wc : Int32) (vB : Value) (h0 : Heap) (n0 : Nat) (v : Option Value) (h : Heap) (L : List Loc) : Prop := ∃ r : Int32, v = some (.int r) ∧ (¬ r < (0 : Int32) ∧ ¬ (255 : Int32) < r) ∧ Fr n0 L ∧ Keep h0 h []
set_option maxRecDepth 65536 in
set_option maxHeartbeats 40000000 in
theorem rm1 (l : Launch) (Z : State) (a0 : Array Value) (hw : ∀ d ∈ tables_1, d.before a0 Z = true) (ws : List Jvm.Cond) (p0 : Int32) (p1 : Int32) (p2 : Int32) (p3 : Int32) (p4 : Int32) (wc : Int32) (vB : Value) (h0 : Heap) (n0 : Nat) (Z0 : n0 ≤ h0.size) (f0_COMPACT_STRINGS : Sta Z h0 "java/lang/String" "COMPACT_STRINGS" "Z" (.int wc)) (f1_SIOOBE_FORMATTER : Sta Z h0 "jdk/internal/util/Preconditions" "SIOOBE_FORMATTER" "Ljava/util/function/BiFunction;" vB) (hwc : ¬ wc = (0 : Int32)) (hr_vB : vB.isRef = true) (hi : ¬ p0 < (0 : Int32)) :
    MetFree l (⟨"com/example/tallyman/tallyman/ledger/PeriodNamedPinLaw", "ch", "(IIIII)C"⟩ : MethodName) (head1 (Jvm.Cond.code (⟨"com/example/tallyman/tallyman/ledger/PeriodNamedPinLaw", "ch", "(IIIII)C"⟩ : MethodName) method_3_code 5 (some .char) :: ws) ({ frames := 5, cells := 2, slots := 24, locals := 68 } : Room)) (fun a U => a = #[(.int p0), (.int p1), (.int p2), (.int p3), (.int p4)] ∧ Z.Warmed39 U.vm ∧ U.heap = h0 ∧ CHv Z own_EL U.vm h0) (fun _ _ _ _ _ => True) (fun _ U o U' => ∃ v L, o = .returned v ∧ Q1 Z p0 p1 p2 p3 p4 wc vB h0 n0 v U'.heap L ∧ CHr Z own_EL U.vm U.heap U'.vm U'.heap ∧ ReturnedEndW U o U' L 2 24) := by
  refine MetFree.of_bodySF (plainFor_of_name pn_77) hisR ?_
  intro p e s m args below meth c s₁ Bd hml0 hP hK
  obtain ⟨rfl,hZ,hh,CH0⟩ := hP
  have hx := Bd.exec
  have hby := Bd.bytes
  have hml : c.maxLocals = 5 := hml0
  have hown : s.vm.findClass "com/example/tallyman/tallyman/ledger/PeriodNamedPinLaw" = some m.cls := findClass_of_methodNamed Bd.named
  have hnm := (name_of_methodNamed Bd.named Bd.method).1
  have X0 : Stand p l e ({ frames := 5,cells := 2,slots := 24,locals := 68 } : Room) (s.setVm s.vm) m #[(.int p0),(.int p1),(.int p2),(.int p3),(.int p4)] below meth c s₁ [] 0 0 := own_x0 (Stand.of_body Bd)
  have e0 : s₁.heap = h0 := by rw [← hh,Bd.state]; rfl
  have N0 := Fr.nil n0
  have hS0 : s.Since s.vm h0.size := (State.WarmedH.refl s).since _
  have hk0 : h0.size ≤ h0.size := Nat.le_refl _
  have CR0 : CHr Z own_EL s.vm h0 s.vm h0 := CHr.refl CH0
  refine own_startW (Z := Z) (EL := own_EL) (Q := fun v h L => Q1 Z p0 p1 p2 p3 p4 wc vB h0 n0 v h L) ?_
  refine gv s₁ 0 #[sI p0,sI p1,sI p2,sI p3,sI p4] [] (fun t k => castTop (ef_1 m p0 p1 p2 p3 p4) k) ?_
  refine gv s₁ 1 #[sI p0,sI p1,sI p2,sI p3,sI p4] [(.int p1)] (fun t k => XS.iloadN X0.here hx rfl (hb hby d1_0) rfl k) ?_
  refine gv s₁ 2 #[sI p0,sI p1,sI p2,sI p3,sI p4] [(.int 2),(.int p1)] (fun t k => XS.iconst X0.here hx rfl (hb hby d1_1) k) ?_
  refine gv s₁ 3 #[sI p0,sI p1,sI p2,sI p3,sI p4] [(.int (p1 &&& (2 : Int32)))] (fun t k => XS.iand X0.here hx rfl (hb hby d1_2) rfl k) ?_
  by_cases hc1 : ((p1 &&& (2 : Int32)) = (0 : Int32))
  · refine gv s₁ 22 #[sI p0,sI p1,sI p2,sI p3,sI p4] [] (fun t k => XS.ifYes X0.here hx rfl (pc0 := 3) (pc' := 22) rfl (hb hby d1_3) rfl ((if0 _ _).trans (teq hc1).1) (by decide) (by decide) k) ?_
    refine gv s₁ 23 #[sI p0,sI p1,sI p2,sI p3,sI p4] [(.int p1)] (fun t k => XS.iloadN X0.here hx rfl (hb hby d1_22) rfl k) ?_
    refine gv s₁ 24 #[sI p0,sI p1,sI p2,sI p3,sI p4] [(.int p0),(.int p1)] (fun t k => XS.iloadN X0.here hx rfl (hb hby d1_23) rfl k) ?_
    refine gv s₁ 25 #[sI p0,sI p1,sI p2,sI p3,sI p4] [(.int p3),(.int p0),(.int p1)] (fun t k => XS.iloadN X0.here hx rfl (hb hby d1_24) rfl k) ?_
    obtain ⟨_,_,⟨T2,L2,k2,n2⟩,-,X2,sn2,ge2,⟨Lc2,hQ2,l2,y2,z2,cr2⟩,st2⟩ := callSS X0 hx (y := (⟨"com/example/tallyman/tallyman/ledger/PeriodNamedPinLaw","at","(III)C"⟩ : MethodName)) hown (mvT hZ (w_ hw 4 rfl)) (mvT hZ (w_ hw 5 rfl)) (mvT hZ (w_ hw 2 rfl)) (mvT hZ (w_ hw 6 rfl)) (by decide) (backOfSH (s := s) (vm0 := s.vm) (W := 0) (rm2 l Z a0 hw [] p1 p0 p3 wc vB h0 n0 Z0 f0_COMPACT_STRINGS f1_SIOOBE_FORMATTER hwc hr_vB hi) hZ (w_ hw 6 rfl) (w_ hw 2 rfl) (by decide) (by decide) (own_EW hw) CH0) (g := (mkF m 25 #[sI p0,sI p1,sI p2,sI p3,sI p4] [(.int p3),(.int p0),(.int p1)])) rfl (by rw [hml]; rfl) (argsL := [(.int p1),(.int p0),(.int p3)]) (rest := []) (lenOf pd_7 rfl) rfl (own_rm rfl) (hb hby d1_25) (fun _ _ => ⟨rfl,e0,(by decide : 0 + 2 ≤ _),(by decide : 0 + 24 ≤ _)⟩)
    dsimp only [Pt.U, Pt.locs, Pt.cells, Pt.slots] at X2 l2 y2 z2 st2 hQ2 sn2 ge2 cr2
    obtain ⟨X2,hS2,hZ,hown⟩ := rebS hS0 (n1 := s₁.heap.size) (by rw [e0]; exact hk0) X2 sn2 ge2 hZ hown
    have hk2 : T2.heap.size ≤ T2.heap.size := Nat.le_refl _
    replace X2 := own_cast X2 l2 y2 z2
    obtain ⟨r2,rfl,hr2,N2q,K2q⟩ := hQ2
    have N2 := Fr.app N0 N2q
    have f3 : Sta Z T2.heap "java/lang/String" "COMPACT_STRINGS" "Z" (.int wc) := own_staKeep f0_COMPACT_STRINGS K2q all0
    have f4 : Sta Z T2.heap "jdk/internal/util/Preconditions" "SIOOBE_FORMATTER" "Ljava/util/function/BiFunction;" vB := own_staKeep f1_SIOOBE_FORMATTER K2q all0
    have CR2 := CR0.trans cr2
    have CH2 := cr2.1
    have K2 := Keep.trans (Keep.refl h0 []) K2q all0
    have Z2 := Nat.le_trans Z0 K2.1
    refine gv T2 28 #[sI p0,sI p1,sI p2,sI p3,sI p4] [(.int r2)] (fun t k => st2.trans k) ?_
    exact own_retW X2 hx Bd.notSynchronized Bd.returns (own_rN hr2) (Or.inl ⟨rfl,by simp,_,rfl⟩) (hb hby d1_28) rfl hS2 hk2 hZ (own_EW hw) CR2 hh ⟨r2,rfl,hr2,N2,K2⟩ (by decide) (by decide)
  · refine gv s₁ 6 #[sI p0,sI p1,sI p2,sI p3,sI p4] [] (fun t k => XS.ifNo X0.here hx rfl (hb hby d1_3) rfl ((if0 _ _).trans (feq hc1).1) k) ?_
    refine gv s₁ 7 #[sI p0,sI p1,sI p2,sI p3,sI p4] [(.int p2)] (fun t k => XS.iloadN X0.here hx rfl (hb hby d1_6) rfl k) ?_
    refine gv s₁ 9 #[sI p0,sI p1,sI p2,sI p3,sI p4] [(.int 7),(.int p2)] (fun t k => XS.bipush X0.here hx rfl (hb hby d1_7) k) ?_
    refine gv s₁ 10 #[sI p0,sI p1,sI p2,sI p3,sI p4] [(.int (p2 &&& (7 : Int32)))] (fun t k => XS.iand X0.here hx rfl (hb hby d1_9) rfl k) ?_
    refine gv s₁ 11 #[sI p0,sI p1,sI p2,sI p3,sI p4] [(.int p0),(.int (p2 &&& (7 : Int32)))] (fun t k => XS.iloadN X0.here hx rfl (hb hby d1_10) rfl k) ?_
    by_cases hc5 : ((p2 &&& (7 : Int32)) = p0)
    · refine gv s₁ 14 #[sI p0,sI p1,sI p2,sI p3,sI p4] [] (fun t k => XS.icmpNo X0.here hx rfl (hb hby d1_11) rfl (teq hc5).2 k) ?_
      refine gv s₁ 16 #[sI p0,sI p1,sI p2,sI p3,sI p4] [(.int p4)] (fun t k => XS.iload X0.here hx rfl (hb hby d1_14) rfl k) ?_
      refine gv s₁ 19 #[sI p0,sI p1,sI p2,sI p3,sI p4] [(.int 255),(.int p4)] (fun t k => XS.sipush X0.here hx rfl (hb hby d1_16) k) ?_
      refine gv s₁ 20 #[sI p0,sI p1,sI p2,sI p3,sI p4] [(.int (p4 &&& (255 : Int32)))] (fun t k => XS.iand X0.here hx rfl (hb hby d1_19) rfl k) ?_
      refine gv s₁ 21 #[sI p0,sI p1,sI p2,sI p3,sI p4] [(.int ((p4 &&& (255 : Int32)).toUInt32.toUInt16.toUInt32.toInt32))] (fun t k => XS.i2c X0.here hx rfl (hb hby d1_20) rfl k) ?_
      exact own_retW X0 hx Bd.notSynchronized Bd.returns (own_chN _) (Or.inl ⟨rfl,by simp,_,rfl⟩) (hb hby d1_21) e0 hS0 hk0 hZ (own_EW hw) CR0 hh ⟨((p4 &&& (255 : Int32)).toUInt32.toUInt16.toUInt32.toInt32),rfl,(own_chR _),N0,(Keep.refl h0 [])⟩ (by decide) (by decide)
    · refine gv s₁ 22 #[sI p0,sI p1,sI p2,sI p3,sI p4] [] (fun t k => XS.icmpYes X0.here hx rfl (pc0 := 11) (pc' := 22) rfl (hb hby d1_11) rfl (feq hc5).2 (by decide) (by decide) k) ?_
      refine gv s₁ 23 #[sI p0,sI p1,sI p2,sI p3,sI p4] [(.int p1)] (fun t k => XS.iloadN X0.here hx rfl (hb hby d1_22) rfl k) ?_
      refine gv s₁ 24 #[sI p0,sI p1,sI p2,sI p3,sI p4] [(.int p0),(.int p1)] (fun t k => XS.iloadN X0.here hx rfl (hb hby d1_23) rfl k) ?_
      refine gv s₁ 25 #[sI p0,sI p1,sI p2,sI p3,sI p4] [(.int p3),(.int p0),(.int p1)] (fun t k => XS.iloadN X0.here hx rfl (hb hby d1_24) rfl k) ?_
      obtain ⟨_,_,⟨T6,L6,k6,n6⟩,-,X6,sn6,ge6,⟨Lc6,hQ6,l6,y6,z6,cr6⟩,st6⟩ := callSS X0 hx (y := (⟨"com/example/tallyman/tallyman/ledger/PeriodNamedPinLaw","at","(III)C"⟩ : MethodName)) hown (mvT hZ (w_ hw 4 rfl)) (mvT hZ (w_ hw 5 rfl)) (mvT hZ (w_ hw 2 rfl)) (mvT hZ (w_ hw 6 rfl)) (by decide) (backOfSH (s := s) (vm0 := s.vm) (W := 0) (rm2 l Z a0 hw [] p1 p0 p3 wc vB h0 n0 Z0 f0_COMPACT_STRINGS f1_SIOOBE_FORMATTER hwc hr_vB hi) hZ (w_ hw 6 rfl) (w_ hw 2 rfl) (by decide) (by decide) (own_EW hw) CH0) (g := (mkF m 25 #[sI p0,sI p1,sI p2,sI p3,sI p4] [(.int p3),(.int p0),(.int p1)])) rfl (by rw [hml]; rfl) (argsL := [(.int p1),(.int p0),(.int p3)]) (rest := []) (lenOf pd_7 rfl) rfl (own_rm rfl) (hb hby d1_25) (fun _ _ => ⟨rfl,e0,(by decide : 0 + 2 ≤ _),(by decide : 0 + 24 ≤ _)⟩)
      dsimp only [Pt.U, Pt.locs, Pt.cells, Pt.slots] at X6 l6 y6 z6 st6 hQ6 sn6 ge6 cr6
      obtain ⟨X6,hS6,hZ,hown⟩ := rebS hS0 (n1 := s₁.heap.size) (by rw [e0]; exact hk0) X6 sn6 ge6 hZ hown
      have hk6 : T6.heap.size ≤ T6.heap.size := Nat.le_refl _
      replace X6 := own_cast X6 l6 y6 z6
      obtain ⟨r6,rfl,hr6,N6q,K6q⟩ := hQ6
      have N6 := Fr.app N0 N6q
      have f7 : Sta Z T6.heap "java/lang/String" "COMPACT_STRINGS" "Z" (.int wc) := own_staKeep f0_COMPACT_STRINGS K6q all0
      have f8 : Sta Z T6.heap "jdk/internal/util/Preconditions" "SIOOBE_FORMATTER" "Ljava/util/function/BiFunction;" vB := own_staKeep f1_SIOOBE_FORMATTER K6q all0
      have CR6 := CR0.trans cr6
      have CH6 := cr6.1
      have K6 := Keep.trans (Keep.refl h0 []) K6q all0
      have Z6 := Nat.le_trans Z0 K6.1
      refine gv T6 28 #[sI p0,sI p1,sI p2,sI p3,sI p4] [(.int r6)] (fun t k => st6.trans k) ?_
      exact own_retW X6 hx Bd.notSynchronized Bd.returns (own_rN hr6) (Or.inl ⟨rfl,by simp,_,rfl⟩) (hb hby d1_28) rfl hS6 hk6 hZ (own_EW hw) CR6 hh ⟨r6,rfl,hr6,N6,K6⟩ (by decide) (by decide)
theorem d15_0 : decode jdk_52_method_15_code 0 = .ok (.iload_n 1, 1) := by decide +kernel
theorem d15_1 : decode jdk_52_method_15_code 1 = .ok (.aload_n 0, 1) := by decide +kernel
theorem d15_2 : decode jdk_52_method_15_code 2 = .ok (.arraylength, 1) := by decide +kernel
theorem d15_3 : decode jdk_52_method_15_code 3 = .ok (.isub, 1) := by decide +kernel
theorem d15_4 : decode jdk_52_method_15_code 4 = .ok (.bipush 31, 2) := by decide +kernel
theorem d15_6 : decode jdk_52_method_15_code 6 = .ok (.iushr, 1) := by decide +kernel
theorem d15_7 : decode jdk_52_method_15_code 7 = .ok (.i2b, 1) := by decide +kernel
theorem d15_8 : decode jdk_52_method_15_code 8 = .ok (.ireturn, 1) := by decide +kernel
theorem ef_151 (m : MethodId) (ya : Addr) : entryFrame m #[(.ref ya), (.int (1 : Int32))] 2 = mkF m 0 #[.val (.ref ya), .val (.int (1 : Int32))] [] := by first | (simp [entryFrame, mkF, argsToLocals, Value.category]; done) | rfl
def Q151 (Z : State) (ya : Addr) (ka : ClassId) (vs : List Value) (h0 : Heap) (n0 : Nat) (v : Option Value) (h : Heap) (L : List Loc) : Prop := v = some (.int (0 : Int32)) ∧ Fr n0 L ∧ h = h0
set_option maxRecDepth 65536 in
set_option maxHeartbeats 40000000 in
theorem rm151 (l : Launch) (Z : State) (a0 : Array Value) (hw : ∀ d ∈ tables_1, d.before a0 Z = true) (ws : List Jvm.Cond) (ya : Addr) (ka : ClassId) (vs : List Value) (h0 : Heap) (n0 : Nat) (Z0 : n0 ≤ h0.size) (f0_ya : Arv Z h0 ya ka .byte (1 : Int32) vs (.int (0 : Int32))) :
    MetFree l (⟨"java/lang/StringUTF16", "coderFromArrayLen", "([BI)B"⟩ : MethodName) (head1 (Jvm.Cond.code (⟨"java/lang/StringUTF16", "coderFromArrayLen", "([BI)B"⟩ : MethodName) jdk_52_method_15_code 2 (some .byte) :: ws) ({ frames := 0, cells := 0, slots := 0, locals := 0 } : Room)) (fun a U => a = #[(.ref ya), (.int 1)] ∧ Z.Warmed39 U.vm ∧ U.heap = h0) (fun _ _ _ _ _ => True) (fun _ U o U' => ∃ v L, o = .returned v ∧ Q151 Z ya ka vs h0 n0 v U'.heap L ∧ FrameEnd U o U' L 0 0) := by
  refine MetFree.of_bodySF (plainFor_of_name pn_105) hisR ?_
  intro p e s m args below meth c s₁ Bd hml0 hP hK
  obtain ⟨rfl,hZ,hh⟩ := hP
  have hx := Bd.exec
  have hby := Bd.bytes
  have hml : c.maxLocals = 2 := hml0
  have hown : s.vm.findClass "java/lang/StringUTF16" = some m.cls := findClass_of_methodNamed Bd.named
  have hnm := (name_of_methodNamed Bd.named Bd.method).1
  have X0 : Stand p l e ({ frames := 0,cells := 0,slots := 0,locals := 0 } : Room) s m #[(.ref ya),(.int 1)] below meth c s₁ [] 0 0 := Stand.of_body Bd
  have e0 : s₁.heap = h0 := by rw [← hh,Bd.state]; rfl
  have N0 := Fr.nil n0
  refine own_start (Q := fun v h L => Q151 Z ya ka vs h0 n0 v h L) ?_
  refine gv s₁ 0 #[sR ya,sI 1] [] (fun t k => castTop (ef_151 m ya) k) ?_
  refine gv s₁ 1 #[sR ya,sI 1] [(.int 1)] (fun t k => XS.iloadN X0.here hx rfl (hb hby d15_0) rfl k) ?_
  refine gv s₁ 2 #[sR ya,sI 1] [(.ref ya),(.int 1)] (fun t k => XS.aloadN X0.here hx rfl (hb hby d15_1) rfl rfl k) ?_
  obtain ⟨cl1,Ar1,q1,S1,M1,Hs1,G1⟩ := id f0_ya
  refine gv s₁ 3 #[sR ya,sI 1] [(.int 1),(.int 1)] (fun t k => X0.arraylength hx (by rw [e0]; exact Ar1.1) (State.isArrayOf_alike hZ.alike Ar1.2.1) (g := (mkF m 2 #[sR ya,sI 1] [(.ref ya),(.int 1)])) rfl rfl (hb hby d15_2) _ (by rw [len_of S1 M1]; exact k)) ?_
  refine gv s₁ 4 #[sR ya,sI 1] [(.int 0)] (fun t k => XS.isub X0.here hx rfl (hb hby d15_3) rfl k) ?_
  refine gv s₁ 6 #[sR ya,sI 1] [(.int 31),(.int 0)] (fun t k => XS.bipush X0.here hx rfl (hb hby d15_4) k) ?_
  refine gv s₁ 7 #[sR ya,sI 1] [(.int 0)] (fun t k => XS.iushr X0.here hx rfl (hb hby d15_6) rfl k) ?_
  refine gv s₁ 8 #[sR ya,sI 1] [(.int 0)] (fun t k => XS.i2b X0.here hx rfl (hb hby d15_7) rfl k) ?_
  exact own_ret X0 hx Bd.notSynchronized Bd.returns rfl (Or.inl ⟨rfl,by simp,_,rfl⟩) (hb hby d15_8) e0 ⟨rfl,N0,rfl⟩ (by decide) (by decide)
theorem d14_0 : decode jdk_52_method_21_code 0 = .ok (.iconst 0, 1) := by decide +kernel
theorem d14_1 : decode jdk_52_method_21_code 1 = .ok (.istore 5, 2) := by decide +kernel
theorem d14_3 : decode jdk_52_method_21_code 3 = .ok (.iload 5, 2) := by decide +kernel
theorem d14_5 : decode jdk_52_method_21_code 5 = .ok (.iload 4, 2) := by decide +kernel
theorem d14_7 : decode jdk_52_method_21_code 7 = .ok (.if_icmp .ge 37, 3) := by decide +kernel
theorem d14_10 : decode jdk_52_method_21_code 10 = .ok (.aload_n 0, 1) := by decide +kernel
theorem d14_11 : decode jdk_52_method_21_code 11 = .ok (.iload_n 1, 1) := by decide +kernel
theorem d14_12 : decode jdk_52_method_21_code 12 = .ok (.caload, 1) := by decide +kernel
theorem d14_13 : decode jdk_52_method_21_code 13 = .ok (.istore 6, 2) := by decide +kernel
theorem d14_15 : decode jdk_52_method_21_code 15 = .ok (.iload 6, 2) := by decide +kernel
theorem d14_17 : decode jdk_52_method_21_code 17 = .ok (.sipush 255, 3) := by decide +kernel
theorem d14_20 : decode jdk_52_method_21_code 20 = .ok (.if_icmp .le 6, 3) := by decide +kernel
theorem d14_26 : decode jdk_52_method_21_code 26 = .ok (.aload_n 2, 1) := by decide +kernel
theorem d14_27 : decode jdk_52_method_21_code 27 = .ok (.iload_n 3, 1) := by decide +kernel
theorem d14_28 : decode jdk_52_method_21_code 28 = .ok (.iload 6, 2) := by decide +kernel
theorem d14_30 : decode jdk_52_method_21_code 30 = .ok (.i2b, 1) := by decide +kernel
theorem d14_31 : decode jdk_52_method_21_code 31 = .ok (.bastore, 1) := by decide +kernel
theorem d14_32 : decode jdk_52_method_21_code 32 = .ok (.iinc 1 1, 3) := by decide +kernel
theorem d14_35 : decode jdk_52_method_21_code 35 = .ok (.iinc 3 1, 3) := by decide +kernel
theorem d14_38 : decode jdk_52_method_21_code 38 = .ok (.iinc 5 1, 3) := by decide +kernel
theorem d14_41 : decode jdk_52_method_21_code 41 = .ok (.goto (-38), 3) := by decide +kernel
theorem d14_44 : decode jdk_52_method_21_code 44 = .ok (.iload 4, 2) := by decide +kernel
theorem d14_46 : decode jdk_52_method_21_code 46 = .ok (.ireturn, 1) := by decide +kernel
theorem ef_141 (m : MethodId) (ya : Addr) (yb : Addr) : entryFrame m #[(.ref ya), (.int (0 : Int32)), (.ref yb), (.int (0 : Int32)), (.int (1 : Int32))] 7 = mkF m 0 #[.val (.ref ya), .val (.int (0 : Int32)), .val (.ref yb), .val (.int (0 : Int32)), .val (.int (1 : Int32)), .unset, .unset] [] := by first | (simp [entryFrame, mkF, argsToLocals, Value.category]; done) | rfl
def Q141 (Z : State) (ya : Addr) (yb : Addr) (ka : ClassId) (kb : ClassId) (d0 : Int32) (h0 : Heap) (n0 : Nat) (v : Option Value) (h : Heap) (L : List Loc) : Prop := v = some (.int (1 : Int32)) ∧ Fr n0 L ∧ Keep h0 h [yb] ∧ Arv Z h yb kb .byte (1 : Int32) [(.int (nar .byte (d0.toInt8.toInt32)))] (.int (0 : Int32))
set_option maxRecDepth 65536 in
set_option maxHeartbeats 40000000 in
theorem rm141 (l : Launch) (Z : State) (a0 : Array Value) (hw : ∀ d ∈ tables_1, d.before a0 Z = true) (ws : List Jvm.Cond) (ya : Addr) (yb : Addr) (ka : ClassId) (kb : ClassId) (d0 : Int32) (h0 : Heap) (n0 : Nat) (Z0 : n0 ≤ h0.size) (f0_ya : Arv Z h0 ya ka .char (1 : Int32) [(.int d0)] (.int (0 : Int32))) (f1_yb : Arv Z h0 yb kb .byte (1 : Int32) [(.int (0 : Int32))] (.int (0 : Int32))) (ne_ya_yb : ya ≠ yb) (g_yb : n0 ≤ yb) (hd0 : ¬ (255 : Int32) < d0) :
    MetFree l (⟨"java/lang/StringUTF16", "compress", "([CI[BII)I"⟩ : MethodName) (head1 (Jvm.Cond.code (⟨"java/lang/StringUTF16", "compress", "([CI[BII)I"⟩ : MethodName) jdk_52_method_21_code 7 (some .int) :: ws) ({ frames := 0, cells := 0, slots := 0, locals := 0 } : Room)) (fun a U => a = #[(.ref ya), (.int 0), (.ref yb), (.int 0), (.int 1)] ∧ Z.Warmed39 U.vm ∧ U.heap = h0) (fun _ _ _ _ _ => True) (fun _ U o U' => ∃ v L, o = .returned v ∧ Q141 Z ya yb ka kb d0 h0 n0 v U'.heap L ∧ FrameEnd U o U' L 0 0) := by
  refine MetFree.of_bodySF (plainFor_of_name pn_105) hisR ?_
  intro p e s m args below meth c s₁ Bd hml0 hP hK
  obtain ⟨rfl,hZ,hh⟩ := hP
  have hx := Bd.exec
  have hby := Bd.bytes
  have hml : c.maxLocals = 7 := hml0
  have hown : s.vm.findClass "java/lang/StringUTF16" = some m.cls := findClass_of_methodNamed Bd.named
  have hnm := (name_of_methodNamed Bd.named Bd.method).1
  have X0 : Stand p l e ({ frames := 0,cells := 0,slots := 0,locals := 0 } : Room) s m #[(.ref ya),(.int 0),(.ref yb),(.int 0),(.int 1)] below meth c s₁ [] 0 0 := Stand.of_body Bd
  have e0 : s₁.heap = h0 := by rw [← hh,Bd.state]; rfl
  have N0 := Fr.nil n0
  refine own_start (Q := fun v h L => Q141 Z ya yb ka kb d0 h0 n0 v h L) ?_
  refine gv s₁ 0 #[sR ya,sI 0,sR yb,sI 0,sI 1,sU,sU] [] (fun t k => castTop (ef_141 m ya yb) k) ?_
  refine gv s₁ 1 #[sR ya,sI 0,sR yb,sI 0,sI 1,sU,sU] [(.int 0)] (fun t k => XS.iconst X0.here hx rfl (hb hby d14_0) k) ?_
  refine gv s₁ 3 #[sR ya,sI 0,sR yb,sI 0,sI 1,sI 0,sU] [] (fun t k => XS.istore X0.here hx rfl (hb hby d14_1) rfl (l' := #[sR ya,sI 0,sR yb,sI 0,sI 1,sI 0,sU]) rfl k) ?_
  refine gv s₁ 5 #[sR ya,sI 0,sR yb,sI 0,sI 1,sI 0,sU] [(.int 0)] (fun t k => XS.iload X0.here hx rfl (hb hby d14_3) rfl k) ?_
  refine gv s₁ 7 #[sR ya,sI 0,sR yb,sI 0,sI 1,sI 0,sU] [(.int 1),(.int 0)] (fun t k => XS.iload X0.here hx rfl (hb hby d14_5) rfl k) ?_
  refine gv s₁ 10 #[sR ya,sI 0,sR yb,sI 0,sI 1,sI 0,sU] [] (fun t k => XS.icmpNo X0.here hx rfl (hb hby d14_7) rfl (tlt (by decide : ((0 : Int32) < (1 : Int32)))).2.1 k) ?_
  refine gv s₁ 11 #[sR ya,sI 0,sR yb,sI 0,sI 1,sI 0,sU] [(.ref ya)] (fun t k => XS.aloadN X0.here hx rfl (hb hby d14_10) rfl rfl k) ?_
  refine gv s₁ 12 #[sR ya,sI 0,sR yb,sI 0,sI 1,sI 0,sU] [(.int 0),(.ref ya)] (fun t k => XS.iloadN X0.here hx rfl (hb hby d14_11) rfl k) ?_
  obtain ⟨cl1,Ar1,q1,S1,M1,Hs1,G1⟩ := id f0_ya
  have hin1 : ¬ ((0 : Int32) < 0 ∨ cl1.slots.size ≤ ((0 : Int32)).toNatClampNeg) := inb_of S1 ⟨by decide,by decide⟩
  have hat1 : cl1.slots[((0 : Int32)).toNatClampNeg]? = some (.int d0) := Has.at Hs1 hin1 rfl
  refine gv s₁ 13 #[sR ya,sI 0,sR yb,sI 0,sI 1,sI 0,sU] [(.int d0)] (fun t k => X0.caload hx (j := (0 : Int32)) (v := (.int d0)) (by rw [e0]; exact Ar1.1) (State.isArrayOf_alike hZ.alike Ar1.2.1) Ar1.2.2 hin1 hat1 (g := (mkF m 12 #[sR ya,sI 0,sR yb,sI 0,sI 1,sI 0,sU] [(.int 0),(.ref ya)])) rfl rfl (hb hby d14_12) _ k) ?_
  refine gv s₁ 15 #[sR ya,sI 0,sR yb,sI 0,sI 1,sI 0,sI d0] [] (fun t k => XS.istore X0.here hx rfl (hb hby d14_13) rfl (l' := #[sR ya,sI 0,sR yb,sI 0,sI 1,sI 0,sI d0]) rfl k) ?_
  refine gv s₁ 17 #[sR ya,sI 0,sR yb,sI 0,sI 1,sI 0,sI d0] [(.int d0)] (fun t k => XS.iload X0.here hx rfl (hb hby d14_15) rfl k) ?_
  refine gv s₁ 20 #[sR ya,sI 0,sR yb,sI 0,sI 1,sI 0,sI d0] [(.int 255),(.int d0)] (fun t k => XS.sipush X0.here hx rfl (hb hby d14_17) k) ?_
  refine gv s₁ 26 #[sR ya,sI 0,sR yb,sI 0,sI 1,sI 0,sI d0] [] (fun t k => XS.icmpYes X0.here hx rfl (pc0 := 20) (pc' := 26) rfl (hb hby d14_20) rfl (flt hd0).2.2.2 (by decide) (by decide) k) ?_
  refine gv s₁ 27 #[sR ya,sI 0,sR yb,sI 0,sI 1,sI 0,sI d0] [(.ref yb)] (fun t k => XS.aloadN X0.here hx rfl (hb hby d14_26) rfl rfl k) ?_
  refine gv s₁ 28 #[sR ya,sI 0,sR yb,sI 0,sI 1,sI 0,sI d0] [(.int 0),(.ref yb)] (fun t k => XS.iloadN X0.here hx rfl (hb hby d14_27) rfl k) ?_
  refine gv s₁ 30 #[sR ya,sI 0,sR yb,sI 0,sI 1,sI 0,sI d0] [(.int d0),(.int 0),(.ref yb)] (fun t k => XS.iload X0.here hx rfl (hb hby d14_28) rfl k) ?_
  refine gv s₁ 31 #[sR ya,sI 0,sR yb,sI 0,sI 1,sI 0,sI d0] [(.int (d0.toInt8.toInt32)),(.int 0),(.ref yb)] (fun t k => XS.i2b X0.here hx rfl (hb hby d14_30) rfl k) ?_
  obtain ⟨cl2,Ar2,q2,S2,M2,Hs2,G2⟩ := id f1_yb
  have hin2 : ¬ ((0 : Int32) < 0 ∨ cl2.slots.size ≤ ((0 : Int32)).toNatClampNeg) := inb_of S2 ⟨by decide,by decide⟩
  obtain ⟨T2,h2,X2,e2,W2,st2⟩ := stB X0 hx hZ e0 Ar2 (j := (0 : Int32)) hin2 (g := (mkF m 31 #[sR ya,sI 0,sR yb,sI 0,sI 1,sI 0,sI d0] [(.int (d0.toInt8.toInt32)),(.int 0),(.ref yb)])) rfl rfl (hb hby d14_31)
  have f3 := f0_ya.other W2 ne_ya_yb
  have f4 : Arv Z h2 yb kb .byte (1 : Int32) [(.int (nar .byte (d0.toInt8.toInt32)))] (.int 0) := Arv.set Ar2 q2 S2 M2 Hs2 G2 (fits_nar_byte _) W2 0 rfl (Nat.le_of_ble_eq_true rfl)
  have K2 := Keep.wr (Keep.refl h0 [yb]) W2 (Or.inl (List.mem_of_getElem? (i := 0) rfl))
  have Z2 := Nat.le_trans Z0 K2.1
  have N2 := Fr.snoc X2 N0 g_yb
  refine gv T2 32 #[sR ya,sI 0,sR yb,sI 0,sI 1,sI 0,sI d0] [] (fun t k => st2 _ k) ?_
  refine gv T2 35 #[sR ya,sI 1,sR yb,sI 0,sI 1,sI 0,sI d0] [] (fun t k => XS.iinc X2.here hx rfl (hb hby d14_32) rfl (l' := #[sR ya,sI 1,sR yb,sI 0,sI 1,sI 0,sI d0]) rfl k) ?_
  refine gv T2 38 #[sR ya,sI 1,sR yb,sI 1,sI 1,sI 0,sI d0] [] (fun t k => XS.iinc X2.here hx rfl (hb hby d14_35) rfl (l' := #[sR ya,sI 1,sR yb,sI 1,sI 1,sI 0,sI d0]) rfl k) ?_
  refine gv T2 41 #[sR ya,sI 1,sR yb,sI 1,sI 1,sI 1,sI d0] [] (fun t k => XS.iinc X2.here hx rfl (hb hby d14_38) rfl (l' := #[sR ya,sI 1,sR yb,sI 1,sI 1,sI 1,sI d0]) rfl k) ?_
  refine gv T2 3 #[sR ya,sI 1,sR yb,sI 1,sI 1,sI 1,sI d0] [] (fun t k => XS.goto X2.here hx rfl (pc0 := 41) (pc' := 3) rfl (hb hby d14_41) (by decide) (by decide) k) ?_
  refine gv T2 5 #[sR ya,sI 1,sR yb,sI 1,sI 1,sI 1,sI d0] [(.int 1)] (fun t k => XS.iload X2.here hx rfl (hb hby d14_3) rfl k) ?_
  refine gv T2 7 #[sR ya,sI 1,sR yb,sI 1,sI 1,sI 1,sI d0] [(.int 1),(.int 1)] (fun t k => XS.iload X2.here hx rfl (hb hby d14_5) rfl k) ?_
  refine gv T2 44 #[sR ya,sI 1,sR yb,sI 1,sI 1,sI 1,sI d0] [] (fun t k => XS.icmpYes X2.here hx rfl (pc0 := 7) (pc' := 44) rfl (hb hby d14_7) rfl (flt (by decide : ¬ ((1 : Int32) < (1 : Int32)))).2.1 (by decide) (by decide) k) ?_
  refine gv T2 46 #[sR ya,sI 1,sR yb,sI 1,sI 1,sI 1,sI d0] [(.int 1)] (fun t k => XS.iload X2.here hx rfl (hb hby d14_44) rfl k) ?_
  exact own_ret X2 hx Bd.notSynchronized Bd.returns rfl (Or.inl ⟨rfl,by simp,_,rfl⟩) (hb hby d14_46) e2 ⟨rfl,N2,K2,f4⟩ (by decide) (by decide)
theorem d13_0 : decode jdk_52_method_16_code 0 = .ok (.iload_n 2, 1) := by decide +kernel
theorem d13_1 : decode jdk_52_method_16_code 1 = .ok (.newarray .byte, 2) := by decide +kernel
theorem d13_3 : decode jdk_52_method_16_code 3 = .ok (.astore_n 3, 1) := by decide +kernel
theorem d13_4 : decode jdk_52_method_16_code 4 = .ok (.aload_n 0, 1) := by decide +kernel
theorem d13_5 : decode jdk_52_method_16_code 5 = .ok (.iload_n 1, 1) := by decide +kernel
theorem d13_6 : decode jdk_52_method_16_code 6 = .ok (.aload_n 3, 1) := by decide +kernel
theorem d13_7 : decode jdk_52_method_16_code 7 = .ok (.iconst 0, 1) := by decide +kernel
theorem d13_8 : decode jdk_52_method_16_code 8 = .ok (.iload_n 2, 1) := by decide +kernel
theorem d13_9 : decode jdk_52_method_16_code 9 = .ok (.invokestatic 115, 3) := by decide +kernel
theorem d13_12 : decode jdk_52_method_16_code 12 = .ok (.istore 4, 2) := by decide +kernel
theorem d13_14 : decode jdk_52_method_16_code 14 = .ok (.iload 4, 2) := by decide +kernel
theorem d13_16 : decode jdk_52_method_16_code 16 = .ok (.iload_n 2, 1) := by decide +kernel
theorem d13_17 : decode jdk_52_method_16_code 17 = .ok (.if_icmp .eq 40, 3) := by decide +kernel
theorem d13_57 : decode jdk_52_method_16_code 57 = .ok (.aload_n 3, 1) := by decide +kernel
theorem d13_58 : decode jdk_52_method_16_code 58 = .ok (.areturn, 1) := by decide +kernel
theorem ef_131 (m : MethodId) (ya : Addr) : entryFrame m #[(.ref ya), (.int (0 : Int32)), (.int (1 : Int32))] 6 = mkF m 0 #[.val (.ref ya), .val (.int (0 : Int32)), .val (.int (1 : Int32)), .unset, .unset, .unset] [] := by first | (simp [entryFrame, mkF, argsToLocals, Value.category]; done) | rfl
def Q131 (Z : State) (ya : Addr) (ka : ClassId) (d0 : Int32) (h0 : Heap) (n0 : Nat) (v : Option Value) (h : Heap) (L : List Loc) : Prop := ∃ (yb : Addr) (kb : ClassId), v = some (.ref yb) ∧ Fr n0 L ∧ Keep h0 h [] ∧ Arv Z h yb kb .byte (1 : Int32) [(.int (nar .byte (d0.toInt8.toInt32)))] (.int (0 : Int32)) ∧ n0 ≤ yb ∧ h0.size ≤ yb
set_option maxRecDepth 65536 in
set_option maxHeartbeats 40000000 in
theorem rm131 (l : Launch) (Z : State) (a0 : Array Value) (hw : ∀ d ∈ tables_1, d.before a0 Z = true) (ws : List Jvm.Cond) (ya : Addr) (ka : ClassId) (d0 : Int32) (h0 : Heap) (n0 : Nat) (Z0 : n0 ≤ h0.size) (f0_ya : Arv Z h0 ya ka .char (1 : Int32) [(.int d0)] (.int (0 : Int32))) (hd0 : ¬ (255 : Int32) < d0) :
    MetFree l (⟨"java/lang/StringUTF16", "compress", "([CII)[B"⟩ : MethodName) (head1 (Jvm.Cond.code (⟨"java/lang/StringUTF16", "compress", "([CII)[B"⟩ : MethodName) jdk_52_method_16_code 6 (some (.array .byte)) :: ws) ({ frames := 1, cells := 1, slots := 1, locals := 18 } : Room)) (fun a U => a = #[(.ref ya), (.int 0), (.int 1)] ∧ Z.Warmed39 U.vm ∧ U.heap = h0) (fun _ _ _ _ _ => True) (fun _ U o U' => ∃ v L, o = .returned v ∧ Q131 Z ya ka d0 h0 n0 v U'.heap L ∧ FrameEnd U o U' L 1 1) := by
  refine MetFree.of_bodySF (plainFor_of_name pn_105) hisR ?_
  intro p e s m args below meth c s₁ Bd hml0 hP hK
  obtain ⟨rfl,hZ,hh⟩ := hP
  have hx := Bd.exec
  have hby := Bd.bytes
  have hml : c.maxLocals = 6 := hml0
  have hown : s.vm.findClass "java/lang/StringUTF16" = some m.cls := findClass_of_methodNamed Bd.named
  have hnm := (name_of_methodNamed Bd.named Bd.method).1
  have X0 : Stand p l e ({ frames := 1,cells := 1,slots := 1,locals := 18 } : Room) s m #[(.ref ya),(.int 0),(.int 1)] below meth c s₁ [] 0 0 := Stand.of_body Bd
  have e0 : s₁.heap = h0 := by rw [← hh,Bd.state]; rfl
  have N0 := Fr.nil n0
  refine own_start (Q := fun v h L => Q131 Z ya ka d0 h0 n0 v h L) ?_
  refine gv s₁ 0 #[sR ya,sI 0,sI 1,sU,sU,sU] [] (fun t k => castTop (ef_131 m ya) k) ?_
  refine gv s₁ 1 #[sR ya,sI 0,sI 1,sU,sU,sU] [(.int 1)] (fun t k => XS.iloadN X0.here hx rfl (hb hby d13_0) rfl k) ?_
  obtain ⟨T1,h1,k1,X1,e1,E1,A1,st1⟩ := newP X0 hx hZ (w_ hw 10 rfl) e0 (g := (mkF m 1 #[sR ya,sI 0,sI 1,sU,sU,sU] [(.int 1)])) rfl (hb hby d13_1) rfl (by decide) (cap := 1) (by decide) (by decide) (by decide) (by decide)
  obtain ⟨b1,g1⟩ : ∃ z,z = h0.size := ⟨_,rfl⟩
  rw [← g1] at A1 st1
  have f2 := f0_ya.ext E1
  have K1 := Keep.ext (Keep.refl h0 []) E1
  have Z1 := Nat.le_trans Z0 K1.1
  have g_b1 : n0 ≤ b1 := Nat.le_trans Z0 (Nat.le_of_eq g1.symm)
  have sz_b1 : h0.size ≤ b1 := Nat.le_trans ((Keep.refl h0 [])).1 (Nat.le_of_eq g1.symm)
  have ne_ya_b1 : ya ≠ b1 := Nat.ne_of_lt (Nat.lt_of_lt_of_le f0_ya.lt (Nat.le_of_eq g1.symm))
  have f3 : Arv Z h1 b1 k1 .byte (1 : Int32) [(.int 0)] (.int 0) := (Arv.new A1 (by decide)).pad (pad_rep [] (.int 0) 1)
  refine gv T1 3 #[sR ya,sI 0,sI 1,sU,sU,sU] [(.ref b1)] (fun t k => st1 _ k) ?_
  refine gv T1 4 #[sR ya,sI 0,sI 1,sR b1,sU,sU] [] (fun t k => XS.astoreN X1.here hx rfl (hb hby d13_3) rfl rfl (l' := #[sR ya,sI 0,sI 1,sR b1,sU,sU]) rfl k) ?_
  refine gv T1 5 #[sR ya,sI 0,sI 1,sR b1,sU,sU] [(.ref ya)] (fun t k => XS.aloadN X1.here hx rfl (hb hby d13_4) rfl rfl k) ?_
  refine gv T1 6 #[sR ya,sI 0,sI 1,sR b1,sU,sU] [(.int 0),(.ref ya)] (fun t k => XS.iloadN X1.here hx rfl (hb hby d13_5) rfl k) ?_
  refine gv T1 7 #[sR ya,sI 0,sI 1,sR b1,sU,sU] [(.ref b1),(.int 0),(.ref ya)] (fun t k => XS.aloadN X1.here hx rfl (hb hby d13_6) rfl rfl k) ?_
  refine gv T1 8 #[sR ya,sI 0,sI 1,sR b1,sU,sU] [(.int 0),(.ref b1),(.int 0),(.ref ya)] (fun t k => XS.iconst X1.here hx rfl (hb hby d13_7) k) ?_
  refine gv T1 9 #[sR ya,sI 0,sI 1,sR b1,sU,sU] [(.int 1),(.int 0),(.ref b1),(.int 0),(.ref ya)] (fun t k => XS.iloadN X1.here hx rfl (hb hby d13_8) rfl k) ?_
  obtain ⟨_,_,⟨T4,L4,k4,n4⟩,-,X4,⟨Lc4,hQ4,l4,y4,z4⟩,st4⟩ := Jvm.LawKit.callS X1 hx (y := (⟨"java/lang/StringUTF16","compress","([CI[BII)I"⟩ : MethodName)) hown (mvT hZ (w_ hw 66 rfl)) (mvT hZ (w_ hw 67 rfl)) (mvT hZ (w_ hw 64 rfl)) (mvT hZ (w_ hw 68 rfl)) (by decide) (backOf (W := 0) (rm141 l Z a0 hw [] ya b1 ka k1 d0 h1 n0 Z1 f2 f3 ne_ya_b1 g_b1 hd0) hZ (w_ hw 68 rfl) (w_ hw 64 rfl) (by decide) (by decide)) (g := (mkF m 9 #[sR ya,sI 0,sI 1,sR b1,sU,sU] [(.int 1),(.int 0),(.ref b1),(.int 0),(.ref ya)])) rfl (by rw [hml]; rfl) (argsL := [(.ref ya),(.int 0),(.ref b1),(.int 0),(.int 1)]) (rest := []) (lenOf pd_8 rfl) rfl (own_rm rfl) (hb hby d13_9) (fun _ _ => ⟨rfl,e1,(by decide : 1 + 0 ≤ _),(by decide : 1 + 0 ≤ _)⟩)
  dsimp only [Pt.U, Pt.locs, Pt.cells, Pt.slots] at X4 l4 y4 z4 st4 hQ4
  replace X4 := own_cast X4 l4 y4 z4
  obtain ⟨rfl,N4q,K4q,po4_0⟩ := hQ4
  have N4 := Fr.app N0 N4q
  have f5 := f2.keep K4q (ninS ne_ya_b1 nin0)
  have K4 := Keep.trans K1 K4q (allS (Or.inr sz_b1) all0)
  have Z4 := Nat.le_trans Z0 K4.1
  refine gv T4 12 #[sR ya,sI 0,sI 1,sR b1,sU,sU] [(.int 1)] (fun t k => st4 _ k) ?_
  refine gv T4 14 #[sR ya,sI 0,sI 1,sR b1,sI 1,sU] [] (fun t k => XS.istore X4.here hx rfl (hb hby d13_12) rfl (l' := #[sR ya,sI 0,sI 1,sR b1,sI 1,sU]) rfl k) ?_
  refine gv T4 16 #[sR ya,sI 0,sI 1,sR b1,sI 1,sU] [(.int 1)] (fun t k => XS.iload X4.here hx rfl (hb hby d13_14) rfl k) ?_
  refine gv T4 17 #[sR ya,sI 0,sI 1,sR b1,sI 1,sU] [(.int 1),(.int 1)] (fun t k => XS.iloadN X4.here hx rfl (hb hby d13_16) rfl k) ?_
  refine gv T4 57 #[sR ya,sI 0,sI 1,sR b1,sI 1,sU] [] (fun t k => XS.icmpYes X4.here hx rfl (pc0 := 17) (pc' := 57) rfl (hb hby d13_17) rfl (teq rfl).1 (by decide) (by decide) k) ?_
  refine gv T4 58 #[sR ya,sI 0,sI 1,sR b1,sI 1,sU] [(.ref b1)] (fun t k => XS.aloadN X4.here hx rfl (hb hby d13_57) rfl rfl k) ?_
  exact own_ret X4 hx Bd.notSynchronized Bd.returns rfl (Or.inr (Or.inr (Or.inr (Or.inr ⟨rfl,rfl,rfl⟩)))) (hb hby d13_58) rfl ⟨b1,k1,rfl,N4,K4,po4_0,g_b1,sz_b1⟩ (by decide) (by decide)
theorem d11_0 : decode jdk_42_method_149_code 0 = .ok (.aload_n 0, 1) := by decide +kernel
theorem d11_1 : decode jdk_42_method_149_code 1 = .ok (.invokespecial 1, 3) := by decide +kernel
theorem d11_4 : decode jdk_42_method_149_code 4 = .ok (.iload_n 3, 1) := by decide +kernel
theorem d11_5 : decode jdk_42_method_149_code 5 = .ok (.ifCond .ne 22, 3) := by decide +kernel
theorem d11_27 : decode jdk_42_method_149_code 27 = .ok (.getstatic 38, 3) := by decide +kernel
theorem d11_30 : decode jdk_42_method_149_code 30 = .ok (.ifCond .eq 28, 3) := by decide +kernel
theorem d11_33 : decode jdk_42_method_149_code 33 = .ok (.aload_n 1, 1) := by decide +kernel
theorem d11_34 : decode jdk_42_method_149_code 34 = .ok (.iload_n 2, 1) := by decide +kernel
theorem d11_35 : decode jdk_42_method_149_code 35 = .ok (.iload_n 3, 1) := by decide +kernel
theorem d11_36 : decode jdk_42_method_149_code 36 = .ok (.invokestatic 177, 3) := by decide +kernel
theorem d11_39 : decode jdk_42_method_149_code 39 = .ok (.astore 5, 2) := by decide +kernel
theorem d11_41 : decode jdk_42_method_149_code 41 = .ok (.aload_n 0, 1) := by decide +kernel
theorem d11_42 : decode jdk_42_method_149_code 42 = .ok (.aload 5, 2) := by decide +kernel
theorem d11_44 : decode jdk_42_method_149_code 44 = .ok (.iload_n 3, 1) := by decide +kernel
theorem d11_45 : decode jdk_42_method_149_code 45 = .ok (.invokestatic 47, 3) := by decide +kernel
theorem d11_48 : decode jdk_42_method_149_code 48 = .ok (.putfield 15, 3) := by decide +kernel
theorem d11_51 : decode jdk_42_method_149_code 51 = .ok (.aload_n 0, 1) := by decide +kernel
theorem d11_52 : decode jdk_42_method_149_code 52 = .ok (.aload 5, 2) := by decide +kernel
theorem d11_54 : decode jdk_42_method_149_code 54 = .ok (.putfield 9, 3) := by decide +kernel
theorem d11_57 : decode jdk_42_method_149_code 57 = .ok (.return_, 1) := by decide +kernel
theorem ef_111 (m : MethodId) (xs : Addr) (ya : Addr) : entryFrame m #[(.ref xs), (.ref ya), (.int (0 : Int32)), (.int (1 : Int32)), .null] 6 = mkF m 0 #[.val (.ref xs), .val (.ref ya), .val (.int (0 : Int32)), .val (.int (1 : Int32)), .val .null, .unset] [] := by first | (simp [entryFrame, mkF, argsToLocals, Value.category]; done) | rfl
def Q111 (Z : State) (xs : Addr) (ya : Addr) (ka : ClassId) (wc : Int32) (u0 : Value) (u1 : Value) (d0 : Int32) (h0 : Heap) (n0 : Nat) (v : Option Value) (h : Heap) (L : List Loc) : Prop := ∃ (yb : Addr) (kb : ClassId), v = none ∧ Fr n0 L ∧ Keep h0 h [xs] ∧ Exa Z h xs "java/lang/String" ∧ Fld Z h xs "java/lang/String" "coder" "B" (.int (0 : Int32)) ∧ Fld Z h xs "java/lang/String" "value" "[B" (.ref yb) ∧ Arv Z h yb kb .byte (1 : Int32) [(.int (nar .byte (d0.toInt8.toInt32)))] (.int (0 : Int32)) ∧ n0 ≤ yb ∧ h0.size ≤ yb
set_option maxRecDepth 65536 in
set_option maxHeartbeats 40000000 in
theorem rm111 (l : Launch) (Z : State) (a0 : Array Value) (hw : ∀ d ∈ tables_1, d.before a0 Z = true) (ws : List Jvm.Cond) (xs : Addr) (ya : Addr) (ka : ClassId) (wc : Int32) (u0 : Value) (u1 : Value) (d0 : Int32) (h0 : Heap) (n0 : Nat) (Z0 : n0 ≤ h0.size) (f0_xs : Exa Z h0 xs "java/lang/String") (f1_xs_coder : Fld Z h0 xs "java/lang/String" "coder" "B" u0) (f2_xs_value : Fld Z h0 xs "java/lang/String" "value" "[B" u1) (f3_ya : Arv Z h0 ya ka .char (1 : Int32) [(.int d0)] (.int (0 : Int32))) (f4_COMPACT_STRINGS : Sta Z h0 "java/lang/String" "COMPACT_STRINGS" "Z" (.int wc)) (ne_xs_ya : xs ≠ ya) (g_xs : n0 ≤ xs) (hd0 : ¬ (255 : Int32) < d0) (hwc : ¬ wc = (0 : Int32)) :
    MetFree l (⟨"java/lang/String", "<init>", "([CIILjava/lang/Void;)V"⟩ : MethodName) (head1 (Jvm.Cond.code (⟨"java/lang/String", "<init>", "([CIILjava/lang/Void;)V"⟩ : MethodName) jdk_42_method_149_code 6 none :: ws) ({ frames := 2, cells := 1, slots := 1, locals := 35 } : Room)) (fun a U => a = #[(.ref xs), (.ref ya), (.int 0), (.int 1), .null] ∧ Z.Warmed39 U.vm ∧ U.heap = h0) (fun _ _ _ _ _ => True) (fun _ U o U' => ∃ v L, o = .returned v ∧ Q111 Z xs ya ka wc u0 u1 d0 h0 n0 v U'.heap L ∧ FrameEnd U o U' L 1 1) := by
  refine MetFree.of_bodySF (plainFor_of_name pn_6) hisR ?_
  intro p e s m args below meth c s₁ Bd hml0 hP hK
  obtain ⟨rfl,hZ,hh⟩ := hP
  have hx := Bd.exec
  have hby := Bd.bytes
  have hml : c.maxLocals = 6 := hml0
  have hown : s.vm.findClass "java/lang/String" = some m.cls := findClass_of_methodNamed Bd.named
  have hnm := (name_of_methodNamed Bd.named Bd.method).1
  have X0 : Stand p l e ({ frames := 2,cells := 1,slots := 1,locals := 35 } : Room) s m #[(.ref xs),(.ref ya),(.int 0),(.int 1),.null] below meth c s₁ [] 0 0 := Stand.of_body Bd
  have e0 : s₁.heap = h0 := by rw [← hh,Bd.state]; rfl
  have N0 := Fr.nil n0
  refine own_start (Q := fun v h L => Q111 Z xs ya ka wc u0 u1 d0 h0 n0 v h L) ?_
  refine gv s₁ 0 #[sR xs,sR ya,sI 0,sI 1,.val .null,sU] [] (fun t k => castTop (ef_111 m xs ya) k) ?_
  refine gv s₁ 1 #[sR xs,sR ya,sI 0,sI 1,.val .null,sU] [(.ref xs)] (fun t k => XS.aloadN X0.here hx rfl (hb hby d11_0) rfl rfl k) ?_
  obtain ⟨T1,X1,e1,st1⟩ := initO X0 hx hZ hown (w_ hw 59 rfl) (w_ hw 60 rfl) (w_ hw 61 rfl) e0 (g := (mkF m 1 #[sR xs,sR ya,sI 0,sI 1,.val .null,sU] [(.ref xs)])) rfl (by rw [hml]; rfl) rfl (hb hby d11_1) (by decide) (W := 0) (own_rm rfl) (by decide)
  refine gv T1 4 #[sR xs,sR ya,sI 0,sI 1,.val .null,sU] [] (fun t k => st1 _ k) ?_
  refine gv T1 5 #[sR xs,sR ya,sI 0,sI 1,.val .null,sU] [(.int 1)] (fun t k => XS.iloadN X1.here hx rfl (hb hby d11_4) rfl k) ?_
  refine gv T1 27 #[sR xs,sR ya,sI 0,sI 1,.val .null,sU] [] (fun t k => XS.ifYes X1.here hx rfl (pc0 := 5) (pc' := 27) rfl (hb hby d11_5) rfl ((if0 _ _).trans (feq (by decide : ¬ ((1 : Int32) = (0 : Int32)))).2) (by decide) (by decide) k) ?_
  obtain ⟨T2,X2,e2,st2⟩ := getS2 X1 hx hZ hown (host := "") (Or.inl (w_ hw 26 rfl)) Via.refl e1 f4_COMPACT_STRINGS (g := (mkF m 27 #[sR xs,sR ya,sI 0,sI 1,.val .null,sU] [])) rfl (hb hby d11_27)
  refine gv T2 30 #[sR xs,sR ya,sI 0,sI 1,.val .null,sU] [(.int wc)] (fun t k => st2 _ k) ?_
  refine gv T2 33 #[sR xs,sR ya,sI 0,sI 1,.val .null,sU] [] (fun t k => XS.ifNo X2.here hx rfl (hb hby d11_30) rfl ((if0 _ _).trans (feq hwc).1) k) ?_
  refine gv T2 34 #[sR xs,sR ya,sI 0,sI 1,.val .null,sU] [(.ref ya)] (fun t k => XS.aloadN X2.here hx rfl (hb hby d11_33) rfl rfl k) ?_
  refine gv T2 35 #[sR xs,sR ya,sI 0,sI 1,.val .null,sU] [(.int 0),(.ref ya)] (fun t k => XS.iloadN X2.here hx rfl (hb hby d11_34) rfl k) ?_
  refine gv T2 36 #[sR xs,sR ya,sI 0,sI 1,.val .null,sU] [(.int 1),(.int 0),(.ref ya)] (fun t k => XS.iloadN X2.here hx rfl (hb hby d11_35) rfl k) ?_
  obtain ⟨_,_,⟨T3,L3,k3,n3⟩,-,X3,⟨Lc3,hQ3,l3,y3,z3⟩,st3⟩ := Jvm.LawKit.callS X2 hx (y := (⟨"java/lang/StringUTF16","compress","([CII)[B"⟩ : MethodName)) hown (mvT hZ (w_ hw 62 rfl)) (mvT hZ (w_ hw 63 rfl)) (mvT hZ (w_ hw 64 rfl)) (mvT hZ (w_ hw 65 rfl)) (by decide) (backOf (W := 0) (rm131 l Z a0 hw [] ya ka d0 h0 n0 Z0 f3_ya hd0) hZ (w_ hw 65 rfl) (w_ hw 64 rfl) (by decide) (by decide)) (g := (mkF m 36 #[sR xs,sR ya,sI 0,sI 1,.val .null,sU] [(.int 1),(.int 0),(.ref ya)])) rfl (by rw [hml]; rfl) (argsL := [(.ref ya),(.int 0),(.int 1)]) (rest := []) (lenOf pd_9 rfl) rfl (own_rm rfl) (hb hby d11_36) (fun _ _ => ⟨rfl,e2,(by decide : 0 + 1 ≤ _),(by decide : 0 + 1 ≤ _)⟩)
  dsimp only [Pt.U, Pt.locs, Pt.cells, Pt.slots] at X3 l3 y3 z3 st3 hQ3
  replace X3 := own_cast X3 l3 y3 z3
  obtain ⟨yb_3,kb_3,rfl,N3q,K3q,po3_0,px3_g_yb,px3_sz_yb⟩ := hQ3
  have N3 := Fr.app N0 N3q
  have f4 := f0_xs.keep K3q
  have f5 := f1_xs_coder.keep K3q nin0
  have f6 := f2_xs_value.keep K3q nin0
  have f7 := f3_ya.keep K3q nin0
  have f8 : Sta Z T3.heap "java/lang/String" "COMPACT_STRINGS" "Z" (.int wc) := own_staKeep f4_COMPACT_STRINGS K3q all0
  have K3 := Keep.trans (Keep.refl h0 [xs]) K3q all0
  have Z3 := Nat.le_trans Z0 K3.1
  have g_yb_3 := px3_g_yb
  have sz_yb_3 : h0.size ≤ yb_3 := Nat.le_trans ((Keep.refl h0 [xs])).1 px3_sz_yb
  have ne_xs_yb_3 : xs ≠ yb_3 := Nat.ne_of_lt (Nat.lt_of_lt_of_le f0_xs.lt px3_sz_yb)
  have ne_ya_yb_3 : ya ≠ yb_3 := Nat.ne_of_lt (Nat.lt_of_lt_of_le f3_ya.lt px3_sz_yb)
  refine gv T3 39 #[sR xs,sR ya,sI 0,sI 1,.val .null,sU] [(.ref yb_3)] (fun t k => st3 _ k) ?_
  refine gv T3 41 #[sR xs,sR ya,sI 0,sI 1,.val .null,sR yb_3] [] (fun t k => XS.astore X3.here hx rfl (hb hby d11_39) rfl rfl (l' := #[sR xs,sR ya,sI 0,sI 1,.val .null,sR yb_3]) rfl k) ?_
  refine gv T3 42 #[sR xs,sR ya,sI 0,sI 1,.val .null,sR yb_3] [(.ref xs)] (fun t k => XS.aloadN X3.here hx rfl (hb hby d11_41) rfl rfl k) ?_
  refine gv T3 44 #[sR xs,sR ya,sI 0,sI 1,.val .null,sR yb_3] [(.ref yb_3),(.ref xs)] (fun t k => XS.aload X3.here hx rfl (hb hby d11_42) rfl rfl k) ?_
  refine gv T3 45 #[sR xs,sR ya,sI 0,sI 1,.val .null,sR yb_3] [(.int 1),(.ref yb_3),(.ref xs)] (fun t k => XS.iloadN X3.here hx rfl (hb hby d11_44) rfl k) ?_
  obtain ⟨_,_,⟨T9,L9,k9,n9⟩,-,X9,⟨Lc9,hQ9,l9,y9,z9⟩,st9⟩ := Jvm.LawKit.callS X3 hx (y := (⟨"java/lang/StringUTF16","coderFromArrayLen","([BI)B"⟩ : MethodName)) hown (mvT hZ (w_ hw 69 rfl)) (mvT hZ (w_ hw 70 rfl)) (mvT hZ (w_ hw 64 rfl)) (mvT hZ (w_ hw 71 rfl)) (by decide) (backOf (W := 1) (rm151 l Z a0 hw [] yb_3 kb_3 ([(.int (nar .byte (d0.toInt8.toInt32)))] : List Value) T3.heap n0 Z3 po3_0) hZ (w_ hw 71 rfl) (w_ hw 64 rfl) (by decide) (by decide)) (g := (mkF m 45 #[sR xs,sR ya,sI 0,sI 1,.val .null,sR yb_3] [(.int 1),(.ref yb_3),(.ref xs)])) rfl (by rw [hml]; rfl) (argsL := [(.ref yb_3),(.int 1)]) (rest := [(.ref xs)]) (lenOf pd_10 rfl) rfl (own_rm rfl) (hb hby d11_45) (fun _ _ => ⟨rfl,rfl,(by decide : 1 + 0 ≤ _),(by decide : 1 + 0 ≤ _)⟩)
  dsimp only [Pt.U, Pt.locs, Pt.cells, Pt.slots] at X9 l9 y9 z9 st9 hQ9
  replace X9 := own_cast X9 l9 y9 z9
  obtain ⟨rfl,N9q,eq9⟩ := hQ9
  have N9 := Fr.app N3 N9q
  refine gv T9 48 #[sR xs,sR ya,sI 0,sI 1,.val .null,sR yb_3] [(.int 0),(.ref xs)] (fun t k => st9 _ k) ?_
  obtain ⟨T10,h10,X10,e10,W10,st10⟩ := putFN X9 hx hZ hown (w_ hw 27 rfl) Via.refl eq9 f5 f4 (Or.inr ⟨(w_ hw 12 rfl),rfl,hnm⟩) (w_ hw 9 rfl) (ty := .byte) (v' := (.int 0)) (by decide) rfl rfl (g := (mkF m 48 #[sR xs,sR ya,sI 0,sI 1,.val .null,sR yb_3] [(.int 0),(.ref xs)])) rfl rfl (hb hby d11_48)
  have f11 := f4.wr W10
  have f12 := f6.other W10 (Or.inr (slot_ne (Or.inr (w_ hw 11 rfl)) (Or.inr (w_ hw 12 rfl)) (by decide) (t := (.array .byte)) (t' := .byte) (by decide) (by decide)))
  have f13 := f7.other W10 (Ne.symm ne_xs_ya)
  have f14 := f8.wr W10
  have f15 := po3_0.other W10 (Ne.symm ne_xs_yb_3)
  have f16 : Fld Z h10 xs "java/lang/String" "coder" "B" (.int 0) := f5.same W10
  have K10 := Keep.wr K3 W10 (Or.inl (List.mem_of_getElem? (i := 0) rfl))
  have Z10 := Nat.le_trans Z0 K10.1
  have N10 := Fr.snoc X10 N9 g_xs
  refine gv T10 51 #[sR xs,sR ya,sI 0,sI 1,.val .null,sR yb_3] [] (fun t k => st10 _ k) ?_
  refine gv T10 52 #[sR xs,sR ya,sI 0,sI 1,.val .null,sR yb_3] [(.ref xs)] (fun t k => XS.aloadN X10.here hx rfl (hb hby d11_51) rfl rfl k) ?_
  refine gv T10 54 #[sR xs,sR ya,sI 0,sI 1,.val .null,sR yb_3] [(.ref yb_3),(.ref xs)] (fun t k => XS.aload X10.here hx rfl (hb hby d11_52) rfl rfl k) ?_
  obtain ⟨T17,h17,X17,e17,W17,st17⟩ := putF X10 hx hZ hown (host := "") (Or.inl (w_ hw 20 rfl)) Via.refl e10 f12 f11 (Or.inr ⟨(w_ hw 11 rfl),rfl,hnm⟩) (w_ hw 9 rfl) (ty := (.array .byte)) (by decide) rfl rfl (g := (mkF m 54 #[sR xs,sR ya,sI 0,sI 1,.val .null,sR yb_3] [(.ref yb_3),(.ref xs)])) rfl rfl (hb hby d11_54)
  have f18 := f11.wr W17
  have f19 := f13.other W17 (Ne.symm ne_xs_ya)
  have f20 := f14.wr W17
  have f21 := f15.other W17 (Ne.symm ne_xs_yb_3)
  have f22 := f16.other W17 (Or.inr (slot_ne (Or.inr (w_ hw 12 rfl)) (Or.inr (w_ hw 11 rfl)) (by decide) (t := .byte) (t' := (.array .byte)) (by decide) (by decide)))
  have f23 : Fld Z h17 xs "java/lang/String" "value" "[B" (.ref yb_3) := f12.same W17
  have K17 := Keep.wr K10 W17 (Or.inl (List.mem_of_getElem? (i := 0) rfl))
  have Z17 := Nat.le_trans Z0 K17.1
  have N17 := Fr.snoc X17 N10 g_xs
  refine gv T17 57 #[sR xs,sR ya,sI 0,sI 1,.val .null,sR yb_3] [] (fun t k => st17 _ k) ?_
  exact own_retV X17 hx Bd.notSynchronized Bd.returns (hb hby d11_57) e17 ⟨yb_3,kb_3,rfl,N17,K17,f18,f22,f23,f21,g_yb_3,sz_yb_3⟩ (by decide) (by decide)
theorem d10_0 : decode jdk_42_method_3_code 0 = .ok (.aload_n 0, 1) := by decide +kernel
theorem d10_1 : decode jdk_42_method_3_code 1 = .ok (.aload_n 1, 1) := by decide +kernel
theorem d10_2 : decode jdk_42_method_3_code 2 = .ok (.iconst 0, 1) := by decide +kernel
theorem d10_3 : decode jdk_42_method_3_code 3 = .ok (.aload_n 1, 1) := by decide +kernel
theorem d10_4 : decode jdk_42_method_3_code 4 = .ok (.arraylength, 1) := by decide +kernel
theorem d10_5 : decode jdk_42_method_3_code 5 = .ok (.aconst_null, 1) := by decide +kernel
theorem d10_6 : decode jdk_42_method_3_code 6 = .ok (.invokespecial 27, 3) := by decide +kernel
theorem d10_9 : decode jdk_42_method_3_code 9 = .ok (.return_, 1) := by decide +kernel
theorem ef_101 (m : MethodId) (xs : Addr) (ya : Addr) : entryFrame m #[(.ref xs), (.ref ya)] 2 = mkF m 0 #[.val (.ref xs), .val (.ref ya)] [] := by first | (simp [entryFrame, mkF, argsToLocals, Value.category]; done) | rfl
def Q101 (Z : State) (xs : Addr) (ya : Addr) (ka : ClassId) (wc : Int32) (u0 : Value) (u1 : Value) (d0 : Int32) (h0 : Heap) (n0 : Nat) (v : Option Value) (h : Heap) (L : List Loc) : Prop := ∃ (yb : Addr) (kb : ClassId), v = none ∧ Fr n0 L ∧ Keep h0 h [xs] ∧ Exa Z h xs "java/lang/String" ∧ Fld Z h xs "java/lang/String" "coder" "B" (.int (0 : Int32)) ∧ Fld Z h xs "java/lang/String" "value" "[B" (.ref yb) ∧ Arv Z h yb kb .byte (1 : Int32) [(.int (nar .byte (d0.toInt8.toInt32)))] (.int (0 : Int32)) ∧ n0 ≤ yb ∧ h0.size ≤ yb
set_option maxRecDepth 65536 in
set_option maxHeartbeats 40000000 in
theorem rm101 (l : Launch) (Z : State) (a0 : Array Value) (hw : ∀ d ∈ tables_1, d.before a0 Z = true) (ws : List Jvm.Cond) (xs : Addr) (ya : Addr) (ka : ClassId) (wc : Int32) (u0 : Value) (u1 : Value) (d0 : Int32) (h0 : Heap) (n0 : Nat) (Z0 : n0 ≤ h0.size) (f0_xs : Exa Z h0 xs "java/lang/String") (f1_xs_coder : Fld Z h0 xs "java/lang/String" "coder" "B" u0) (f2_xs_value : Fld Z h0 xs "java/lang/String" "value" "[B" u1) (f3_ya : Arv Z h0 ya ka .char (1 : Int32) [(.int d0)] (.int (0 : Int32))) (f4_COMPACT_STRINGS : Sta Z h0 "java/lang/String" "COMPACT_STRINGS" "Z" (.int wc)) (ne_xs_ya : xs ≠ ya) (g_xs : n0 ≤ xs) (hd0 : ¬ (255 : Int32) < d0) (hwc : ¬ wc = (0 : Int32)) :
    MetFree l (⟨"java/lang/String", "<init>", "([C)V"⟩ : MethodName) (head1 (Jvm.Cond.code (⟨"java/lang/String", "<init>", "([C)V"⟩ : MethodName) jdk_42_method_3_code 2 none :: ws) ({ frames := 3, cells := 1, slots := 1, locals := 52 } : Room)) (fun a U => a = #[(.ref xs), (.ref ya)] ∧ Z.Warmed39 U.vm ∧ U.heap = h0) (fun _ _ _ _ _ => True) (fun _ U o U' => ∃ v L, o = .returned v ∧ Q101 Z xs ya ka wc u0 u1 d0 h0 n0 v U'.heap L ∧ FrameEnd U o U' L 1 1) := by
  refine MetFree.of_bodySF (plainFor_of_name pn_6) hisR ?_
  intro p e s m args below meth c s₁ Bd hml0 hP hK
  obtain ⟨rfl,hZ,hh⟩ := hP
  have hx := Bd.exec
  have hby := Bd.bytes
  have hml : c.maxLocals = 2 := hml0
  have hown : s.vm.findClass "java/lang/String" = some m.cls := findClass_of_methodNamed Bd.named
  have hnm := (name_of_methodNamed Bd.named Bd.method).1
  have X0 : Stand p l e ({ frames := 3,cells := 1,slots := 1,locals := 52 } : Room) s m #[(.ref xs),(.ref ya)] below meth c s₁ [] 0 0 := Stand.of_body Bd
  have e0 : s₁.heap = h0 := by rw [← hh,Bd.state]; rfl
  have N0 := Fr.nil n0
  refine own_start (Q := fun v h L => Q101 Z xs ya ka wc u0 u1 d0 h0 n0 v h L) ?_
  refine gv s₁ 0 #[sR xs,sR ya] [] (fun t k => castTop (ef_101 m xs ya) k) ?_
  refine gv s₁ 1 #[sR xs,sR ya] [(.ref xs)] (fun t k => XS.aloadN X0.here hx rfl (hb hby d10_0) rfl rfl k) ?_
  refine gv s₁ 2 #[sR xs,sR ya] [(.ref ya),(.ref xs)] (fun t k => XS.aloadN X0.here hx rfl (hb hby d10_1) rfl rfl k) ?_
  refine gv s₁ 3 #[sR xs,sR ya] [(.int 0),(.ref ya),(.ref xs)] (fun t k => XS.iconst X0.here hx rfl (hb hby d10_2) k) ?_
  refine gv s₁ 4 #[sR xs,sR ya] [(.ref ya),(.int 0),(.ref ya),(.ref xs)] (fun t k => XS.aloadN X0.here hx rfl (hb hby d10_3) rfl rfl k) ?_
  obtain ⟨cl1,Ar1,q1,S1,M1,Hs1,G1⟩ := id f3_ya
  refine gv s₁ 5 #[sR xs,sR ya] [(.int 1),(.int 0),(.ref ya),(.ref xs)] (fun t k => X0.arraylength hx (by rw [e0]; exact Ar1.1) (State.isArrayOf_alike hZ.alike Ar1.2.1) (g := (mkF m 4 #[sR xs,sR ya] [(.ref ya),(.int 0),(.ref ya),(.ref xs)])) rfl rfl (hb hby d10_4) _ (by rw [len_of S1 M1]; exact k)) ?_
  refine gv s₁ 6 #[sR xs,sR ya] [.null,(.int 1),(.int 0),(.ref ya),(.ref xs)] (fun t k => XS.aconstNull X0.here hx rfl (hb hby d10_5) k) ?_
  obtain ⟨_,_,⟨T2,L2,k2,n2⟩,-,X2,⟨Lc2,hQ2,l2,y2,z2⟩,st2⟩ := X0.specialBack hx (y := (⟨"java/lang/String","<init>","([CIILjava/lang/Void;)V"⟩ : MethodName)) rfl hown (mvT hZ (w_ hw 55 rfl)) (mvT hZ (w_ hw 56 rfl)) (mvT hZ (w_ hw 58 rfl)) (by decide) (backOf (W := 0) (rm111 l Z a0 hw [] xs ya ka wc u0 u1 d0 h0 n0 Z0 f0_xs f1_xs_coder f2_xs_value f3_ya f4_COMPACT_STRINGS ne_xs_ya g_xs hd0 hwc) hZ (w_ hw 58 rfl) (w_ hw 8 rfl) (by decide) (by decide)) (g := (mkF m 6 #[sR xs,sR ya] [.null,(.int 1),(.int 0),(.ref ya),(.ref xs)])) rfl (by rw [hml]; rfl) (Steps.refl _) (a := xs) (argsL := [(.ref ya),(.int 0),(.int 1),.null]) (rest := []) (lenOf pd_11 rfl) rfl (own_rm rfl) (hb hby d10_6) (fun _ _ => ⟨rfl,e0,(by decide : 0 + 1 ≤ _),(by decide : 0 + 1 ≤ _)⟩)
  dsimp only [Pt.U, Pt.locs, Pt.cells, Pt.slots] at X2 l2 y2 z2 st2 hQ2
  replace X2 := own_cast X2 l2 y2 z2
  obtain ⟨yb_2,kb_2,rfl,N2q,K2q,po2_0,po2_1,po2_2,po2_3,px2_g_yb,px2_sz_yb⟩ := hQ2
  have N2 := Fr.app N0 N2q
  have f3 := f0_xs.keep K2q
  have f4 := f3_ya.keep K2q (ninS (Ne.symm ne_xs_ya) nin0)
  have f5 : Sta Z T2.heap "java/lang/String" "COMPACT_STRINGS" "Z" (.int wc) := own_staKeep f4_COMPACT_STRINGS K2q (allS (own_nst f0_xs) all0)
  have K2 := Keep.trans (Keep.refl h0 [xs]) K2q (allS (Or.inl (List.mem_of_getElem? (i := 0) rfl)) all0)
  have Z2 := Nat.le_trans Z0 K2.1
  have g_yb_2 := px2_g_yb
  have sz_yb_2 : h0.size ≤ yb_2 := Nat.le_trans ((Keep.refl h0 [xs])).1 px2_sz_yb
  have ne_xs_yb_2 : xs ≠ yb_2 := Nat.ne_of_lt (Nat.lt_of_lt_of_le f0_xs.lt px2_sz_yb)
  have ne_ya_yb_2 : ya ≠ yb_2 := Nat.ne_of_lt (Nat.lt_of_lt_of_le f3_ya.lt px2_sz_yb)
  refine gv T2 9 #[sR xs,sR ya] [] (fun t k => st2.trans k) ?_
  exact own_retV X2 hx Bd.notSynchronized Bd.returns (hb hby d10_9) rfl ⟨yb_2,kb_2,rfl,N2,K2,po2_0,po2_1,po2_2,po2_3,g_yb_2,sz_yb_2⟩ (by decide) (by decide)
theorem ef_152 (m : MethodId) (ya : Addr) : entryFrame m #[(.ref ya), (.int (2 : Int32))] 2 = mkF m 0 #[.val (.ref ya), .val (.int (2 : Int32))] [] := by first | (simp [entryFrame, mkF, argsToLocals, Value.category]; done) | rfl
def Q152 (Z : State) (ya : Addr) (ka : ClassId) (vs : List Value) (h0 : Heap) (n0 : Nat) (v : Option Value) (h : Heap) (L : List Loc) : Prop := v = some (.int (0 : Int32)) ∧ Fr n0 L ∧ h = h0
set_option maxRecDepth 65536 in
set_option maxHeartbeats 40000000 in
theorem rm152 (l : Launch) (Z : State) (a0 : Array Value) (hw : ∀ d ∈ tables_1, d.before a0 Z = true) (ws : List Jvm.Cond) (ya : Addr) (ka : ClassId) (vs : List Value) (h0 : Heap) (n0 : Nat) (Z0 : n0 ≤ h0.size) (f0_ya : Arv Z h0 ya ka .byte (2 : Int32) vs (.int (0 : Int32))) :
    MetFree l (⟨"java/lang/StringUTF16", "coderFromArrayLen", "([BI)B"⟩ : MethodName) (head1 (Jvm.Cond.code (⟨"java/lang/StringUTF16", "coderFromArrayLen", "([BI)B"⟩ : MethodName) jdk_52_method_15_code 2 (some .byte) :: ws) ({ frames := 0, cells := 0, slots := 0, locals := 0 } : Room)) (fun a U => a = #[(.ref ya), (.int 2)] ∧ Z.Warmed39 U.vm ∧ U.heap = h0) (fun _ _ _ _ _ => True) (fun _ U o U' => ∃ v L, o = .returned v ∧ Q152 Z ya ka vs h0 n0 v U'.heap L ∧ FrameEnd U o U' L 0 0) := by
  refine MetFree.of_bodySF (plainFor_of_name pn_105) hisR ?_
  intro p e s m args below meth c s₁ Bd hml0 hP hK
  obtain ⟨rfl,hZ,hh⟩ := hP
  have hx := Bd.exec
  have hby := Bd.bytes
  have hml : c.maxLocals = 2 := hml0
  have hown : s.vm.findClass "java/lang/StringUTF16" = some m.cls := findClass_of_methodNamed Bd.named
  have hnm := (name_of_methodNamed Bd.named Bd.method).1
  have X0 : Stand p l e ({ frames := 0,cells := 0,slots := 0,locals := 0 } : Room) s m #[(.ref ya),(.int 2)] below meth c s₁ [] 0 0 := Stand.of_body Bd
  have e0 : s₁.heap = h0 := by rw [← hh,Bd.state]; rfl
  have N0 := Fr.nil n0
  refine own_start (Q := fun v h L => Q152 Z ya ka vs h0 n0 v h L) ?_
  refine gv s₁ 0 #[sR ya,sI 2] [] (fun t k => castTop (ef_152 m ya) k) ?_
  refine gv s₁ 1 #[sR ya,sI 2] [(.int 2)] (fun t k => XS.iloadN X0.here hx rfl (hb hby d15_0) rfl k) ?_
  refine gv s₁ 2 #[sR ya,sI 2] [(.ref ya),(.int 2)] (fun t k => XS.aloadN X0.here hx rfl (hb hby d15_1) rfl rfl k) ?_
  obtain ⟨cl1,Ar1,q1,S1,M1,Hs1,G1⟩ := id f0_ya
  refine gv s₁ 3 #[sR ya,sI 2] [(.int 2),(.int 2)] (fun t k => X0.arraylength hx (by rw [e0]; exact Ar1.1) (State.isArrayOf_alike hZ.alike Ar1.2.1) (g := (mkF m 2 #[sR ya,sI 2] [(.ref ya),(.int 2)])) rfl rfl (hb hby d15_2) _ (by rw [len_of S1 M1]; exact k)) ?_
  refine gv s₁ 4 #[sR ya,sI 2] [(.int 0)] (fun t k => XS.isub X0.here hx rfl (hb hby d15_3) rfl k) ?_
  refine gv s₁ 6 #[sR ya,sI 2] [(.int 31),(.int 0)] (fun t k => XS.bipush X0.here hx rfl (hb hby d15_4) k) ?_
  refine gv s₁ 7 #[sR ya,sI 2] [(.int 0)] (fun t k => XS.iushr X0.here hx rfl (hb hby d15_6) rfl k) ?_
  refine gv s₁ 8 #[sR ya,sI 2] [(.int 0)] (fun t k => XS.i2b X0.here hx rfl (hb hby d15_7) rfl k) ?_
  exact own_ret X0 hx Bd.notSynchronized Bd.returns rfl (Or.inl ⟨rfl,by simp,_,rfl⟩) (hb hby d15_8) e0 ⟨rfl,N0,rfl⟩ (by decide) (by decide)
theorem ef_142 (m : MethodId) (ya : Addr) (yb : Addr) : entryFrame m #[(.ref ya), (.int (0 : Int32)), (.ref yb), (.int (0 : Int32)), (.int (2 : Int32))] 7 = mkF m 0 #[.val (.ref ya), .val (.int (0 : Int32)), .val (.ref yb), .val (.int (0 : Int32)), .val (.int (2 : Int32)), .unset, .unset] [] := by first | (simp [entryFrame, mkF, argsToLocals, Value.category]; done) | rfl
def Q142 (Z : State) (ya : Addr) (yb : Addr) (ka : ClassId) (kb : ClassId) (d0 : Int32) (d1 : Int32) (h0 : Heap) (n0 : Nat) (v : Option Value) (h : Heap) (L : List Loc) : Prop := v = some (.int (2 : Int32)) ∧ Fr n0 L ∧ Keep h0 h [yb] ∧ Arv Z h yb kb .byte (2 : Int32) [(.int (nar .byte (d0.toInt8.toInt32))), (.int (nar .byte (d1.toInt8.toInt32)))] (.int (0 : Int32))
set_option maxRecDepth 65536 in
set_option maxHeartbeats 40000000 in
theorem rm142 (l : Launch) (Z : State) (a0 : Array Value) (hw : ∀ d ∈ tables_1, d.before a0 Z = true) (ws : List Jvm.Cond) (ya : Addr) (yb : Addr) (ka : ClassId) (kb : ClassId) (d0 : Int32) (d1 : Int32) (h0 : Heap) (n0 : Nat) (Z0 : n0 ≤ h0.size) (f0_ya : Arv Z h0 ya ka .char (2 : Int32) [(.int d0), (.int d1)] (.int (0 : Int32))) (f1_yb : Arv Z h0 yb kb .byte (2 : Int32) [(.int (0 : Int32)), (.int (0 : Int32))] (.int (0 : Int32))) (ne_ya_yb : ya ≠ yb) (g_yb : n0 ≤ yb) (hd0 : ¬ (255 : Int32) < d0) (hd1 : ¬ (255 : Int32) < d1) :
    MetFree l (⟨"java/lang/StringUTF16", "compress", "([CI[BII)I"⟩ : MethodName) (head1 (Jvm.Cond.code (⟨"java/lang/StringUTF16", "compress", "([CI[BII)I"⟩ : MethodName) jdk_52_method_21_code 7 (some .int) :: ws) ({ frames := 0, cells := 0, slots := 0, locals := 0 } : Room)) (fun a U => a = #[(.ref ya), (.int 0), (.ref yb), (.int 0), (.int 2)] ∧ Z.Warmed39 U.vm ∧ U.heap = h0) (fun _ _ _ _ _ => True) (fun _ U o U' => ∃ v L, o = .returned v ∧ Q142 Z ya yb ka kb d0 d1 h0 n0 v U'.heap L ∧ FrameEnd U o U' L 0 0) := by
  refine MetFree.of_bodySF (plainFor_of_name pn_105) hisR ?_
  intro p e s m args below meth c s₁ Bd hml0 hP hK
  obtain ⟨rfl,hZ,hh⟩ := hP
  have hx := Bd.exec
  have hby := Bd.bytes
  have hml : c.maxLocals = 7 := hml0
  have hown : s.vm.findClass "java/lang/StringUTF16" = some m.cls := findClass_of_methodNamed Bd.named
  have hnm := (name_of_methodNamed Bd.named Bd.method).1
  have X0 : Stand p l e ({ frames := 0,cells := 0,slots := 0,locals := 0 } : Room) s m #[(.ref ya),(.int 0),(.ref yb),(.int 0),(.int 2)] below meth c s₁ [] 0 0 := Stand.of_body Bd
  have e0 : s₁.heap = h0 := by rw [← hh,Bd.state]; rfl
  have N0 := Fr.nil n0
  refine own_start (Q := fun v h L => Q142 Z ya yb ka kb d0 d1 h0 n0 v h L) ?_
  refine gv s₁ 0 #[sR ya,sI 0,sR yb,sI 0,sI 2,sU,sU] [] (fun t k => castTop (ef_142 m ya yb) k) ?_
  refine gv s₁ 1 #[sR ya,sI 0,sR yb,sI 0,sI 2,sU,sU] [(.int 0)] (fun t k => XS.iconst X0.here hx rfl (hb hby d14_0) k) ?_
  refine gv s₁ 3 #[sR ya,sI 0,sR yb,sI 0,sI 2,sI 0,sU] [] (fun t k => XS.istore X0.here hx rfl (hb hby d14_1) rfl (l' := #[sR ya,sI 0,sR yb,sI 0,sI 2,sI 0,sU]) rfl k) ?_
  refine gv s₁ 5 #[sR ya,sI 0,sR yb,sI 0,sI 2,sI 0,sU] [(.int 0)] (fun t k => XS.iload X0.here hx rfl (hb hby d14_3) rfl k) ?_
  refine gv s₁ 7 #[sR ya,sI 0,sR yb,sI 0,sI 2,sI 0,sU] [(.int 2),(.int 0)] (fun t k => XS.iload X0.here hx rfl (hb hby d14_5) rfl k) ?_
  refine gv s₁ 10 #[sR ya,sI 0,sR yb,sI 0,sI 2,sI 0,sU] [] (fun t k => XS.icmpNo X0.here hx rfl (hb hby d14_7) rfl (tlt (by decide : ((0 : Int32) < (2 : Int32)))).2.1 k) ?_
  refine gv s₁ 11 #[sR ya,sI 0,sR yb,sI 0,sI 2,sI 0,sU] [(.ref ya)] (fun t k => XS.aloadN X0.here hx rfl (hb hby d14_10) rfl rfl k) ?_
  refine gv s₁ 12 #[sR ya,sI 0,sR yb,sI 0,sI 2,sI 0,sU] [(.int 0),(.ref ya)] (fun t k => XS.iloadN X0.here hx rfl (hb hby d14_11) rfl k) ?_
  obtain ⟨cl1,Ar1,q1,S1,M1,Hs1,G1⟩ := id f0_ya
  have hin1 : ¬ ((0 : Int32) < 0 ∨ cl1.slots.size ≤ ((0 : Int32)).toNatClampNeg) := inb_of S1 ⟨by decide,by decide⟩
  have hat1 : cl1.slots[((0 : Int32)).toNatClampNeg]? = some (.int d0) := Has.at Hs1 hin1 rfl
  refine gv s₁ 13 #[sR ya,sI 0,sR yb,sI 0,sI 2,sI 0,sU] [(.int d0)] (fun t k => X0.caload hx (j := (0 : Int32)) (v := (.int d0)) (by rw [e0]; exact Ar1.1) (State.isArrayOf_alike hZ.alike Ar1.2.1) Ar1.2.2 hin1 hat1 (g := (mkF m 12 #[sR ya,sI 0,sR yb,sI 0,sI 2,sI 0,sU] [(.int 0),(.ref ya)])) rfl rfl (hb hby d14_12) _ k) ?_
  refine gv s₁ 15 #[sR ya,sI 0,sR yb,sI 0,sI 2,sI 0,sI d0] [] (fun t k => XS.istore X0.here hx rfl (hb hby d14_13) rfl (l' := #[sR ya,sI 0,sR yb,sI 0,sI 2,sI 0,sI d0]) rfl k) ?_
  refine gv s₁ 17 #[sR ya,sI 0,sR yb,sI 0,sI 2,sI 0,sI d0] [(.int d0)] (fun t k => XS.iload X0.here hx rfl (hb hby d14_15) rfl k) ?_
  refine gv s₁ 20 #[sR ya,sI 0,sR yb,sI 0,sI 2,sI 0,sI d0] [(.int 255),(.int d0)] (fun t k => XS.sipush X0.here hx rfl (hb hby d14_17) k) ?_
  refine gv s₁ 26 #[sR ya,sI 0,sR yb,sI 0,sI 2,sI 0,sI d0] [] (fun t k => XS.icmpYes X0.here hx rfl (pc0 := 20) (pc' := 26) rfl (hb hby d14_20) rfl (flt hd0).2.2.2 (by decide) (by decide) k) ?_
  refine gv s₁ 27 #[sR ya,sI 0,sR yb,sI 0,sI 2,sI 0,sI d0] [(.ref yb)] (fun t k => XS.aloadN X0.here hx rfl (hb hby d14_26) rfl rfl k) ?_
  refine gv s₁ 28 #[sR ya,sI 0,sR yb,sI 0,sI 2,sI 0,sI d0] [(.int 0),(.ref yb)] (fun t k => XS.iloadN X0.here hx rfl (hb hby d14_27) rfl k) ?_
  refine gv s₁ 30 #[sR ya,sI 0,sR yb,sI 0,sI 2,sI 0,sI d0] [(.int d0),(.int 0),(.ref yb)] (fun t k => XS.iload X0.here hx rfl (hb hby d14_28) rfl k) ?_
  refine gv s₁ 31 #[sR ya,sI 0,sR yb,sI 0,sI 2,sI 0,sI d0] [(.int (d0.toInt8.toInt32)),(.int 0),(.ref yb)] (fun t k => XS.i2b X0.here hx rfl (hb hby d14_30) rfl k) ?_
  obtain ⟨cl2,Ar2,q2,S2,M2,Hs2,G2⟩ := id f1_yb
  have hin2 : ¬ ((0 : Int32) < 0 ∨ cl2.slots.size ≤ ((0 : Int32)).toNatClampNeg) := inb_of S2 ⟨by decide,by decide⟩
  obtain ⟨T2,h2,X2,e2,W2,st2⟩ := stB X0 hx hZ e0 Ar2 (j := (0 : Int32)) hin2 (g := (mkF m 31 #[sR ya,sI 0,sR yb,sI 0,sI 2,sI 0,sI d0] [(.int (d0.toInt8.toInt32)),(.int 0),(.ref yb)])) rfl rfl (hb hby d14_31)
  have f3 := f0_ya.other W2 ne_ya_yb
  have f4 : Arv Z h2 yb kb .byte (2 : Int32) [(.int (nar .byte (d0.toInt8.toInt32))),(.int 0)] (.int 0) := Arv.set Ar2 q2 S2 M2 Hs2 G2 (fits_nar_byte _) W2 0 rfl (Nat.le_of_ble_eq_true rfl)
  have K2 := Keep.wr (Keep.refl h0 [yb]) W2 (Or.inl (List.mem_of_getElem? (i := 0) rfl))
  have Z2 := Nat.le_trans Z0 K2.1
  have N2 := Fr.snoc X2 N0 g_yb
  refine gv T2 32 #[sR ya,sI 0,sR yb,sI 0,sI 2,sI 0,sI d0] [] (fun t k => st2 _ k) ?_
  refine gv T2 35 #[sR ya,sI 1,sR yb,sI 0,sI 2,sI 0,sI d0] [] (fun t k => XS.iinc X2.here hx rfl (hb hby d14_32) rfl (l' := #[sR ya,sI 1,sR yb,sI 0,sI 2,sI 0,sI d0]) rfl k) ?_
  refine gv T2 38 #[sR ya,sI 1,sR yb,sI 1,sI 2,sI 0,sI d0] [] (fun t k => XS.iinc X2.here hx rfl (hb hby d14_35) rfl (l' := #[sR ya,sI 1,sR yb,sI 1,sI 2,sI 0,sI d0]) rfl k) ?_
  refine gv T2 41 #[sR ya,sI 1,sR yb,sI 1,sI 2,sI 1,sI d0] [] (fun t k => XS.iinc X2.here hx rfl (hb hby d14_38) rfl (l' := #[sR ya,sI 1,sR yb,sI 1,sI 2,sI 1,sI d0]) rfl k) ?_
  refine gv T2 3 #[sR ya,sI 1,sR yb,sI 1,sI 2,sI 1,sI d0] [] (fun t k => XS.goto X2.here hx rfl (pc0 := 41) (pc' := 3) rfl (hb hby d14_41) (by decide) (by decide) k) ?_
  refine gv T2 5 #[sR ya,sI 1,sR yb,sI 1,sI 2,sI 1,sI d0] [(.int 1)] (fun t k => XS.iload X2.here hx rfl (hb hby d14_3) rfl k) ?_
  refine gv T2 7 #[sR ya,sI 1,sR yb,sI 1,sI 2,sI 1,sI d0] [(.int 2),(.int 1)] (fun t k => XS.iload X2.here hx rfl (hb hby d14_5) rfl k) ?_
  refine gv T2 10 #[sR ya,sI 1,sR yb,sI 1,sI 2,sI 1,sI d0] [] (fun t k => XS.icmpNo X2.here hx rfl (hb hby d14_7) rfl (tlt (by decide : ((1 : Int32) < (2 : Int32)))).2.1 k) ?_
  refine gv T2 11 #[sR ya,sI 1,sR yb,sI 1,sI 2,sI 1,sI d0] [(.ref ya)] (fun t k => XS.aloadN X2.here hx rfl (hb hby d14_10) rfl rfl k) ?_
  refine gv T2 12 #[sR ya,sI 1,sR yb,sI 1,sI 2,sI 1,sI d0] [(.int 1),(.ref ya)] (fun t k => XS.iloadN X2.here hx rfl (hb hby d14_11) rfl k) ?_
  obtain ⟨cl5,Ar5,q5,S5,M5,Hs5,G5⟩ := id f3
  have hin5 : ¬ ((1 : Int32) < 0 ∨ cl5.slots.size ≤ ((1 : Int32)).toNatClampNeg) := inb_of S5 ⟨by decide,by decide⟩
  have hat5 : cl5.slots[((1 : Int32)).toNatClampNeg]? = some (.int d1) := Has.at Hs5 hin5 rfl
  refine gv T2 13 #[sR ya,sI 1,sR yb,sI 1,sI 2,sI 1,sI d0] [(.int d1)] (fun t k => X2.caload hx (j := (1 : Int32)) (v := (.int d1)) (by rw [e2]; exact Ar5.1) (State.isArrayOf_alike hZ.alike Ar5.2.1) Ar5.2.2 hin5 hat5 (g := (mkF m 12 #[sR ya,sI 1,sR yb,sI 1,sI 2,sI 1,sI d0] [(.int 1),(.ref ya)])) rfl rfl (hb hby d14_12) _ k) ?_
  refine gv T2 15 #[sR ya,sI 1,sR yb,sI 1,sI 2,sI 1,sI d1] [] (fun t k => XS.istore X2.here hx rfl (hb hby d14_13) rfl (l' := #[sR ya,sI 1,sR yb,sI 1,sI 2,sI 1,sI d1]) rfl k) ?_
  refine gv T2 17 #[sR ya,sI 1,sR yb,sI 1,sI 2,sI 1,sI d1] [(.int d1)] (fun t k => XS.iload X2.here hx rfl (hb hby d14_15) rfl k) ?_
  refine gv T2 20 #[sR ya,sI 1,sR yb,sI 1,sI 2,sI 1,sI d1] [(.int 255),(.int d1)] (fun t k => XS.sipush X2.here hx rfl (hb hby d14_17) k) ?_
  refine gv T2 26 #[sR ya,sI 1,sR yb,sI 1,sI 2,sI 1,sI d1] [] (fun t k => XS.icmpYes X2.here hx rfl (pc0 := 20) (pc' := 26) rfl (hb hby d14_20) rfl (flt hd1).2.2.2 (by decide) (by decide) k) ?_
  refine gv T2 27 #[sR ya,sI 1,sR yb,sI 1,sI 2,sI 1,sI d1] [(.ref yb)] (fun t k => XS.aloadN X2.here hx rfl (hb hby d14_26) rfl rfl k) ?_
  refine gv T2 28 #[sR ya,sI 1,sR yb,sI 1,sI 2,sI 1,sI d1] [(.int 1),(.ref yb)] (fun t k => XS.iloadN X2.here hx rfl (hb hby d14_27) rfl k) ?_
  refine gv T2 30 #[sR ya,sI 1,sR yb,sI 1,sI 2,sI 1,sI d1] [(.int d1),(.int 1),(.ref yb)] (fun t k => XS.iload X2.here hx rfl (hb hby d14_28) rfl k) ?_
  refine gv T2 31 #[sR ya,sI 1,sR yb,sI 1,sI 2,sI 1,sI d1] [(.int (d1.toInt8.toInt32)),(.int 1),(.ref yb)] (fun t k => XS.i2b X2.here hx rfl (hb hby d14_30) rfl k) ?_
  obtain ⟨cl6,Ar6,q6,S6,M6,Hs6,G6⟩ := id f4
  have hin6 : ¬ ((1 : Int32) < 0 ∨ cl6.slots.size ≤ ((1 : Int32)).toNatClampNeg) := inb_of S6 ⟨by decide,by decide⟩
  obtain ⟨T6,h6,X6,e6,W6,st6⟩ := stB X2 hx hZ e2 Ar6 (j := (1 : Int32)) hin6 (g := (mkF m 31 #[sR ya,sI 1,sR yb,sI 1,sI 2,sI 1,sI d1] [(.int (d1.toInt8.toInt32)),(.int 1),(.ref yb)])) rfl rfl (hb hby d14_31)
  have f7 := f3.other W6 ne_ya_yb
  have f8 : Arv Z h6 yb kb .byte (2 : Int32) [(.int (nar .byte (d0.toInt8.toInt32))),(.int (nar .byte (d1.toInt8.toInt32)))] (.int 0) := Arv.set Ar6 q6 S6 M6 Hs6 G6 (fits_nar_byte _) W6 1 rfl (Nat.le_of_ble_eq_true rfl)
  have K6 := Keep.wr K2 W6 (Or.inl (List.mem_of_getElem? (i := 0) rfl))
  have Z6 := Nat.le_trans Z0 K6.1
  have N6 := Fr.snoc X6 N2 g_yb
  refine gv T6 32 #[sR ya,sI 1,sR yb,sI 1,sI 2,sI 1,sI d1] [] (fun t k => st6 _ k) ?_
  refine gv T6 35 #[sR ya,sI 2,sR yb,sI 1,sI 2,sI 1,sI d1] [] (fun t k => XS.iinc X6.here hx rfl (hb hby d14_32) rfl (l' := #[sR ya,sI 2,sR yb,sI 1,sI 2,sI 1,sI d1]) rfl k) ?_
  refine gv T6 38 #[sR ya,sI 2,sR yb,sI 2,sI 2,sI 1,sI d1] [] (fun t k => XS.iinc X6.here hx rfl (hb hby d14_35) rfl (l' := #[sR ya,sI 2,sR yb,sI 2,sI 2,sI 1,sI d1]) rfl k) ?_
  refine gv T6 41 #[sR ya,sI 2,sR yb,sI 2,sI 2,sI 2,sI d1] [] (fun t k => XS.iinc X6.here hx rfl (hb hby d14_38) rfl (l' := #[sR ya,sI 2,sR yb,sI 2,sI 2,sI 2,sI d1]) rfl k) ?_
  refine gv T6 3 #[sR ya,sI 2,sR yb,sI 2,sI 2,sI 2,sI d1] [] (fun t k => XS.goto X6.here hx rfl (pc0 := 41) (pc' := 3) rfl (hb hby d14_41) (by decide) (by decide) k) ?_
  refine gv T6 5 #[sR ya,sI 2,sR yb,sI 2,sI 2,sI 2,sI d1] [(.int 2)] (fun t k => XS.iload X6.here hx rfl (hb hby d14_3) rfl k) ?_
  refine gv T6 7 #[sR ya,sI 2,sR yb,sI 2,sI 2,sI 2,sI d1] [(.int 2),(.int 2)] (fun t k => XS.iload X6.here hx rfl (hb hby d14_5) rfl k) ?_
  refine gv T6 44 #[sR ya,sI 2,sR yb,sI 2,sI 2,sI 2,sI d1] [] (fun t k => XS.icmpYes X6.here hx rfl (pc0 := 7) (pc' := 44) rfl (hb hby d14_7) rfl (flt (by decide : ¬ ((2 : Int32) < (2 : Int32)))).2.1 (by decide) (by decide) k) ?_
  refine gv T6 46 #[sR ya,sI 2,sR yb,sI 2,sI 2,sI 2,sI d1] [(.int 2)] (fun t k => XS.iload X6.here hx rfl (hb hby d14_44) rfl k) ?_
  exact own_ret X6 hx Bd.notSynchronized Bd.returns rfl (Or.inl ⟨rfl,by simp,_,rfl⟩) (hb hby d14_46) e6 ⟨rfl,N6,K6,f8⟩ (by decide) (by decide)
theorem ef_132 (m : MethodId) (ya : Addr) : entryFrame m #[(.ref ya), (.int (0 : Int32)), (.int (2 : Int32))] 6 = mkF m 0 #[.val (.ref ya), .val (.int (0 : Int32)), .val (.int (2 : Int32)), .unset, .unset, .unset] [] := by first | (simp [entryFrame, mkF, argsToLocals, Value.category]; done) | rfl
def Q132 (Z : State) (ya : Addr) (ka : ClassId) (d0 : Int32) (d1 : Int32) (h0 : Heap) (n0 : Nat) (v : Option Value) (h : Heap) (L : List Loc) : Prop := ∃ (yb : Addr) (kb : ClassId), v = some (.ref yb) ∧ Fr n0 L ∧ Keep h0 h [] ∧ Arv Z h yb kb .byte (2 : Int32) [(.int (nar .byte (d0.toInt8.toInt32))), (.int (nar .byte (d1.toInt8.toInt32)))] (.int (0 : Int32)) ∧ n0 ≤ yb ∧ h0.size ≤ yb
set_option maxRecDepth 65536 in
set_option maxHeartbeats 40000000 in
theorem rm132 (l : Launch) (Z : State) (a0 : Array Value) (hw : ∀ d ∈ tables_1, d.before a0 Z = true) (ws : List Jvm.Cond) (ya : Addr) (ka : ClassId) (d0 : Int32) (d1 : Int32) (h0 : Heap) (n0 : Nat) (Z0 : n0 ≤ h0.size) (f0_ya : Arv Z h0 ya ka .char (2 : Int32) [(.int d0), (.int d1)] (.int (0 : Int32))) (hd0 : ¬ (255 : Int32) < d0) (hd1 : ¬ (255 : Int32) < d1) :
    MetFree l (⟨"java/lang/StringUTF16", "compress", "([CII)[B"⟩ : MethodName) (head1 (Jvm.Cond.code (⟨"java/lang/StringUTF16", "compress", "([CII)[B"⟩ : MethodName) jdk_52_method_16_code 6 (some (.array .byte)) :: ws) ({ frames := 1, cells := 1, slots := 2, locals := 18 } : Room)) (fun a U => a = #[(.ref ya), (.int 0), (.int 2)] ∧ Z.Warmed39 U.vm ∧ U.heap = h0) (fun _ _ _ _ _ => True) (fun _ U o U' => ∃ v L, o = .returned v ∧ Q132 Z ya ka d0 d1 h0 n0 v U'.heap L ∧ FrameEnd U o U' L 1 2) := by
  refine MetFree.of_bodySF (plainFor_of_name pn_105) hisR ?_
  intro p e s m args below meth c s₁ Bd hml0 hP hK
  obtain ⟨rfl,hZ,hh⟩ := hP
  have hx := Bd.exec
  have hby := Bd.bytes
  have hml : c.maxLocals = 6 := hml0
  have hown : s.vm.findClass "java/lang/StringUTF16" = some m.cls := findClass_of_methodNamed Bd.named
  have hnm := (name_of_methodNamed Bd.named Bd.method).1
  have X0 : Stand p l e ({ frames := 1,cells := 1,slots := 2,locals := 18 } : Room) s m #[(.ref ya),(.int 0),(.int 2)] below meth c s₁ [] 0 0 := Stand.of_body Bd
  have e0 : s₁.heap = h0 := by rw [← hh,Bd.state]; rfl
  have N0 := Fr.nil n0
  refine own_start (Q := fun v h L => Q132 Z ya ka d0 d1 h0 n0 v h L) ?_
  refine gv s₁ 0 #[sR ya,sI 0,sI 2,sU,sU,sU] [] (fun t k => castTop (ef_132 m ya) k) ?_
  refine gv s₁ 1 #[sR ya,sI 0,sI 2,sU,sU,sU] [(.int 2)] (fun t k => XS.iloadN X0.here hx rfl (hb hby d13_0) rfl k) ?_
  obtain ⟨T1,h1,k1,X1,e1,E1,A1,st1⟩ := newP X0 hx hZ (w_ hw 10 rfl) e0 (g := (mkF m 1 #[sR ya,sI 0,sI 2,sU,sU,sU] [(.int 2)])) rfl (hb hby d13_1) rfl (by decide) (cap := 2) (by decide) (by decide) (by decide) (by decide)
  obtain ⟨b1,g1⟩ : ∃ z,z = h0.size := ⟨_,rfl⟩
  rw [← g1] at A1 st1
  have f2 := f0_ya.ext E1
  have K1 := Keep.ext (Keep.refl h0 []) E1
  have Z1 := Nat.le_trans Z0 K1.1
  have g_b1 : n0 ≤ b1 := Nat.le_trans Z0 (Nat.le_of_eq g1.symm)
  have sz_b1 : h0.size ≤ b1 := Nat.le_trans ((Keep.refl h0 [])).1 (Nat.le_of_eq g1.symm)
  have ne_ya_b1 : ya ≠ b1 := Nat.ne_of_lt (Nat.lt_of_lt_of_le f0_ya.lt (Nat.le_of_eq g1.symm))
  have f3 : Arv Z h1 b1 k1 .byte (2 : Int32) [(.int 0),(.int 0)] (.int 0) := (Arv.new A1 (by decide)).pad (pad_rep [] (.int 0) 2)
  refine gv T1 3 #[sR ya,sI 0,sI 2,sU,sU,sU] [(.ref b1)] (fun t k => st1 _ k) ?_
  refine gv T1 4 #[sR ya,sI 0,sI 2,sR b1,sU,sU] [] (fun t k => XS.astoreN X1.here hx rfl (hb hby d13_3) rfl rfl (l' := #[sR ya,sI 0,sI 2,sR b1,sU,sU]) rfl k) ?_
  refine gv T1 5 #[sR ya,sI 0,sI 2,sR b1,sU,sU] [(.ref ya)] (fun t k => XS.aloadN X1.here hx rfl (hb hby d13_4) rfl rfl k) ?_
  refine gv T1 6 #[sR ya,sI 0,sI 2,sR b1,sU,sU] [(.int 0),(.ref ya)] (fun t k => XS.iloadN X1.here hx rfl (hb hby d13_5) rfl k) ?_
  refine gv T1 7 #[sR ya,sI 0,sI 2,sR b1,sU,sU] [(.ref b1),(.int 0),(.ref ya)] (fun t k => XS.aloadN X1.here hx rfl (hb hby d13_6) rfl rfl k) ?_
  refine gv T1 8 #[sR ya,sI 0,sI 2,sR b1,sU,sU] [(.int 0),(.ref b1),(.int 0),(.ref ya)] (fun t k => XS.iconst X1.here hx rfl (hb hby d13_7) k) ?_
  refine gv T1 9 #[sR ya,sI 0,sI 2,sR b1,sU,sU] [(.int 2),(.int 0),(.ref b1),(.int 0),(.ref ya)] (fun t k => XS.iloadN X1.here hx rfl (hb hby d13_8) rfl k) ?_
  obtain ⟨_,_,⟨T4,L4,k4,n4⟩,-,X4,⟨Lc4,hQ4,l4,y4,z4⟩,st4⟩ := Jvm.LawKit.callS X1 hx (y := (⟨"java/lang/StringUTF16","compress","([CI[BII)I"⟩ : MethodName)) hown (mvT hZ (w_ hw 66 rfl)) (mvT hZ (w_ hw 67 rfl)) (mvT hZ (w_ hw 64 rfl)) (mvT hZ (w_ hw 68 rfl)) (by decide) (backOf (W := 0) (rm142 l Z a0 hw [] ya b1 ka k1 d0 d1 h1 n0 Z1 f2 f3 ne_ya_b1 g_b1 hd0 hd1) hZ (w_ hw 68 rfl) (w_ hw 64 rfl) (by decide) (by decide)) (g := (mkF m 9 #[sR ya,sI 0,sI 2,sR b1,sU,sU] [(.int 2),(.int 0),(.ref b1),(.int 0),(.ref ya)])) rfl (by rw [hml]; rfl) (argsL := [(.ref ya),(.int 0),(.ref b1),(.int 0),(.int 2)]) (rest := []) (lenOf pd_8 rfl) rfl (own_rm rfl) (hb hby d13_9) (fun _ _ => ⟨rfl,e1,(by decide : 1 + 0 ≤ _),(by decide : 2 + 0 ≤ _)⟩)
  dsimp only [Pt.U, Pt.locs, Pt.cells, Pt.slots] at X4 l4 y4 z4 st4 hQ4
  replace X4 := own_cast X4 l4 y4 z4
  obtain ⟨rfl,N4q,K4q,po4_0⟩ := hQ4
  have N4 := Fr.app N0 N4q
  have f5 := f2.keep K4q (ninS ne_ya_b1 nin0)
  have K4 := Keep.trans K1 K4q (allS (Or.inr sz_b1) all0)
  have Z4 := Nat.le_trans Z0 K4.1
  refine gv T4 12 #[sR ya,sI 0,sI 2,sR b1,sU,sU] [(.int 2)] (fun t k => st4 _ k) ?_
  refine gv T4 14 #[sR ya,sI 0,sI 2,sR b1,sI 2,sU] [] (fun t k => XS.istore X4.here hx rfl (hb hby d13_12) rfl (l' := #[sR ya,sI 0,sI 2,sR b1,sI 2,sU]) rfl k) ?_
  refine gv T4 16 #[sR ya,sI 0,sI 2,sR b1,sI 2,sU] [(.int 2)] (fun t k => XS.iload X4.here hx rfl (hb hby d13_14) rfl k) ?_
  refine gv T4 17 #[sR ya,sI 0,sI 2,sR b1,sI 2,sU] [(.int 2),(.int 2)] (fun t k => XS.iloadN X4.here hx rfl (hb hby d13_16) rfl k) ?_
  refine gv T4 57 #[sR ya,sI 0,sI 2,sR b1,sI 2,sU] [] (fun t k => XS.icmpYes X4.here hx rfl (pc0 := 17) (pc' := 57) rfl (hb hby d13_17) rfl (teq rfl).1 (by decide) (by decide) k) ?_
  refine gv T4 58 #[sR ya,sI 0,sI 2,sR b1,sI 2,sU] [(.ref b1)] (fun t k => XS.aloadN X4.here hx rfl (hb hby d13_57) rfl rfl k) ?_
  exact own_ret X4 hx Bd.notSynchronized Bd.returns rfl (Or.inr (Or.inr (Or.inr (Or.inr ⟨rfl,rfl,rfl⟩)))) (hb hby d13_58) rfl ⟨b1,k1,rfl,N4,K4,po4_0,g_b1,sz_b1⟩ (by decide) (by decide)
theorem ef_112 (m : MethodId) (xs : Addr) (ya : Addr) : entryFrame m #[(.ref xs), (.ref ya), (.int (0 : Int32)), (.int (2 : Int32)), .null] 6 = mkF m 0 #[.val (.ref xs), .val (.ref ya), .val (.int (0 : Int32)), .val (.int (2 : Int32)), .val .null, .unset] [] := by first | (simp [entryFrame, mkF, argsToLocals, Value.category]; done) | rfl
def Q112 (Z : State) (xs : Addr) (ya : Addr) (ka : ClassId) (wc : Int32) (u0 : Value) (u1 : Value) (d0 : Int32) (d1 : Int32) (h0 : Heap) (n0 : Nat) (v : Option Value) (h : Heap) (L : List Loc) : Prop := ∃ (yb : Addr) (kb : ClassId), v = none ∧ Fr n0 L ∧ Keep h0 h [xs] ∧ Exa Z h xs "java/lang/String" ∧ Fld Z h xs "java/lang/String" "coder" "B" (.int (0 : Int32)) ∧ Fld Z h xs "java/lang/String" "value" "[B" (.ref yb) ∧ Arv Z h yb kb .byte (2 : Int32) [(.int (nar .byte (d0.toInt8.toInt32))), (.int (nar .byte (d1.toInt8.toInt32)))] (.int (0 : Int32)) ∧ n0 ≤ yb ∧ h0.size ≤ yb
set_option maxRecDepth 65536 in
set_option maxHeartbeats 40000000 in
theorem rm112 (l : Launch) (Z : State) (a0 : Array Value) (hw : ∀ d ∈ tables_1, d.before a0 Z = true) (ws : List Jvm.Cond) (xs : Addr) (ya : Addr) (ka : ClassId) (wc : Int32) (u0 : Value) (u1 : Value) (d0 : Int32) (d1 : Int32) (h0 : Heap) (n0 : Nat) (Z0 : n0 ≤ h0.size) (f0_xs : Exa Z h0 xs "java/lang/String") (f1_xs_coder : Fld Z h0 xs "java/lang/String" "coder" "B" u0) (f2_xs_value : Fld Z h0 xs "java/lang/String" "value" "[B" u1) (f3_ya : Arv Z h0 ya ka .char (2 : Int32) [(.int d0), (.int d1)] (.int (0 : Int32))) (f4_COMPACT_STRINGS : Sta Z h0 "java/lang/String" "COMPACT_STRINGS" "Z" (.int wc)) (ne_xs_ya : xs ≠ ya) (g_xs : n0 ≤ xs) (hd0 : ¬ (255 : Int32) < d0) (hd1 : ¬ (255 : Int32) < d1) (hwc : ¬ wc = (0 : Int32)) :
    MetFree l (⟨"java/lang/String", "<init>", "([CIILjava/lang/Void;)V"⟩ : MethodName) (head1 (Jvm.Cond.code (⟨"java/lang/String", "<init>", "([CIILjava/lang/Void;)V"⟩ : MethodName) jdk_42_method_149_code 6 none :: ws) ({ frames := 2, cells := 1, slots := 2, locals := 35 } : Room)) (fun a U => a = #[(.ref xs), (.ref ya), (.int 0), (.int 2), .null] ∧ Z.Warmed39 U.vm ∧ U.heap = h0) (fun _ _ _ _ _ => True) (fun _ U o U' => ∃ v L, o = .returned v ∧ Q112 Z xs ya ka wc u0 u1 d0 d1 h0 n0 v U'.heap L ∧ FrameEnd U o U' L 1 2) := by
  refine MetFree.of_bodySF (plainFor_of_name pn_6) hisR ?_
  intro p e s m args below meth c s₁ Bd hml0 hP hK
  obtain ⟨rfl,hZ,hh⟩ := hP
  have hx := Bd.exec
  have hby := Bd.bytes
  have hml : c.maxLocals = 6 := hml0
  have hown : s.vm.findClass "java/lang/String" = some m.cls := findClass_of_methodNamed Bd.named
  have hnm := (name_of_methodNamed Bd.named Bd.method).1
  have X0 : Stand p l e ({ frames := 2,cells := 1,slots := 2,locals := 35 } : Room) s m #[(.ref xs),(.ref ya),(.int 0),(.int 2),.null] below meth c s₁ [] 0 0 := Stand.of_body Bd
  have e0 : s₁.heap = h0 := by rw [← hh,Bd.state]; rfl
  have N0 := Fr.nil n0
  refine own_start (Q := fun v h L => Q112 Z xs ya ka wc u0 u1 d0 d1 h0 n0 v h L) ?_
  refine gv s₁ 0 #[sR xs,sR ya,sI 0,sI 2,.val .null,sU] [] (fun t k => castTop (ef_112 m xs ya) k) ?_
  refine gv s₁ 1 #[sR xs,sR ya,sI 0,sI 2,.val .null,sU] [(.ref xs)] (fun t k => XS.aloadN X0.here hx rfl (hb hby d11_0) rfl rfl k) ?_
  obtain ⟨T1,X1,e1,st1⟩ := initO X0 hx hZ hown (w_ hw 59 rfl) (w_ hw 60 rfl) (w_ hw 61 rfl) e0 (g := (mkF m 1 #[sR xs,sR ya,sI 0,sI 2,.val .null,sU] [(.ref xs)])) rfl (by rw [hml]; rfl) rfl (hb hby d11_1) (by decide) (W := 0) (own_rm rfl) (by decide)
  refine gv T1 4 #[sR xs,sR ya,sI 0,sI 2,.val .null,sU] [] (fun t k => st1 _ k) ?_
  refine gv T1 5 #[sR xs,sR ya,sI 0,sI 2,.val .null,sU] [(.int 2)] (fun t k => XS.iloadN X1.here hx rfl (hb hby d11_4) rfl k) ?_
  refine gv T1 27 #[sR xs,sR ya,sI 0,sI 2,.val .null,sU] [] (fun t k => XS.ifYes X1.here hx rfl (pc0 := 5) (pc' := 27) rfl (hb hby d11_5) rfl ((if0 _ _).trans (feq (by decide : ¬ ((2 : Int32) = (0 : Int32)))).2) (by decide) (by decide) k) ?_
  obtain ⟨T2,X2,e2,st2⟩ := getS2 X1 hx hZ hown (host := "") (Or.inl (w_ hw 26 rfl)) Via.refl e1 f4_COMPACT_STRINGS (g := (mkF m 27 #[sR xs,sR ya,sI 0,sI 2,.val .null,sU] [])) rfl (hb hby d11_27)
  refine gv T2 30 #[sR xs,sR ya,sI 0,sI 2,.val .null,sU] [(.int wc)] (fun t k => st2 _ k) ?_
  refine gv T2 33 #[sR xs,sR ya,sI 0,sI 2,.val .null,sU] [] (fun t k => XS.ifNo X2.here hx rfl (hb hby d11_30) rfl ((if0 _ _).trans (feq hwc).1) k) ?_
  refine gv T2 34 #[sR xs,sR ya,sI 0,sI 2,.val .null,sU] [(.ref ya)] (fun t k => XS.aloadN X2.here hx rfl (hb hby d11_33) rfl rfl k) ?_
  refine gv T2 35 #[sR xs,sR ya,sI 0,sI 2,.val .null,sU] [(.int 0),(.ref ya)] (fun t k => XS.iloadN X2.here hx rfl (hb hby d11_34) rfl k) ?_
  refine gv T2 36 #[sR xs,sR ya,sI 0,sI 2,.val .null,sU] [(.int 2),(.int 0),(.ref ya)] (fun t k => XS.iloadN X2.here hx rfl (hb hby d11_35) rfl k) ?_
  obtain ⟨_,_,⟨T3,L3,k3,n3⟩,-,X3,⟨Lc3,hQ3,l3,y3,z3⟩,st3⟩ := Jvm.LawKit.callS X2 hx (y := (⟨"java/lang/StringUTF16","compress","([CII)[B"⟩ : MethodName)) hown (mvT hZ (w_ hw 62 rfl)) (mvT hZ (w_ hw 63 rfl)) (mvT hZ (w_ hw 64 rfl)) (mvT hZ (w_ hw 65 rfl)) (by decide) (backOf (W := 0) (rm132 l Z a0 hw [] ya ka d0 d1 h0 n0 Z0 f3_ya hd0 hd1) hZ (w_ hw 65 rfl) (w_ hw 64 rfl) (by decide) (by decide)) (g := (mkF m 36 #[sR xs,sR ya,sI 0,sI 2,.val .null,sU] [(.int 2),(.int 0),(.ref ya)])) rfl (by rw [hml]; rfl) (argsL := [(.ref ya),(.int 0),(.int 2)]) (rest := []) (lenOf pd_9 rfl) rfl (own_rm rfl) (hb hby d11_36) (fun _ _ => ⟨rfl,e2,(by decide : 0 + 1 ≤ _),(by decide : 0 + 2 ≤ _)⟩)
  dsimp only [Pt.U, Pt.locs, Pt.cells, Pt.slots] at X3 l3 y3 z3 st3 hQ3
  replace X3 := own_cast X3 l3 y3 z3
  obtain ⟨yb_3,kb_3,rfl,N3q,K3q,po3_0,px3_g_yb,px3_sz_yb⟩ := hQ3
  have N3 := Fr.app N0 N3q
  have f4 := f0_xs.keep K3q
  have f5 := f1_xs_coder.keep K3q nin0
  have f6 := f2_xs_value.keep K3q nin0
  have f7 := f3_ya.keep K3q nin0
  have f8 : Sta Z T3.heap "java/lang/String" "COMPACT_STRINGS" "Z" (.int wc) := own_staKeep f4_COMPACT_STRINGS K3q all0
  have K3 := Keep.trans (Keep.refl h0 [xs]) K3q all0
  have Z3 := Nat.le_trans Z0 K3.1
  have g_yb_3 := px3_g_yb
  have sz_yb_3 : h0.size ≤ yb_3 := Nat.le_trans ((Keep.refl h0 [xs])).1 px3_sz_yb
  have ne_xs_yb_3 : xs ≠ yb_3 := Nat.ne_of_lt (Nat.lt_of_lt_of_le f0_xs.lt px3_sz_yb)
  have ne_ya_yb_3 : ya ≠ yb_3 := Nat.ne_of_lt (Nat.lt_of_lt_of_le f3_ya.lt px3_sz_yb)
  refine gv T3 39 #[sR xs,sR ya,sI 0,sI 2,.val .null,sU] [(.ref yb_3)] (fun t k => st3 _ k) ?_
  refine gv T3 41 #[sR xs,sR ya,sI 0,sI 2,.val .null,sR yb_3] [] (fun t k => XS.astore X3.here hx rfl (hb hby d11_39) rfl rfl (l' := #[sR xs,sR ya,sI 0,sI 2,.val .null,sR yb_3]) rfl k) ?_
  refine gv T3 42 #[sR xs,sR ya,sI 0,sI 2,.val .null,sR yb_3] [(.ref xs)] (fun t k => XS.aloadN X3.here hx rfl (hb hby d11_41) rfl rfl k) ?_
  refine gv T3 44 #[sR xs,sR ya,sI 0,sI 2,.val .null,sR yb_3] [(.ref yb_3),(.ref xs)] (fun t k => XS.aload X3.here hx rfl (hb hby d11_42) rfl rfl k) ?_
  refine gv T3 45 #[sR xs,sR ya,sI 0,sI 2,.val .null,sR yb_3] [(.int 2),(.ref yb_3),(.ref xs)] (fun t k => XS.iloadN X3.here hx rfl (hb hby d11_44) rfl k) ?_
  obtain ⟨_,_,⟨T9,L9,k9,n9⟩,-,X9,⟨Lc9,hQ9,l9,y9,z9⟩,st9⟩ := Jvm.LawKit.callS X3 hx (y := (⟨"java/lang/StringUTF16","coderFromArrayLen","([BI)B"⟩ : MethodName)) hown (mvT hZ (w_ hw 69 rfl)) (mvT hZ (w_ hw 70 rfl)) (mvT hZ (w_ hw 64 rfl)) (mvT hZ (w_ hw 71 rfl)) (by decide) (backOf (W := 1) (rm152 l Z a0 hw [] yb_3 kb_3 ([(.int (nar .byte (d0.toInt8.toInt32))),(.int (nar .byte (d1.toInt8.toInt32)))] : List Value) T3.heap n0 Z3 po3_0) hZ (w_ hw 71 rfl) (w_ hw 64 rfl) (by decide) (by decide)) (g := (mkF m 45 #[sR xs,sR ya,sI 0,sI 2,.val .null,sR yb_3] [(.int 2),(.ref yb_3),(.ref xs)])) rfl (by rw [hml]; rfl) (argsL := [(.ref yb_3),(.int 2)]) (rest := [(.ref xs)]) (lenOf pd_10 rfl) rfl (own_rm rfl) (hb hby d11_45) (fun _ _ => ⟨rfl,rfl,(by decide : 1 + 0 ≤ _),(by decide : 2 + 0 ≤ _)⟩)
  dsimp only [Pt.U, Pt.locs, Pt.cells, Pt.slots] at X9 l9 y9 z9 st9 hQ9
  replace X9 := own_cast X9 l9 y9 z9
  obtain ⟨rfl,N9q,eq9⟩ := hQ9
  have N9 := Fr.app N3 N9q
  refine gv T9 48 #[sR xs,sR ya,sI 0,sI 2,.val .null,sR yb_3] [(.int 0),(.ref xs)] (fun t k => st9 _ k) ?_
  obtain ⟨T10,h10,X10,e10,W10,st10⟩ := putFN X9 hx hZ hown (w_ hw 27 rfl) Via.refl eq9 f5 f4 (Or.inr ⟨(w_ hw 12 rfl),rfl,hnm⟩) (w_ hw 9 rfl) (ty := .byte) (v' := (.int 0)) (by decide) rfl rfl (g := (mkF m 48 #[sR xs,sR ya,sI 0,sI 2,.val .null,sR yb_3] [(.int 0),(.ref xs)])) rfl rfl (hb hby d11_48)
  have f11 := f4.wr W10
  have f12 := f6.other W10 (Or.inr (slot_ne (Or.inr (w_ hw 11 rfl)) (Or.inr (w_ hw 12 rfl)) (by decide) (t := (.array .byte)) (t' := .byte) (by decide) (by decide)))
  have f13 := f7.other W10 (Ne.symm ne_xs_ya)
  have f14 := f8.wr W10
  have f15 := po3_0.other W10 (Ne.symm ne_xs_yb_3)
  have f16 : Fld Z h10 xs "java/lang/String" "coder" "B" (.int 0) := f5.same W10
  have K10 := Keep.wr K3 W10 (Or.inl (List.mem_of_getElem? (i := 0) rfl))
  have Z10 := Nat.le_trans Z0 K10.1
  have N10 := Fr.snoc X10 N9 g_xs
  refine gv T10 51 #[sR xs,sR ya,sI 0,sI 2,.val .null,sR yb_3] [] (fun t k => st10 _ k) ?_
  refine gv T10 52 #[sR xs,sR ya,sI 0,sI 2,.val .null,sR yb_3] [(.ref xs)] (fun t k => XS.aloadN X10.here hx rfl (hb hby d11_51) rfl rfl k) ?_
  refine gv T10 54 #[sR xs,sR ya,sI 0,sI 2,.val .null,sR yb_3] [(.ref yb_3),(.ref xs)] (fun t k => XS.aload X10.here hx rfl (hb hby d11_52) rfl rfl k) ?_
  obtain ⟨T17,h17,X17,e17,W17,st17⟩ := putF X10 hx hZ hown (host := "") (Or.inl (w_ hw 20 rfl)) Via.refl e10 f12 f11 (Or.inr ⟨(w_ hw 11 rfl),rfl,hnm⟩) (w_ hw 9 rfl) (ty := (.array .byte)) (by decide) rfl rfl (g := (mkF m 54 #[sR xs,sR ya,sI 0,sI 2,.val .null,sR yb_3] [(.ref yb_3),(.ref xs)])) rfl rfl (hb hby d11_54)
  have f18 := f11.wr W17
  have f19 := f13.other W17 (Ne.symm ne_xs_ya)
  have f20 := f14.wr W17
  have f21 := f15.other W17 (Ne.symm ne_xs_yb_3)
  have f22 := f16.other W17 (Or.inr (slot_ne (Or.inr (w_ hw 12 rfl)) (Or.inr (w_ hw 11 rfl)) (by decide) (t := .byte) (t' := (.array .byte)) (by decide) (by decide)))
  have f23 : Fld Z h17 xs "java/lang/String" "value" "[B" (.ref yb_3) := f12.same W17
  have K17 := Keep.wr K10 W17 (Or.inl (List.mem_of_getElem? (i := 0) rfl))
  have Z17 := Nat.le_trans Z0 K17.1
  have N17 := Fr.snoc X17 N10 g_xs
  refine gv T17 57 #[sR xs,sR ya,sI 0,sI 2,.val .null,sR yb_3] [] (fun t k => st17 _ k) ?_
  exact own_retV X17 hx Bd.notSynchronized Bd.returns (hb hby d11_57) e17 ⟨yb_3,kb_3,rfl,N17,K17,f18,f22,f23,f21,g_yb_3,sz_yb_3⟩ (by decide) (by decide)
theorem ef_102 (m : MethodId) (xs : Addr) (ya : Addr) : entryFrame m #[(.ref xs), (.ref ya)] 2 = mkF m 0 #[.val (.ref xs), .val (.ref ya)] [] := by first | (simp [entryFrame, mkF, argsToLocals, Value.category]; done) | rfl
def Q102 (Z : State) (xs : Addr) (ya : Addr) (ka : ClassId) (wc : Int32) (u0 : Value) (u1 : Value) (d0 : Int32) (d1 : Int32) (h0 : Heap) (n0 : Nat) (v : Option Value) (h : Heap) (L : List Loc) : Prop := ∃ (yb : Addr) (kb : ClassId), v = none ∧ Fr n0 L ∧ Keep h0 h [xs] ∧ Exa Z h xs "java/lang/String" ∧ Fld Z h xs "java/lang/String" "coder" "B" (.int (0 : Int32)) ∧ Fld Z h xs "java/lang/String" "value" "[B" (.ref yb) ∧ Arv Z h yb kb .byte (2 : Int32) [(.int (nar .byte (d0.toInt8.toInt32))), (.int (nar .byte (d1.toInt8.toInt32)))] (.int (0 : Int32)) ∧ n0 ≤ yb ∧ h0.size ≤ yb
set_option maxRecDepth 65536 in
set_option maxHeartbeats 40000000 in
theorem rm102 (l : Launch) (Z : State) (a0 : Array Value) (hw : ∀ d ∈ tables_1, d.before a0 Z = true) (ws : List Jvm.Cond) (xs : Addr) (ya : Addr) (ka : ClassId) (wc : Int32) (u0 : Value) (u1 : Value) (d0 : Int32) (d1 : Int32) (h0 : Heap) (n0 : Nat) (Z0 : n0 ≤ h0.size) (f0_xs : Exa Z h0 xs "java/lang/String") (f1_xs_coder : Fld Z h0 xs "java/lang/String" "coder" "B" u0) (f2_xs_value : Fld Z h0 xs "java/lang/String" "value" "[B" u1) (f3_ya : Arv Z h0 ya ka .char (2 : Int32) [(.int d0), (.int d1)] (.int (0 : Int32))) (f4_COMPACT_STRINGS : Sta Z h0 "java/lang/String" "COMPACT_STRINGS" "Z" (.int wc)) (ne_xs_ya : xs ≠ ya) (g_xs : n0 ≤ xs) (hd0 : ¬ (255 : Int32) < d0) (hd1 : ¬ (255 : Int32) < d1) (hwc : ¬ wc = (0 : Int32)) :
    MetFree l (⟨"java/lang/String", "<init>", "([C)V"⟩ : MethodName) (head1 (Jvm.Cond.code (⟨"java/lang/String", "<init>", "([C)V"⟩ : MethodName) jdk_42_method_3_code 2 none :: ws) ({ frames := 3, cells := 1, slots := 2, locals := 52 } : Room)) (fun a U => a = #[(.ref xs), (.ref ya)] ∧ Z.Warmed39 U.vm ∧ U.heap = h0) (fun _ _ _ _ _ => True) (fun _ U o U' => ∃ v L, o = .returned v ∧ Q102 Z xs ya ka wc u0 u1 d0 d1 h0 n0 v U'.heap L ∧ FrameEnd U o U' L 1 2) := by
  refine MetFree.of_bodySF (plainFor_of_name pn_6) hisR ?_
  intro p e s m args below meth c s₁ Bd hml0 hP hK
  obtain ⟨rfl,hZ,hh⟩ := hP
  have hx := Bd.exec
  have hby := Bd.bytes
  have hml : c.maxLocals = 2 := hml0
  have hown : s.vm.findClass "java/lang/String" = some m.cls := findClass_of_methodNamed Bd.named
  have hnm := (name_of_methodNamed Bd.named Bd.method).1
  have X0 : Stand p l e ({ frames := 3,cells := 1,slots := 2,locals := 52 } : Room) s m #[(.ref xs),(.ref ya)] below meth c s₁ [] 0 0 := Stand.of_body Bd
  have e0 : s₁.heap = h0 := by rw [← hh,Bd.state]; rfl
  have N0 := Fr.nil n0
  refine own_start (Q := fun v h L => Q102 Z xs ya ka wc u0 u1 d0 d1 h0 n0 v h L) ?_
  refine gv s₁ 0 #[sR xs,sR ya] [] (fun t k => castTop (ef_102 m xs ya) k) ?_
  refine gv s₁ 1 #[sR xs,sR ya] [(.ref xs)] (fun t k => XS.aloadN X0.here hx rfl (hb hby d10_0) rfl rfl k) ?_
  refine gv s₁ 2 #[sR xs,sR ya] [(.ref ya),(.ref xs)] (fun t k => XS.aloadN X0.here hx rfl (hb hby d10_1) rfl rfl k) ?_
  refine gv s₁ 3 #[sR xs,sR ya] [(.int 0),(.ref ya),(.ref xs)] (fun t k => XS.iconst X0.here hx rfl (hb hby d10_2) k) ?_
  refine gv s₁ 4 #[sR xs,sR ya] [(.ref ya),(.int 0),(.ref ya),(.ref xs)] (fun t k => XS.aloadN X0.here hx rfl (hb hby d10_3) rfl rfl k) ?_
  obtain ⟨cl1,Ar1,q1,S1,M1,Hs1,G1⟩ := id f3_ya
  refine gv s₁ 5 #[sR xs,sR ya] [(.int 2),(.int 0),(.ref ya),(.ref xs)] (fun t k => X0.arraylength hx (by rw [e0]; exact Ar1.1) (State.isArrayOf_alike hZ.alike Ar1.2.1) (g := (mkF m 4 #[sR xs,sR ya] [(.ref ya),(.int 0),(.ref ya),(.ref xs)])) rfl rfl (hb hby d10_4) _ (by rw [len_of S1 M1]; exact k)) ?_
  refine gv s₁ 6 #[sR xs,sR ya] [.null,(.int 2),(.int 0),(.ref ya),(.ref xs)] (fun t k => XS.aconstNull X0.here hx rfl (hb hby d10_5) k) ?_
  obtain ⟨_,_,⟨T2,L2,k2,n2⟩,-,X2,⟨Lc2,hQ2,l2,y2,z2⟩,st2⟩ := X0.specialBack hx (y := (⟨"java/lang/String","<init>","([CIILjava/lang/Void;)V"⟩ : MethodName)) rfl hown (mvT hZ (w_ hw 55 rfl)) (mvT hZ (w_ hw 56 rfl)) (mvT hZ (w_ hw 58 rfl)) (by decide) (backOf (W := 0) (rm112 l Z a0 hw [] xs ya ka wc u0 u1 d0 d1 h0 n0 Z0 f0_xs f1_xs_coder f2_xs_value f3_ya f4_COMPACT_STRINGS ne_xs_ya g_xs hd0 hd1 hwc) hZ (w_ hw 58 rfl) (w_ hw 8 rfl) (by decide) (by decide)) (g := (mkF m 6 #[sR xs,sR ya] [.null,(.int 2),(.int 0),(.ref ya),(.ref xs)])) rfl (by rw [hml]; rfl) (Steps.refl _) (a := xs) (argsL := [(.ref ya),(.int 0),(.int 2),.null]) (rest := []) (lenOf pd_11 rfl) rfl (own_rm rfl) (hb hby d10_6) (fun _ _ => ⟨rfl,e0,(by decide : 0 + 1 ≤ _),(by decide : 0 + 2 ≤ _)⟩)
  dsimp only [Pt.U, Pt.locs, Pt.cells, Pt.slots] at X2 l2 y2 z2 st2 hQ2
  replace X2 := own_cast X2 l2 y2 z2
  obtain ⟨yb_2,kb_2,rfl,N2q,K2q,po2_0,po2_1,po2_2,po2_3,px2_g_yb,px2_sz_yb⟩ := hQ2
  have N2 := Fr.app N0 N2q
  have f3 := f0_xs.keep K2q
  have f4 := f3_ya.keep K2q (ninS (Ne.symm ne_xs_ya) nin0)
  have f5 : Sta Z T2.heap "java/lang/String" "COMPACT_STRINGS" "Z" (.int wc) := own_staKeep f4_COMPACT_STRINGS K2q (allS (own_nst f0_xs) all0)
  have K2 := Keep.trans (Keep.refl h0 [xs]) K2q (allS (Or.inl (List.mem_of_getElem? (i := 0) rfl)) all0)
  have Z2 := Nat.le_trans Z0 K2.1
  have g_yb_2 := px2_g_yb
  have sz_yb_2 : h0.size ≤ yb_2 := Nat.le_trans ((Keep.refl h0 [xs])).1 px2_sz_yb
  have ne_xs_yb_2 : xs ≠ yb_2 := Nat.ne_of_lt (Nat.lt_of_lt_of_le f0_xs.lt px2_sz_yb)
  have ne_ya_yb_2 : ya ≠ yb_2 := Nat.ne_of_lt (Nat.lt_of_lt_of_le f3_ya.lt px2_sz_yb)
  refine gv T2 9 #[sR xs,sR ya] [] (fun t k => st2.trans k) ?_
  exact own_retV X2 hx Bd.notSynchronized Bd.returns (hb hby d10_9) rfl ⟨yb_2,kb_2,rfl,N2,K2,po2_0,po2_1,po2_2,po2_3,g_yb_2,sz_yb_2⟩ (by decide) (by decide)
theorem ef_153 (m : MethodId) (ya : Addr) : entryFrame m #[(.ref ya), (.int (3 : Int32))] 2 = mkF m 0 #[.val (.ref ya), .val (.int (3 : Int32))] [] := by first | (simp [entryFrame, mkF, argsToLocals, Value.category]; done) | rfl
def Q153 (Z : State) (ya : Addr) (ka : ClassId) (vs : List Value) (h0 : Heap) (n0 : Nat) (v : Option Value) (h : Heap) (L : List Loc) : Prop := v = some (.int (0 : Int32)) ∧ Fr n0 L ∧ h = h0
set_option maxRecDepth 65536 in
set_option maxHeartbeats 40000000 in
theorem rm153 (l : Launch) (Z : State) (a0 : Array Value) (hw : ∀ d ∈ tables_1, d.before a0 Z = true) (ws : List Jvm.Cond) (ya : Addr) (ka : ClassId) (vs : List Value) (h0 : Heap) (n0 : Nat) (Z0 : n0 ≤ h0.size) (f0_ya : Arv Z h0 ya ka .byte (3 : Int32) vs (.int (0 : Int32))) :
    MetFree l (⟨"java/lang/StringUTF16", "coderFromArrayLen", "([BI)B"⟩ : MethodName) (head1 (Jvm.Cond.code (⟨"java/lang/StringUTF16", "coderFromArrayLen", "([BI)B"⟩ : MethodName) jdk_52_method_15_code 2 (some .byte) :: ws) ({ frames := 0, cells := 0, slots := 0, locals := 0 } : Room)) (fun a U => a = #[(.ref ya), (.int 3)] ∧ Z.Warmed39 U.vm ∧ U.heap = h0) (fun _ _ _ _ _ => True) (fun _ U o U' => ∃ v L, o = .returned v ∧ Q153 Z ya ka vs h0 n0 v U'.heap L ∧ FrameEnd U o U' L 0 0) := by
  refine MetFree.of_bodySF (plainFor_of_name pn_105) hisR ?_
  intro p e s m args below meth c s₁ Bd hml0 hP hK
  obtain ⟨rfl,hZ,hh⟩ := hP
  have hx := Bd.exec
  have hby := Bd.bytes
  have hml : c.maxLocals = 2 := hml0
  have hown : s.vm.findClass "java/lang/StringUTF16" = some m.cls := findClass_of_methodNamed Bd.named
  have hnm := (name_of_methodNamed Bd.named Bd.method).1
  have X0 : Stand p l e ({ frames := 0,cells := 0,slots := 0,locals := 0 } : Room) s m #[(.ref ya),(.int 3)] below meth c s₁ [] 0 0 := Stand.of_body Bd
  have e0 : s₁.heap = h0 := by rw [← hh,Bd.state]; rfl
  have N0 := Fr.nil n0
  refine own_start (Q := fun v h L => Q153 Z ya ka vs h0 n0 v h L) ?_
  refine gv s₁ 0 #[sR ya,sI 3] [] (fun t k => castTop (ef_153 m ya) k) ?_
  refine gv s₁ 1 #[sR ya,sI 3] [(.int 3)] (fun t k => XS.iloadN X0.here hx rfl (hb hby d15_0) rfl k) ?_
  refine gv s₁ 2 #[sR ya,sI 3] [(.ref ya),(.int 3)] (fun t k => XS.aloadN X0.here hx rfl (hb hby d15_1) rfl rfl k) ?_
  obtain ⟨cl1,Ar1,q1,S1,M1,Hs1,G1⟩ := id f0_ya
  refine gv s₁ 3 #[sR ya,sI 3] [(.int 3),(.int 3)] (fun t k => X0.arraylength hx (by rw [e0]; exact Ar1.1) (State.isArrayOf_alike hZ.alike Ar1.2.1) (g := (mkF m 2 #[sR ya,sI 3] [(.ref ya),(.int 3)])) rfl rfl (hb hby d15_2) _ (by rw [len_of S1 M1]; exact k)) ?_
  refine gv s₁ 4 #[sR ya,sI 3] [(.int 0)] (fun t k => XS.isub X0.here hx rfl (hb hby d15_3) rfl k) ?_
  refine gv s₁ 6 #[sR ya,sI 3] [(.int 31),(.int 0)] (fun t k => XS.bipush X0.here hx rfl (hb hby d15_4) k) ?_
  refine gv s₁ 7 #[sR ya,sI 3] [(.int 0)] (fun t k => XS.iushr X0.here hx rfl (hb hby d15_6) rfl k) ?_
  refine gv s₁ 8 #[sR ya,sI 3] [(.int 0)] (fun t k => XS.i2b X0.here hx rfl (hb hby d15_7) rfl k) ?_
  exact own_ret X0 hx Bd.notSynchronized Bd.returns rfl (Or.inl ⟨rfl,by simp,_,rfl⟩) (hb hby d15_8) e0 ⟨rfl,N0,rfl⟩ (by decide) (by decide)
theorem ef_143 (m : MethodId) (ya : Addr) (yb : Addr) : entryFrame m #[(.ref ya), (.int (0 : Int32)), (.ref yb), (.int (0 : Int32)), (.int (3 : Int32))] 7 = mkF m 0 #[.val (.ref ya), .val (.int (0 : Int32)), .val (.ref yb), .val (.int (0 : Int32)), .val (.int (3 : Int32)), .unset, .unset] [] := by first | (simp [entryFrame, mkF, argsToLocals, Value.category]; done) | rfl
def Q143 (Z : State) (ya : Addr) (yb : Addr) (ka : ClassId) (kb : ClassId) (d0 : Int32) (d1 : Int32) (d2 : Int32) (h0 : Heap) (n0 : Nat) (v : Option Value) (h : Heap) (L : List Loc) : Prop := v = some (.int (3 : Int32)) ∧ Fr n0 L ∧ Keep h0 h [yb] ∧ Arv Z h yb kb .byte (3 : Int32) [(.int (nar .byte (d0.toInt8.toInt32))), (.int (nar .byte (d1.toInt8.toInt32))), (.int (nar .byte (d2.toInt8.toInt32)))] (.int (0 : Int32))
set_option maxRecDepth 65536 in
set_option maxHeartbeats 40000000 in
theorem rm143 (l : Launch) (Z : State) (a0 : Array Value) (hw : ∀ d ∈ tables_1, d.before a0 Z = true) (ws : List Jvm.Cond) (ya : Addr) (yb : Addr) (ka : ClassId) (kb : ClassId) (d0 : Int32) (d1 : Int32) (d2 : Int32) (h0 : Heap) (n0 : Nat) (Z0 : n0 ≤ h0.size) (f0_ya : Arv Z h0 ya ka .char (3 : Int32) [(.int d0), (.int d1), (.int d2)] (.int (0 : Int32))) (f1_yb : Arv Z h0 yb kb .byte (3 : Int32) [(.int (0 : Int32)), (.int (0 : Int32)), (.int (0 : Int32))] (.int (0 : Int32))) (ne_ya_yb : ya ≠ yb) (g_yb : n0 ≤ yb) (hd0 : ¬ (255 : Int32) < d0) (hd1 : ¬ (255 : Int32) < d1) (hd2 : ¬ (255 : Int32) < d2) :
    MetFree l (⟨"java/lang/StringUTF16", "compress", "([CI[BII)I"⟩ : MethodName) (head1 (Jvm.Cond.code (⟨"java/lang/StringUTF16", "compress", "([CI[BII)I"⟩ : MethodName) jdk_52_method_21_code 7 (some .int) :: ws) ({ frames := 0, cells := 0, slots := 0, locals := 0 } : Room)) (fun a U => a = #[(.ref ya), (.int 0), (.ref yb), (.int 0), (.int 3)] ∧ Z.Warmed39 U.vm ∧ U.heap = h0) (fun _ _ _ _ _ => True) (fun _ U o U' => ∃ v L, o = .returned v ∧ Q143 Z ya yb ka kb d0 d1 d2 h0 n0 v U'.heap L ∧ FrameEnd U o U' L 0 0) := by
  refine MetFree.of_bodySF (plainFor_of_name pn_105) hisR ?_
  intro p e s m args below meth c s₁ Bd hml0 hP hK
  obtain ⟨rfl,hZ,hh⟩ := hP
  have hx := Bd.exec
  have hby := Bd.bytes
  have hml : c.maxLocals = 7 := hml0
  have hown : s.vm.findClass "java/lang/StringUTF16" = some m.cls := findClass_of_methodNamed Bd.named
  have hnm := (name_of_methodNamed Bd.named Bd.method).1
  have X0 : Stand p l e ({ frames := 0,cells := 0,slots := 0,locals := 0 } : Room) s m #[(.ref ya),(.int 0),(.ref yb),(.int 0),(.int 3)] below meth c s₁ [] 0 0 := Stand.of_body Bd
  have e0 : s₁.heap = h0 := by rw [← hh,Bd.state]; rfl
  have N0 := Fr.nil n0
  refine own_start (Q := fun v h L => Q143 Z ya yb ka kb d0 d1 d2 h0 n0 v h L) ?_
  refine gv s₁ 0 #[sR ya,sI 0,sR yb,sI 0,sI 3,sU,sU] [] (fun t k => castTop (ef_143 m ya yb) k) ?_
  refine gv s₁ 1 #[sR ya,sI 0,sR yb,sI 0,sI 3,sU,sU] [(.int 0)] (fun t k => XS.iconst X0.here hx rfl (hb hby d14_0) k) ?_
  refine gv s₁ 3 #[sR ya,sI 0,sR yb,sI 0,sI 3,sI 0,sU] [] (fun t k => XS.istore X0.here hx rfl (hb hby d14_1) rfl (l' := #[sR ya,sI 0,sR yb,sI 0,sI 3,sI 0,sU]) rfl k) ?_
  refine gv s₁ 5 #[sR ya,sI 0,sR yb,sI 0,sI 3,sI 0,sU] [(.int 0)] (fun t k => XS.iload X0.here hx rfl (hb hby d14_3) rfl k) ?_
  refine gv s₁ 7 #[sR ya,sI 0,sR yb,sI 0,sI 3,sI 0,sU] [(.int 3),(.int 0)] (fun t k => XS.iload X0.here hx rfl (hb hby d14_5) rfl k) ?_
  refine gv s₁ 10 #[sR ya,sI 0,sR yb,sI 0,sI 3,sI 0,sU] [] (fun t k => XS.icmpNo X0.here hx rfl (hb hby d14_7) rfl (tlt (by decide : ((0 : Int32) < (3 : Int32)))).2.1 k) ?_
  refine gv s₁ 11 #[sR ya,sI 0,sR yb,sI 0,sI 3,sI 0,sU] [(.ref ya)] (fun t k => XS.aloadN X0.here hx rfl (hb hby d14_10) rfl rfl k) ?_
  refine gv s₁ 12 #[sR ya,sI 0,sR yb,sI 0,sI 3,sI 0,sU] [(.int 0),(.ref ya)] (fun t k => XS.iloadN X0.here hx rfl (hb hby d14_11) rfl k) ?_
  obtain ⟨cl1,Ar1,q1,S1,M1,Hs1,G1⟩ := id f0_ya
  have hin1 : ¬ ((0 : Int32) < 0 ∨ cl1.slots.size ≤ ((0 : Int32)).toNatClampNeg) := inb_of S1 ⟨by decide,by decide⟩
  have hat1 : cl1.slots[((0 : Int32)).toNatClampNeg]? = some (.int d0) := Has.at Hs1 hin1 rfl
  refine gv s₁ 13 #[sR ya,sI 0,sR yb,sI 0,sI 3,sI 0,sU] [(.int d0)] (fun t k => X0.caload hx (j := (0 : Int32)) (v := (.int d0)) (by rw [e0]; exact Ar1.1) (State.isArrayOf_alike hZ.alike Ar1.2.1) Ar1.2.2 hin1 hat1 (g := (mkF m 12 #[sR ya,sI 0,sR yb,sI 0,sI 3,sI 0,sU] [(.int 0),(.ref ya)])) rfl rfl (hb hby d14_12) _ k) ?_
  refine gv s₁ 15 #[sR ya,sI 0,sR yb,sI 0,sI 3,sI 0,sI d0] [] (fun t k => XS.istore X0.here hx rfl (hb hby d14_13) rfl (l' := #[sR ya,sI 0,sR yb,sI 0,sI 3,sI 0,sI d0]) rfl k) ?_
  refine gv s₁ 17 #[sR ya,sI 0,sR yb,sI 0,sI 3,sI 0,sI d0] [(.int d0)] (fun t k => XS.iload X0.here hx rfl (hb hby d14_15) rfl k) ?_
  refine gv s₁ 20 #[sR ya,sI 0,sR yb,sI 0,sI 3,sI 0,sI d0] [(.int 255),(.int d0)] (fun t k => XS.sipush X0.here hx rfl (hb hby d14_17) k) ?_
  refine gv s₁ 26 #[sR ya,sI 0,sR yb,sI 0,sI 3,sI 0,sI d0] [] (fun t k => XS.icmpYes X0.here hx rfl (pc0 := 20) (pc' := 26) rfl (hb hby d14_20) rfl (flt hd0).2.2.2 (by decide) (by decide) k) ?_
  refine gv s₁ 27 #[sR ya,sI 0,sR yb,sI 0,sI 3,sI 0,sI d0] [(.ref yb)] (fun t k => XS.aloadN X0.here hx rfl (hb hby d14_26) rfl rfl k) ?_
  refine gv s₁ 28 #[sR ya,sI 0,sR yb,sI 0,sI 3,sI 0,sI d0] [(.int 0),(.ref yb)] (fun t k => XS.iloadN X0.here hx rfl (hb hby d14_27) rfl k) ?_
  refine gv s₁ 30 #[sR ya,sI 0,sR yb,sI 0,sI 3,sI 0,sI d0] [(.int d0),(.int 0),(.ref yb)] (fun t k => XS.iload X0.here hx rfl (hb hby d14_28) rfl k) ?_
  refine gv s₁ 31 #[sR ya,sI 0,sR yb,sI 0,sI 3,sI 0,sI d0] [(.int (d0.toInt8.toInt32)),(.int 0),(.ref yb)] (fun t k => XS.i2b X0.here hx rfl (hb hby d14_30) rfl k) ?_
  obtain ⟨cl2,Ar2,q2,S2,M2,Hs2,G2⟩ := id f1_yb
  have hin2 : ¬ ((0 : Int32) < 0 ∨ cl2.slots.size ≤ ((0 : Int32)).toNatClampNeg) := inb_of S2 ⟨by decide,by decide⟩
  obtain ⟨T2,h2,X2,e2,W2,st2⟩ := stB X0 hx hZ e0 Ar2 (j := (0 : Int32)) hin2 (g := (mkF m 31 #[sR ya,sI 0,sR yb,sI 0,sI 3,sI 0,sI d0] [(.int (d0.toInt8.toInt32)),(.int 0),(.ref yb)])) rfl rfl (hb hby d14_31)
  have f3 := f0_ya.other W2 ne_ya_yb
  have f4 : Arv Z h2 yb kb .byte (3 : Int32) [(.int (nar .byte (d0.toInt8.toInt32))),(.int 0),(.int 0)] (.int 0) := Arv.set Ar2 q2 S2 M2 Hs2 G2 (fits_nar_byte _) W2 0 rfl (Nat.le_of_ble_eq_true rfl)
  have K2 := Keep.wr (Keep.refl h0 [yb]) W2 (Or.inl (List.mem_of_getElem? (i := 0) rfl))
  have Z2 := Nat.le_trans Z0 K2.1
  have N2 := Fr.snoc X2 N0 g_yb
  refine gv T2 32 #[sR ya,sI 0,sR yb,sI 0,sI 3,sI 0,sI d0] [] (fun t k => st2 _ k) ?_
  refine gv T2 35 #[sR ya,sI 1,sR yb,sI 0,sI 3,sI 0,sI d0] [] (fun t k => XS.iinc X2.here hx rfl (hb hby d14_32) rfl (l' := #[sR ya,sI 1,sR yb,sI 0,sI 3,sI 0,sI d0]) rfl k) ?_
  refine gv T2 38 #[sR ya,sI 1,sR yb,sI 1,sI 3,sI 0,sI d0] [] (fun t k => XS.iinc X2.here hx rfl (hb hby d14_35) rfl (l' := #[sR ya,sI 1,sR yb,sI 1,sI 3,sI 0,sI d0]) rfl k) ?_
  refine gv T2 41 #[sR ya,sI 1,sR yb,sI 1,sI 3,sI 1,sI d0] [] (fun t k => XS.iinc X2.here hx rfl (hb hby d14_38) rfl (l' := #[sR ya,sI 1,sR yb,sI 1,sI 3,sI 1,sI d0]) rfl k) ?_
  refine gv T2 3 #[sR ya,sI 1,sR yb,sI 1,sI 3,sI 1,sI d0] [] (fun t k => XS.goto X2.here hx rfl (pc0 := 41) (pc' := 3) rfl (hb hby d14_41) (by decide) (by decide) k) ?_
  refine gv T2 5 #[sR ya,sI 1,sR yb,sI 1,sI 3,sI 1,sI d0] [(.int 1)] (fun t k => XS.iload X2.here hx rfl (hb hby d14_3) rfl k) ?_
  refine gv T2 7 #[sR ya,sI 1,sR yb,sI 1,sI 3,sI 1,sI d0] [(.int 3),(.int 1)] (fun t k => XS.iload X2.here hx rfl (hb hby d14_5) rfl k) ?_
  refine gv T2 10 #[sR ya,sI 1,sR yb,sI 1,sI 3,sI 1,sI d0] [] (fun t k => XS.icmpNo X2.here hx rfl (hb hby d14_7) rfl (tlt (by decide : ((1 : Int32) < (3 : Int32)))).2.1 k) ?_
  refine gv T2 11 #[sR ya,sI 1,sR yb,sI 1,sI 3,sI 1,sI d0] [(.ref ya)] (fun t k => XS.aloadN X2.here hx rfl (hb hby d14_10) rfl rfl k) ?_
  refine gv T2 12 #[sR ya,sI 1,sR yb,sI 1,sI 3,sI 1,sI d0] [(.int 1),(.ref ya)] (fun t k => XS.iloadN X2.here hx rfl (hb hby d14_11) rfl k) ?_
  obtain ⟨cl5,Ar5,q5,S5,M5,Hs5,G5⟩ := id f3
  have hin5 : ¬ ((1 : Int32) < 0 ∨ cl5.slots.size ≤ ((1 : Int32)).toNatClampNeg) := inb_of S5 ⟨by decide,by decide⟩
  have hat5 : cl5.slots[((1 : Int32)).toNatClampNeg]? = some (.int d1) := Has.at Hs5 hin5 rfl
  refine gv T2 13 #[sR ya,sI 1,sR yb,sI 1,sI 3,sI 1,sI d0] [(.int d1)] (fun t k => X2.caload hx (j := (1 : Int32)) (v := (.int d1)) (by rw [e2]; exact Ar5.1) (State.isArrayOf_alike hZ.alike Ar5.2.1) Ar5.2.2 hin5 hat5 (g := (mkF m 12 #[sR ya,sI 1,sR yb,sI 1,sI 3,sI 1,sI d0] [(.int 1),(.ref ya)])) rfl rfl (hb hby d14_12) _ k) ?_
  refine gv T2 15 #[sR ya,sI 1,sR yb,sI 1,sI 3,sI 1,sI d1] [] (fun t k => XS.istore X2.here hx rfl (hb hby d14_13) rfl (l' := #[sR ya,sI 1,sR yb,sI 1,sI 3,sI 1,sI d1]) rfl k) ?_
  refine gv T2 17 #[sR ya,sI 1,sR yb,sI 1,sI 3,sI 1,sI d1] [(.int d1)] (fun t k => XS.iload X2.here hx rfl (hb hby d14_15) rfl k) ?_
  refine gv T2 20 #[sR ya,sI 1,sR yb,sI 1,sI 3,sI 1,sI d1] [(.int 255),(.int d1)] (fun t k => XS.sipush X2.here hx rfl (hb hby d14_17) k) ?_
  refine gv T2 26 #[sR ya,sI 1,sR yb,sI 1,sI 3,sI 1,sI d1] [] (fun t k => XS.icmpYes X2.here hx rfl (pc0 := 20) (pc' := 26) rfl (hb hby d14_20) rfl (flt hd1).2.2.2 (by decide) (by decide) k) ?_
  refine gv T2 27 #[sR ya,sI 1,sR yb,sI 1,sI 3,sI 1,sI d1] [(.ref yb)] (fun t k => XS.aloadN X2.here hx rfl (hb hby d14_26) rfl rfl k) ?_
  refine gv T2 28 #[sR ya,sI 1,sR yb,sI 1,sI 3,sI 1,sI d1] [(.int 1),(.ref yb)] (fun t k => XS.iloadN X2.here hx rfl (hb hby d14_27) rfl k) ?_
  refine gv T2 30 #[sR ya,sI 1,sR yb,sI 1,sI 3,sI 1,sI d1] [(.int d1),(.int 1),(.ref yb)] (fun t k => XS.iload X2.here hx rfl (hb hby d14_28) rfl k) ?_
  refine gv T2 31 #[sR ya,sI 1,sR yb,sI 1,sI 3,sI 1,sI d1] [(.int (d1.toInt8.toInt32)),(.int 1),(.ref yb)] (fun t k => XS.i2b X2.here hx rfl (hb hby d14_30) rfl k) ?_
  obtain ⟨cl6,Ar6,q6,S6,M6,Hs6,G6⟩ := id f4
  have hin6 : ¬ ((1 : Int32) < 0 ∨ cl6.slots.size ≤ ((1 : Int32)).toNatClampNeg) := inb_of S6 ⟨by decide,by decide⟩
  obtain ⟨T6,h6,X6,e6,W6,st6⟩ := stB X2 hx hZ e2 Ar6 (j := (1 : Int32)) hin6 (g := (mkF m 31 #[sR ya,sI 1,sR yb,sI 1,sI 3,sI 1,sI d1] [(.int (d1.toInt8.toInt32)),(.int 1),(.ref yb)])) rfl rfl (hb hby d14_31)
  have f7 := f3.other W6 ne_ya_yb
  have f8 : Arv Z h6 yb kb .byte (3 : Int32) [(.int (nar .byte (d0.toInt8.toInt32))),(.int (nar .byte (d1.toInt8.toInt32))),(.int 0)] (.int 0) := Arv.set Ar6 q6 S6 M6 Hs6 G6 (fits_nar_byte _) W6 1 rfl (Nat.le_of_ble_eq_true rfl)
  have K6 := Keep.wr K2 W6 (Or.inl (List.mem_of_getElem? (i := 0) rfl))
  have Z6 := Nat.le_trans Z0 K6.1
  have N6 := Fr.snoc X6 N2 g_yb
  refine gv T6 32 #[sR ya,sI 1,sR yb,sI 1,sI 3,sI 1,sI d1] [] (fun t k => st6 _ k) ?_
  refine gv T6 35 #[sR ya,sI 2,sR yb,sI 1,sI 3,sI 1,sI d1] [] (fun t k => XS.iinc X6.here hx rfl (hb hby d14_32) rfl (l' := #[sR ya,sI 2,sR yb,sI 1,sI 3,sI 1,sI d1]) rfl k) ?_
  refine gv T6 38 #[sR ya,sI 2,sR yb,sI 2,sI 3,sI 1,sI d1] [] (fun t k => XS.iinc X6.here hx rfl (hb hby d14_35) rfl (l' := #[sR ya,sI 2,sR yb,sI 2,sI 3,sI 1,sI d1]) rfl k) ?_
  refine gv T6 41 #[sR ya,sI 2,sR yb,sI 2,sI 3,sI 2,sI d1] [] (fun t k => XS.iinc X6.here hx rfl (hb hby d14_38) rfl (l' := #[sR ya,sI 2,sR yb,sI 2,sI 3,sI 2,sI d1]) rfl k) ?_
  refine gv T6 3 #[sR ya,sI 2,sR yb,sI 2,sI 3,sI 2,sI d1] [] (fun t k => XS.goto X6.here hx rfl (pc0 := 41) (pc' := 3) rfl (hb hby d14_41) (by decide) (by decide) k) ?_
  refine gv T6 5 #[sR ya,sI 2,sR yb,sI 2,sI 3,sI 2,sI d1] [(.int 2)] (fun t k => XS.iload X6.here hx rfl (hb hby d14_3) rfl k) ?_
  refine gv T6 7 #[sR ya,sI 2,sR yb,sI 2,sI 3,sI 2,sI d1] [(.int 3),(.int 2)] (fun t k => XS.iload X6.here hx rfl (hb hby d14_5) rfl k) ?_
  refine gv T6 10 #[sR ya,sI 2,sR yb,sI 2,sI 3,sI 2,sI d1] [] (fun t k => XS.icmpNo X6.here hx rfl (hb hby d14_7) rfl (tlt (by decide : ((2 : Int32) < (3 : Int32)))).2.1 k) ?_
  refine gv T6 11 #[sR ya,sI 2,sR yb,sI 2,sI 3,sI 2,sI d1] [(.ref ya)] (fun t k => XS.aloadN X6.here hx rfl (hb hby d14_10) rfl rfl k) ?_
  refine gv T6 12 #[sR ya,sI 2,sR yb,sI 2,sI 3,sI 2,sI d1] [(.int 2),(.ref ya)] (fun t k => XS.iloadN X6.here hx rfl (hb hby d14_11) rfl k) ?_
  obtain ⟨cl9,Ar9,q9,S9,M9,Hs9,G9⟩ := id f7
  have hin9 : ¬ ((2 : Int32) < 0 ∨ cl9.slots.size ≤ ((2 : Int32)).toNatClampNeg) := inb_of S9 ⟨by decide,by decide⟩
  have hat9 : cl9.slots[((2 : Int32)).toNatClampNeg]? = some (.int d2) := Has.at Hs9 hin9 rfl
  refine gv T6 13 #[sR ya,sI 2,sR yb,sI 2,sI 3,sI 2,sI d1] [(.int d2)] (fun t k => X6.caload hx (j := (2 : Int32)) (v := (.int d2)) (by rw [e6]; exact Ar9.1) (State.isArrayOf_alike hZ.alike Ar9.2.1) Ar9.2.2 hin9 hat9 (g := (mkF m 12 #[sR ya,sI 2,sR yb,sI 2,sI 3,sI 2,sI d1] [(.int 2),(.ref ya)])) rfl rfl (hb hby d14_12) _ k) ?_
  refine gv T6 15 #[sR ya,sI 2,sR yb,sI 2,sI 3,sI 2,sI d2] [] (fun t k => XS.istore X6.here hx rfl (hb hby d14_13) rfl (l' := #[sR ya,sI 2,sR yb,sI 2,sI 3,sI 2,sI d2]) rfl k) ?_
  refine gv T6 17 #[sR ya,sI 2,sR yb,sI 2,sI 3,sI 2,sI d2] [(.int d2)] (fun t k => XS.iload X6.here hx rfl (hb hby d14_15) rfl k) ?_
  refine gv T6 20 #[sR ya,sI 2,sR yb,sI 2,sI 3,sI 2,sI d2] [(.int 255),(.int d2)] (fun t k => XS.sipush X6.here hx rfl (hb hby d14_17) k) ?_
  refine gv T6 26 #[sR ya,sI 2,sR yb,sI 2,sI 3,sI 2,sI d2] [] (fun t k => XS.icmpYes X6.here hx rfl (pc0 := 20) (pc' := 26) rfl (hb hby d14_20) rfl (flt hd2).2.2.2 (by decide) (by decide) k) ?_
  refine gv T6 27 #[sR ya,sI 2,sR yb,sI 2,sI 3,sI 2,sI d2] [(.ref yb)] (fun t k => XS.aloadN X6.here hx rfl (hb hby d14_26) rfl rfl k) ?_
  refine gv T6 28 #[sR ya,sI 2,sR yb,sI 2,sI 3,sI 2,sI d2] [(.int 2),(.ref yb)] (fun t k => XS.iloadN X6.here hx rfl (hb hby d14_27) rfl k) ?_
  refine gv T6 30 #[sR ya,sI 2,sR yb,sI 2,sI 3,sI 2,sI d2] [(.int d2),(.int 2),(.ref yb)] (fun t k => XS.iload X6.here hx rfl (hb hby d14_28) rfl k) ?_
  refine gv T6 31 #[sR ya,sI 2,sR yb,sI 2,sI 3,sI 2,sI d2] [(.int (d2.toInt8.toInt32)),(.int 2),(.ref yb)] (fun t k => XS.i2b X6.here hx rfl (hb hby d14_30) rfl k) ?_
  obtain ⟨cl10,Ar10,q10,S10,M10,Hs10,G10⟩ := id f8
  have hin10 : ¬ ((2 : Int32) < 0 ∨ cl10.slots.size ≤ ((2 : Int32)).toNatClampNeg) := inb_of S10 ⟨by decide,by decide⟩
  obtain ⟨T10,h10,X10,e10,W10,st10⟩ := stB X6 hx hZ e6 Ar10 (j := (2 : Int32)) hin10 (g := (mkF m 31 #[sR ya,sI 2,sR yb,sI 2,sI 3,sI 2,sI d2] [(.int (d2.toInt8.toInt32)),(.int 2),(.ref yb)])) rfl rfl (hb hby d14_31)
  have f11 := f7.other W10 ne_ya_yb
  have f12 : Arv Z h10 yb kb .byte (3 : Int32) [(.int (nar .byte (d0.toInt8.toInt32))),(.int (nar .byte (d1.toInt8.toInt32))),(.int (nar .byte (d2.toInt8.toInt32)))] (.int 0) := Arv.set Ar10 q10 S10 M10 Hs10 G10 (fits_nar_byte _) W10 2 rfl (Nat.le_of_ble_eq_true rfl)
  have K10 := Keep.wr K6 W10 (Or.inl (List.mem_of_getElem? (i := 0) rfl))
  have Z10 := Nat.le_trans Z0 K10.1
  have N10 := Fr.snoc X10 N6 g_yb
  refine gv T10 32 #[sR ya,sI 2,sR yb,sI 2,sI 3,sI 2,sI d2] [] (fun t k => st10 _ k) ?_
  refine gv T10 35 #[sR ya,sI 3,sR yb,sI 2,sI 3,sI 2,sI d2] [] (fun t k => XS.iinc X10.here hx rfl (hb hby d14_32) rfl (l' := #[sR ya,sI 3,sR yb,sI 2,sI 3,sI 2,sI d2]) rfl k) ?_
  refine gv T10 38 #[sR ya,sI 3,sR yb,sI 3,sI 3,sI 2,sI d2] [] (fun t k => XS.iinc X10.here hx rfl (hb hby d14_35) rfl (l' := #[sR ya,sI 3,sR yb,sI 3,sI 3,sI 2,sI d2]) rfl k) ?_
  refine gv T10 41 #[sR ya,sI 3,sR yb,sI 3,sI 3,sI 3,sI d2] [] (fun t k => XS.iinc X10.here hx rfl (hb hby d14_38) rfl (l' := #[sR ya,sI 3,sR yb,sI 3,sI 3,sI 3,sI d2]) rfl k) ?_
  refine gv T10 3 #[sR ya,sI 3,sR yb,sI 3,sI 3,sI 3,sI d2] [] (fun t k => XS.goto X10.here hx rfl (pc0 := 41) (pc' := 3) rfl (hb hby d14_41) (by decide) (by decide) k) ?_
  refine gv T10 5 #[sR ya,sI 3,sR yb,sI 3,sI 3,sI 3,sI d2] [(.int 3)] (fun t k => XS.iload X10.here hx rfl (hb hby d14_3) rfl k) ?_
  refine gv T10 7 #[sR ya,sI 3,sR yb,sI 3,sI 3,sI 3,sI d2] [(.int 3),(.int 3)] (fun t k => XS.iload X10.here hx rfl (hb hby d14_5) rfl k) ?_
  refine gv T10 44 #[sR ya,sI 3,sR yb,sI 3,sI 3,sI 3,sI d2] [] (fun t k => XS.icmpYes X10.here hx rfl (pc0 := 7) (pc' := 44) rfl (hb hby d14_7) rfl (flt (by decide : ¬ ((3 : Int32) < (3 : Int32)))).2.1 (by decide) (by decide) k) ?_
  refine gv T10 46 #[sR ya,sI 3,sR yb,sI 3,sI 3,sI 3,sI d2] [(.int 3)] (fun t k => XS.iload X10.here hx rfl (hb hby d14_44) rfl k) ?_
  exact own_ret X10 hx Bd.notSynchronized Bd.returns rfl (Or.inl ⟨rfl,by simp,_,rfl⟩) (hb hby d14_46) e10 ⟨rfl,N10,K10,f12⟩ (by decide) (by decide)
theorem ef_133 (m : MethodId) (ya : Addr) : entryFrame m #[(.ref ya), (.int (0 : Int32)), (.int (3 : Int32))] 6 = mkF m 0 #[.val (.ref ya), .val (.int (0 : Int32)), .val (.int (3 : Int32)), .unset, .unset, .unset] [] := by first | (simp [entryFrame, mkF, argsToLocals, Value.category]; done) | rfl
def Q133 (Z : State) (ya : Addr) (ka : ClassId) (d0 : Int32) (d1 : Int32) (d2 : Int32) (h0 : Heap) (n0 : Nat) (v : Option Value) (h : Heap) (L : List Loc) : Prop := ∃ (yb : Addr) (kb : ClassId), v = some (.ref yb) ∧ Fr n0 L ∧ Keep h0 h [] ∧ Arv Z h yb kb .byte (3 : Int32) [(.int (nar .byte (d0.toInt8.toInt32))), (.int (nar .byte (d1.toInt8.toInt32))), (.int (nar .byte (d2.toInt8.toInt32)))] (.int (0 : Int32)) ∧ n0 ≤ yb ∧ h0.size ≤ yb
set_option maxRecDepth 65536 in
set_option maxHeartbeats 40000000 in
theorem rm133 (l : Launch) (Z : State) (a0 : Array Value) (hw : ∀ d ∈ tables_1, d.before a0 Z = true) (ws : List Jvm.Cond) (ya : Addr) (ka : ClassId) (d0 : Int32) (d1 : Int32) (d2 : Int32) (h0 : Heap) (n0 : Nat) (Z0 : n0 ≤ h0.size) (f0_ya : Arv Z h0 ya ka .char (3 : Int32) [(.int d0), (.int d1), (.int d2)] (.int (0 : Int32))) (hd0 : ¬ (255 : Int32) < d0) (hd1 : ¬ (255 : Int32) < d1) (hd2 : ¬ (255 : Int32) < d2) :
    MetFree l (⟨"java/lang/StringUTF16", "compress", "([CII)[B"⟩ : MethodName) (head1 (Jvm.Cond.code (⟨"java/lang/StringUTF16", "compress", "([CII)[B"⟩ : MethodName) jdk_52_method_16_code 6 (some (.array .byte)) :: ws) ({ frames := 1, cells := 1, slots := 3, locals := 18 } : Room)) (fun a U => a = #[(.ref ya), (.int 0), (.int 3)] ∧ Z.Warmed39 U.vm ∧ U.heap = h0) (fun _ _ _ _ _ => True) (fun _ U o U' => ∃ v L, o = .returned v ∧ Q133 Z ya ka d0 d1 d2 h0 n0 v U'.heap L ∧ FrameEnd U o U' L 1 3) := by
  refine MetFree.of_bodySF (plainFor_of_name pn_105) hisR ?_
  intro p e s m args below meth c s₁ Bd hml0 hP hK
  obtain ⟨rfl,hZ,hh⟩ := hP
  have hx := Bd.exec
  have hby := Bd.bytes
  have hml : c.maxLocals = 6 := hml0
  have hown : s.vm.findClass "java/lang/StringUTF16" = some m.cls := findClass_of_methodNamed Bd.named
  have hnm := (name_of_methodNamed Bd.named Bd.method).1
  have X0 : Stand p l e ({ frames := 1,cells := 1,slots := 3,locals := 18 } : Room) s m #[(.ref ya),(.int 0),(.int 3)] below meth c s₁ [] 0 0 := Stand.of_body Bd
  have e0 : s₁.heap = h0 := by rw [← hh,Bd.state]; rfl
  have N0 := Fr.nil n0
  refine own_start (Q := fun v h L => Q133 Z ya ka d0 d1 d2 h0 n0 v h L) ?_
  refine gv s₁ 0 #[sR ya,sI 0,sI 3,sU,sU,sU] [] (fun t k => castTop (ef_133 m ya) k) ?_
  refine gv s₁ 1 #[sR ya,sI 0,sI 3,sU,sU,sU] [(.int 3)] (fun t k => XS.iloadN X0.here hx rfl (hb hby d13_0) rfl k) ?_
  obtain ⟨T1,h1,k1,X1,e1,E1,A1,st1⟩ := newP X0 hx hZ (w_ hw 10 rfl) e0 (g := (mkF m 1 #[sR ya,sI 0,sI 3,sU,sU,sU] [(.int 3)])) rfl (hb hby d13_1) rfl (by decide) (cap := 3) (by decide) (by decide) (by decide) (by decide)
  obtain ⟨b1,g1⟩ : ∃ z,z = h0.size := ⟨_,rfl⟩
  rw [← g1] at A1 st1
  have f2 := f0_ya.ext E1
  have K1 := Keep.ext (Keep.refl h0 []) E1
  have Z1 := Nat.le_trans Z0 K1.1
  have g_b1 : n0 ≤ b1 := Nat.le_trans Z0 (Nat.le_of_eq g1.symm)
  have sz_b1 : h0.size ≤ b1 := Nat.le_trans ((Keep.refl h0 [])).1 (Nat.le_of_eq g1.symm)
  have ne_ya_b1 : ya ≠ b1 := Nat.ne_of_lt (Nat.lt_of_lt_of_le f0_ya.lt (Nat.le_of_eq g1.symm))
  have f3 : Arv Z h1 b1 k1 .byte (3 : Int32) [(.int 0),(.int 0),(.int 0)] (.int 0) := (Arv.new A1 (by decide)).pad (pad_rep [] (.int 0) 3)
  refine gv T1 3 #[sR ya,sI 0,sI 3,sU,sU,sU] [(.ref b1)] (fun t k => st1 _ k) ?_
  refine gv T1 4 #[sR ya,sI 0,sI 3,sR b1,sU,sU] [] (fun t k => XS.astoreN X1.here hx rfl (hb hby d13_3) rfl rfl (l' := #[sR ya,sI 0,sI 3,sR b1,sU,sU]) rfl k) ?_
  refine gv T1 5 #[sR ya,sI 0,sI 3,sR b1,sU,sU] [(.ref ya)] (fun t k => XS.aloadN X1.here hx rfl (hb hby d13_4) rfl rfl k) ?_
  refine gv T1 6 #[sR ya,sI 0,sI 3,sR b1,sU,sU] [(.int 0),(.ref ya)] (fun t k => XS.iloadN X1.here hx rfl (hb hby d13_5) rfl k) ?_
  refine gv T1 7 #[sR ya,sI 0,sI 3,sR b1,sU,sU] [(.ref b1),(.int 0),(.ref ya)] (fun t k => XS.aloadN X1.here hx rfl (hb hby d13_6) rfl rfl k) ?_
  refine gv T1 8 #[sR ya,sI 0,sI 3,sR b1,sU,sU] [(.int 0),(.ref b1),(.int 0),(.ref ya)] (fun t k => XS.iconst X1.here hx rfl (hb hby d13_7) k) ?_
  refine gv T1 9 #[sR ya,sI 0,sI 3,sR b1,sU,sU] [(.int 3),(.int 0),(.ref b1),(.int 0),(.ref ya)] (fun t k => XS.iloadN X1.here hx rfl (hb hby d13_8) rfl k) ?_
  obtain ⟨_,_,⟨T4,L4,k4,n4⟩,-,X4,⟨Lc4,hQ4,l4,y4,z4⟩,st4⟩ := Jvm.LawKit.callS X1 hx (y := (⟨"java/lang/StringUTF16","compress","([CI[BII)I"⟩ : MethodName)) hown (mvT hZ (w_ hw 66 rfl)) (mvT hZ (w_ hw 67 rfl)) (mvT hZ (w_ hw 64 rfl)) (mvT hZ (w_ hw 68 rfl)) (by decide) (backOf (W := 0) (rm143 l Z a0 hw [] ya b1 ka k1 d0 d1 d2 h1 n0 Z1 f2 f3 ne_ya_b1 g_b1 hd0 hd1 hd2) hZ (w_ hw 68 rfl) (w_ hw 64 rfl) (by decide) (by decide)) (g := (mkF m 9 #[sR ya,sI 0,sI 3,sR b1,sU,sU] [(.int 3),(.int 0),(.ref b1),(.int 0),(.ref ya)])) rfl (by rw [hml]; rfl) (argsL := [(.ref ya),(.int 0),(.ref b1),(.int 0),(.int 3)]) (rest := []) (lenOf pd_8 rfl) rfl (own_rm rfl) (hb hby d13_9) (fun _ _ => ⟨rfl,e1,(by decide : 1 + 0 ≤ _),(by decide : 3 + 0 ≤ _)⟩)
  dsimp only [Pt.U, Pt.locs, Pt.cells, Pt.slots] at X4 l4 y4 z4 st4 hQ4
  replace X4 := own_cast X4 l4 y4 z4
  obtain ⟨rfl,N4q,K4q,po4_0⟩ := hQ4
  have N4 := Fr.app N0 N4q
  have f5 := f2.keep K4q (ninS ne_ya_b1 nin0)
  have K4 := Keep.trans K1 K4q (allS (Or.inr sz_b1) all0)
  have Z4 := Nat.le_trans Z0 K4.1
  refine gv T4 12 #[sR ya,sI 0,sI 3,sR b1,sU,sU] [(.int 3)] (fun t k => st4 _ k) ?_
  refine gv T4 14 #[sR ya,sI 0,sI 3,sR b1,sI 3,sU] [] (fun t k => XS.istore X4.here hx rfl (hb hby d13_12) rfl (l' := #[sR ya,sI 0,sI 3,sR b1,sI 3,sU]) rfl k) ?_
  refine gv T4 16 #[sR ya,sI 0,sI 3,sR b1,sI 3,sU] [(.int 3)] (fun t k => XS.iload X4.here hx rfl (hb hby d13_14) rfl k) ?_
  refine gv T4 17 #[sR ya,sI 0,sI 3,sR b1,sI 3,sU] [(.int 3),(.int 3)] (fun t k => XS.iloadN X4.here hx rfl (hb hby d13_16) rfl k) ?_
  refine gv T4 57 #[sR ya,sI 0,sI 3,sR b1,sI 3,sU] [] (fun t k => XS.icmpYes X4.here hx rfl (pc0 := 17) (pc' := 57) rfl (hb hby d13_17) rfl (teq rfl).1 (by decide) (by decide) k) ?_
  refine gv T4 58 #[sR ya,sI 0,sI 3,sR b1,sI 3,sU] [(.ref b1)] (fun t k => XS.aloadN X4.here hx rfl (hb hby d13_57) rfl rfl k) ?_
  exact own_ret X4 hx Bd.notSynchronized Bd.returns rfl (Or.inr (Or.inr (Or.inr (Or.inr ⟨rfl,rfl,rfl⟩)))) (hb hby d13_58) rfl ⟨b1,k1,rfl,N4,K4,po4_0,g_b1,sz_b1⟩ (by decide) (by decide)
theorem ef_113 (m : MethodId) (xs : Addr) (ya : Addr) : entryFrame m #[(.ref xs), (.ref ya), (.int (0 : Int32)), (.int (3 : Int32)), .null] 6 = mkF m 0 #[.val (.ref xs), .val (.ref ya), .val (.int (0 : Int32)), .val (.int (3 : Int32)), .val .null, .unset] [] := by first | (simp [entryFrame, mkF, argsToLocals, Value.category]; done) | rfl
def Q113 (Z : State) (xs : Addr) (ya : Addr) (ka : ClassId) (wc : Int32) (u0 : Value) (u1 : Value) (d0 : Int32) (d1 : Int32) (d2 : Int32) (h0 : Heap) (n0 : Nat) (v : Option Value) (h : Heap) (L : List Loc) : Prop := ∃ (yb : Addr) (kb : ClassId), v = none ∧ Fr n0 L ∧ Keep h0 h [xs] ∧ Exa Z h xs "java/lang/String" ∧ Fld Z h xs "java/lang/String" "coder" "B" (.int (0 : Int32)) ∧ Fld Z h xs "java/lang/String" "value" "[B" (.ref yb) ∧ Arv Z h yb kb .byte (3 : Int32) [(.int (nar .byte (d0.toInt8.toInt32))), (.int (nar .byte (d1.toInt8.toInt32))), (.int (nar .byte (d2.toInt8.toInt32)))] (.int (0 : Int32)) ∧ n0 ≤ yb ∧ h0.size ≤ yb
set_option maxRecDepth 65536 in
set_option maxHeartbeats 40000000 in
theorem rm113 (l : Launch) (Z : State) (a0 : Array Value) (hw : ∀ d ∈ tables_1, d.before a0 Z = true) (ws : List Jvm.Cond) (xs : Addr) (ya : Addr) (ka : ClassId) (wc : Int32) (u0 : Value) (u1 : Value) (d0 : Int32) (d1 : Int32) (d2 : Int32) (h0 : Heap) (n0 : Nat) (Z0 : n0 ≤ h0.size) (f0_xs : Exa Z h0 xs "java/lang/String") (f1_xs_coder : Fld Z h0 xs "java/lang/String" "coder" "B" u0) (f2_xs_value : Fld Z h0 xs "java/lang/String" "value" "[B" u1) (f3_ya : Arv Z h0 ya ka .char (3 : Int32) [(.int d0), (.int d1), (.int d2)] (.int (0 : Int32))) (f4_COMPACT_STRINGS : Sta Z h0 "java/lang/String" "COMPACT_STRINGS" "Z" (.int wc)) (ne_xs_ya : xs ≠ ya) (g_xs : n0 ≤ xs) (hd0 : ¬ (255 : Int32) < d0) (hd1 : ¬ (255 : Int32) < d1) (hd2 : ¬ (255 : Int32) < d2) (hwc : ¬ wc = (0 : Int32)) :
    MetFree l (⟨"java/lang/String", "<init>", "([CIILjava/lang/Void;)V"⟩ : MethodName) (head1 (Jvm.Cond.code (⟨"java/lang/String", "<init>", "([CIILjava/lang/Void;)V"⟩ : MethodName) jdk_42_method_149_code 6 none :: ws) ({ frames := 2, cells := 1, slots := 3, locals := 35 } : Room)) (fun a U => a = #[(.ref xs), (.ref ya), (.int 0), (.int 3), .null] ∧ Z.Warmed39 U.vm ∧ U.heap = h0) (fun _ _ _ _ _ => True) (fun _ U o U' => ∃ v L, o = .returned v ∧ Q113 Z xs ya ka wc u0 u1 d0 d1 d2 h0 n0 v U'.heap L ∧ FrameEnd U o U' L 1 3) := by
  refine MetFree.of_bodySF (plainFor_of_name pn_6) hisR ?_
  intro p e s m args below meth c s₁ Bd hml0 hP hK
  obtain ⟨rfl,hZ,hh⟩ := hP
  have hx := Bd.exec
  have hby := Bd.bytes
  have hml : c.maxLocals = 6 := hml0
  have hown : s.vm.findClass "java/lang/String" = some m.cls := findClass_of_methodNamed Bd.named
  have hnm := (name_of_methodNamed Bd.named Bd.method).1
  have X0 : Stand p l e ({ frames := 2,cells := 1,slots := 3,locals := 35 } : Room) s m #[(.ref xs),(.ref ya),(.int 0),(.int 3),.null] below meth c s₁ [] 0 0 := Stand.of_body Bd
  have e0 : s₁.heap = h0 := by rw [← hh,Bd.state]; rfl
  have N0 := Fr.nil n0
  refine own_start (Q := fun v h L => Q113 Z xs ya ka wc u0 u1 d0 d1 d2 h0 n0 v h L) ?_
  refine gv s₁ 0 #[sR xs,sR ya,sI 0,sI 3,.val .null,sU] [] (fun t k => castTop (ef_113 m xs ya) k) ?_
  refine gv s₁ 1 #[sR xs,sR ya,sI 0,sI 3,.val .null,sU] [(.ref xs)] (fun t k => XS.aloadN X0.here hx rfl (hb hby d11_0) rfl rfl k) ?_
  obtain ⟨T1,X1,e1,st1⟩ := initO X0 hx hZ hown (w_ hw 59 rfl) (w_ hw 60 rfl) (w_ hw 61 rfl) e0 (g := (mkF m 1 #[sR xs,sR ya,sI 0,sI 3,.val .null,sU] [(.ref xs)])) rfl (by rw [hml]; rfl) rfl (hb hby d11_1) (by decide) (W := 0) (own_rm rfl) (by decide)
  refine gv T1 4 #[sR xs,sR ya,sI 0,sI 3,.val .null,sU] [] (fun t k => st1 _ k) ?_
  refine gv T1 5 #[sR xs,sR ya,sI 0,sI 3,.val .null,sU] [(.int 3)] (fun t k => XS.iloadN X1.here hx rfl (hb hby d11_4) rfl k) ?_
  refine gv T1 27 #[sR xs,sR ya,sI 0,sI 3,.val .null,sU] [] (fun t k => XS.ifYes X1.here hx rfl (pc0 := 5) (pc' := 27) rfl (hb hby d11_5) rfl ((if0 _ _).trans (feq (by decide : ¬ ((3 : Int32) = (0 : Int32)))).2) (by decide) (by decide) k) ?_
  obtain ⟨T2,X2,e2,st2⟩ := getS2 X1 hx hZ hown (host := "") (Or.inl (w_ hw 26 rfl)) Via.refl e1 f4_COMPACT_STRINGS (g := (mkF m 27 #[sR xs,sR ya,sI 0,sI 3,.val .null,sU] [])) rfl (hb hby d11_27)
  refine gv T2 30 #[sR xs,sR ya,sI 0,sI 3,.val .null,sU] [(.int wc)] (fun t k => st2 _ k) ?_
  refine gv T2 33 #[sR xs,sR ya,sI 0,sI 3,.val .null,sU] [] (fun t k => XS.ifNo X2.here hx rfl (hb hby d11_30) rfl ((if0 _ _).trans (feq hwc).1) k) ?_
  refine gv T2 34 #[sR xs,sR ya,sI 0,sI 3,.val .null,sU] [(.ref ya)] (fun t k => XS.aloadN X2.here hx rfl (hb hby d11_33) rfl rfl k) ?_
  refine gv T2 35 #[sR xs,sR ya,sI 0,sI 3,.val .null,sU] [(.int 0),(.ref ya)] (fun t k => XS.iloadN X2.here hx rfl (hb hby d11_34) rfl k) ?_
  refine gv T2 36 #[sR xs,sR ya,sI 0,sI 3,.val .null,sU] [(.int 3),(.int 0),(.ref ya)] (fun t k => XS.iloadN X2.here hx rfl (hb hby d11_35) rfl k) ?_
  obtain ⟨_,_,⟨T3,L3,k3,n3⟩,-,X3,⟨Lc3,hQ3,l3,y3,z3⟩,st3⟩ := Jvm.LawKit.callS X2 hx (y := (⟨"java/lang/StringUTF16","compress","([CII)[B"⟩ : MethodName)) hown (mvT hZ (w_ hw 62 rfl)) (mvT hZ (w_ hw 63 rfl)) (mvT hZ (w_ hw 64 rfl)) (mvT hZ (w_ hw 65 rfl)) (by decide) (backOf (W := 0) (rm133 l Z a0 hw [] ya ka d0 d1 d2 h0 n0 Z0 f3_ya hd0 hd1 hd2) hZ (w_ hw 65 rfl) (w_ hw 64 rfl) (by decide) (by decide)) (g := (mkF m 36 #[sR xs,sR ya,sI 0,sI 3,.val .null,sU] [(.int 3),(.int 0),(.ref ya)])) rfl (by rw [hml]; rfl) (argsL := [(.ref ya),(.int 0),(.int 3)]) (rest := []) (lenOf pd_9 rfl) rfl (own_rm rfl) (hb hby d11_36) (fun _ _ => ⟨rfl,e2,(by decide : 0 + 1 ≤ _),(by decide : 0 + 3 ≤ _)⟩)
  dsimp only [Pt.U, Pt.locs, Pt.cells, Pt.slots] at X3 l3 y3 z3 st3 hQ3
  replace X3 := own_cast X3 l3 y3 z3
  obtain ⟨yb_3,kb_3,rfl,N3q,K3q,po3_0,px3_g_yb,px3_sz_yb⟩ := hQ3
  have N3 := Fr.app N0 N3q
  have f4 := f0_xs.keep K3q
  have f5 := f1_xs_coder.keep K3q nin0
  have f6 := f2_xs_value.keep K3q nin0
  have f7 := f3_ya.keep K3q nin0
  have f8 : Sta Z T3.heap "java/lang/String" "COMPACT_STRINGS" "Z" (.int wc) := own_staKeep f4_COMPACT_STRINGS K3q all0
  have K3 := Keep.trans (Keep.refl h0 [xs]) K3q all0
  have Z3 := Nat.le_trans Z0 K3.1
  have g_yb_3 := px3_g_yb
  have sz_yb_3 : h0.size ≤ yb_3 := Nat.le_trans ((Keep.refl h0 [xs])).1 px3_sz_yb
  have ne_xs_yb_3 : xs ≠ yb_3 := Nat.ne_of_lt (Nat.lt_of_lt_of_le f0_xs.lt px3_sz_yb)
  have ne_ya_yb_3 : ya ≠ yb_3 := Nat.ne_of_lt (Nat.lt_of_lt_of_le f3_ya.lt px3_sz_yb)
  refine gv T3 39 #[sR xs,sR ya,sI 0,sI 3,.val .null,sU] [(.ref yb_3)] (fun t k => st3 _ k) ?_
  refine gv T3 41 #[sR xs,sR ya,sI 0,sI 3,.val .null,sR yb_3] [] (fun t k => XS.astore X3.here hx rfl (hb hby d11_39) rfl rfl (l' := #[sR xs,sR ya,sI 0,sI 3,.val .null,sR yb_3]) rfl k) ?_
  refine gv T3 42 #[sR xs,sR ya,sI 0,sI 3,.val .null,sR yb_3] [(.ref xs)] (fun t k => XS.aloadN X3.here hx rfl (hb hby d11_41) rfl rfl k) ?_
  refine gv T3 44 #[sR xs,sR ya,sI 0,sI 3,.val .null,sR yb_3] [(.ref yb_3),(.ref xs)] (fun t k => XS.aload X3.here hx rfl (hb hby d11_42) rfl rfl k) ?_
  refine gv T3 45 #[sR xs,sR ya,sI 0,sI 3,.val .null,sR yb_3] [(.int 3),(.ref yb_3),(.ref xs)] (fun t k => XS.iloadN X3.here hx rfl (hb hby d11_44) rfl k) ?_
  obtain ⟨_,_,⟨T9,L9,k9,n9⟩,-,X9,⟨Lc9,hQ9,l9,y9,z9⟩,st9⟩ := Jvm.LawKit.callS X3 hx (y := (⟨"java/lang/StringUTF16","coderFromArrayLen","([BI)B"⟩ : MethodName)) hown (mvT hZ (w_ hw 69 rfl)) (mvT hZ (w_ hw 70 rfl)) (mvT hZ (w_ hw 64 rfl)) (mvT hZ (w_ hw 71 rfl)) (by decide) (backOf (W := 1) (rm153 l Z a0 hw [] yb_3 kb_3 ([(.int (nar .byte (d0.toInt8.toInt32))),(.int (nar .byte (d1.toInt8.toInt32))),(.int (nar .byte (d2.toInt8.toInt32)))] : List Value) T3.heap n0 Z3 po3_0) hZ (w_ hw 71 rfl) (w_ hw 64 rfl) (by decide) (by decide)) (g := (mkF m 45 #[sR xs,sR ya,sI 0,sI 3,.val .null,sR yb_3] [(.int 3),(.ref yb_3),(.ref xs)])) rfl (by rw [hml]; rfl) (argsL := [(.ref yb_3),(.int 3)]) (rest := [(.ref xs)]) (lenOf pd_10 rfl) rfl (own_rm rfl) (hb hby d11_45) (fun _ _ => ⟨rfl,rfl,(by decide : 1 + 0 ≤ _),(by decide : 3 + 0 ≤ _)⟩)
  dsimp only [Pt.U, Pt.locs, Pt.cells, Pt.slots] at X9 l9 y9 z9 st9 hQ9
  replace X9 := own_cast X9 l9 y9 z9
  obtain ⟨rfl,N9q,eq9⟩ := hQ9
  have N9 := Fr.app N3 N9q
  refine gv T9 48 #[sR xs,sR ya,sI 0,sI 3,.val .null,sR yb_3] [(.int 0),(.ref xs)] (fun t k => st9 _ k) ?_
  obtain ⟨T10,h10,X10,e10,W10,st10⟩ := putFN X9 hx hZ hown (w_ hw 27 rfl) Via.refl eq9 f5 f4 (Or.inr ⟨(w_ hw 12 rfl),rfl,hnm⟩) (w_ hw 9 rfl) (ty := .byte) (v' := (.int 0)) (by decide) rfl rfl (g := (mkF m 48 #[sR xs,sR ya,sI 0,sI 3,.val .null,sR yb_3] [(.int 0),(.ref xs)])) rfl rfl (hb hby d11_48)
  have f11 := f4.wr W10
  have f12 := f6.other W10 (Or.inr (slot_ne (Or.inr (w_ hw 11 rfl)) (Or.inr (w_ hw 12 rfl)) (by decide) (t := (.array .byte)) (t' := .byte) (by decide) (by decide)))
  have f13 := f7.other W10 (Ne.symm ne_xs_ya)
  have f14 := f8.wr W10
  have f15 := po3_0.other W10 (Ne.symm ne_xs_yb_3)
  have f16 : Fld Z h10 xs "java/lang/String" "coder" "B" (.int 0) := f5.same W10
  have K10 := Keep.wr K3 W10 (Or.inl (List.mem_of_getElem? (i := 0) rfl))
  have Z10 := Nat.le_trans Z0 K10.1
  have N10 := Fr.snoc X10 N9 g_xs
  refine gv T10 51 #[sR xs,sR ya,sI 0,sI 3,.val .null,sR yb_3] [] (fun t k => st10 _ k) ?_
  refine gv T10 52 #[sR xs,sR ya,sI 0,sI 3,.val .null,sR yb_3] [(.ref xs)] (fun t k => XS.aloadN X10.here hx rfl (hb hby d11_51) rfl rfl k) ?_
  refine gv T10 54 #[sR xs,sR ya,sI 0,sI 3,.val .null,sR yb_3] [(.ref yb_3),(.ref xs)] (fun t k => XS.aload X10.here hx rfl (hb hby d11_52) rfl rfl k) ?_
  obtain ⟨T17,h17,X17,e17,W17,st17⟩ := putF X10 hx hZ hown (host := "") (Or.inl (w_ hw 20 rfl)) Via.refl e10 f12 f11 (Or.inr ⟨(w_ hw 11 rfl),rfl,hnm⟩) (w_ hw 9 rfl) (ty := (.array .byte)) (by decide) rfl rfl (g := (mkF m 54 #[sR xs,sR ya,sI 0,sI 3,.val .null,sR yb_3] [(.ref yb_3),(.ref xs)])) rfl rfl (hb hby d11_54)
  have f18 := f11.wr W17
  have f19 := f13.other W17 (Ne.symm ne_xs_ya)
  have f20 := f14.wr W17
  have f21 := f15.other W17 (Ne.symm ne_xs_yb_3)
  have f22 := f16.other W17 (Or.inr (slot_ne (Or.inr (w_ hw 12 rfl)) (Or.inr (w_ hw 11 rfl)) (by decide) (t := .byte) (t' := (.array .byte)) (by decide) (by decide)))
  have f23 : Fld Z h17 xs "java/lang/String" "value" "[B" (.ref yb_3) := f12.same W17
  have K17 := Keep.wr K10 W17 (Or.inl (List.mem_of_getElem? (i := 0) rfl))
  have Z17 := Nat.le_trans Z0 K17.1
  have N17 := Fr.snoc X17 N10 g_xs
  refine gv T17 57 #[sR xs,sR ya,sI 0,sI 3,.val .null,sR yb_3] [] (fun t k => st17 _ k) ?_
  exact own_retV X17 hx Bd.notSynchronized Bd.returns (hb hby d11_57) e17 ⟨yb_3,kb_3,rfl,N17,K17,f18,f22,f23,f21,g_yb_3,sz_yb_3⟩ (by decide) (by decide)
theorem ef_103 (m : MethodId) (xs : Addr) (ya : Addr) : entryFrame m #[(.ref xs), (.ref ya)] 2 = mkF m 0 #[.val (.ref xs), .val (.ref ya)] [] := by first | (simp [entryFrame, mkF, argsToLocals, Value.category]; done) | rfl
def Q103 (Z : State) (xs : Addr) (ya : Addr) (ka : ClassId) (wc : Int32) (u0 : Value) (u1 : Value) (d0 : Int32) (d1 : Int32) (d2 : Int32) (h0 : Heap) (n0 : Nat) (v : Option Value) (h : Heap) (L : List Loc) : Prop := ∃ (yb : Addr) (kb : ClassId), v = none ∧ Fr n0 L ∧ Keep h0 h [xs] ∧ Exa Z h xs "java/lang/String" ∧ Fld Z h xs "java/lang/String" "coder" "B" (.int (0 : Int32)) ∧ Fld Z h xs "java/lang/String" "value" "[B" (.ref yb) ∧ Arv Z h yb kb .byte (3 : Int32) [(.int (nar .byte (d0.toInt8.toInt32))), (.int (nar .byte (d1.toInt8.toInt32))), (.int (nar .byte (d2.toInt8.toInt32)))] (.int (0 : Int32)) ∧ n0 ≤ yb ∧ h0.size ≤ yb
set_option maxRecDepth 65536 in
set_option maxHeartbeats 40000000 in
theorem rm103 (l : Launch) (Z : State) (a0 : Array Value) (hw : ∀ d ∈ tables_1, d.before a0 Z = true) (ws : List Jvm.Cond) (xs : Addr) (ya : Addr) (ka : ClassId) (wc : Int32) (u0 : Value) (u1 : Value) (d0 : Int32) (d1 : Int32) (d2 : Int32) (h0 : Heap) (n0 : Nat) (Z0 : n0 ≤ h0.size) (f0_xs : Exa Z h0 xs "java/lang/String") (f1_xs_coder : Fld Z h0 xs "java/lang/String" "coder" "B" u0) (f2_xs_value : Fld Z h0 xs "java/lang/String" "value" "[B" u1) (f3_ya : Arv Z h0 ya ka .char (3 : Int32) [(.int d0), (.int d1), (.int d2)] (.int (0 : Int32))) (f4_COMPACT_STRINGS : Sta Z h0 "java/lang/String" "COMPACT_STRINGS" "Z" (.int wc)) (ne_xs_ya : xs ≠ ya) (g_xs : n0 ≤ xs) (hd0 : ¬ (255 : Int32) < d0) (hd1 : ¬ (255 : Int32) < d1) (hd2 : ¬ (255 : Int32) < d2) (hwc : ¬ wc = (0 : Int32)) :
    MetFree l (⟨"java/lang/String", "<init>", "([C)V"⟩ : MethodName) (head1 (Jvm.Cond.code (⟨"java/lang/String", "<init>", "([C)V"⟩ : MethodName) jdk_42_method_3_code 2 none :: ws) ({ frames := 3, cells := 1, slots := 3, locals := 52 } : Room)) (fun a U => a = #[(.ref xs), (.ref ya)] ∧ Z.Warmed39 U.vm ∧ U.heap = h0) (fun _ _ _ _ _ => True) (fun _ U o U' => ∃ v L, o = .returned v ∧ Q103 Z xs ya ka wc u0 u1 d0 d1 d2 h0 n0 v U'.heap L ∧ FrameEnd U o U' L 1 3) := by
  refine MetFree.of_bodySF (plainFor_of_name pn_6) hisR ?_
  intro p e s m args below meth c s₁ Bd hml0 hP hK
  obtain ⟨rfl,hZ,hh⟩ := hP
  have hx := Bd.exec
  have hby := Bd.bytes
  have hml : c.maxLocals = 2 := hml0
  have hown : s.vm.findClass "java/lang/String" = some m.cls := findClass_of_methodNamed Bd.named
  have hnm := (name_of_methodNamed Bd.named Bd.method).1
  have X0 : Stand p l e ({ frames := 3,cells := 1,slots := 3,locals := 52 } : Room) s m #[(.ref xs),(.ref ya)] below meth c s₁ [] 0 0 := Stand.of_body Bd
  have e0 : s₁.heap = h0 := by rw [← hh,Bd.state]; rfl
  have N0 := Fr.nil n0
  refine own_start (Q := fun v h L => Q103 Z xs ya ka wc u0 u1 d0 d1 d2 h0 n0 v h L) ?_
  refine gv s₁ 0 #[sR xs,sR ya] [] (fun t k => castTop (ef_103 m xs ya) k) ?_
  refine gv s₁ 1 #[sR xs,sR ya] [(.ref xs)] (fun t k => XS.aloadN X0.here hx rfl (hb hby d10_0) rfl rfl k) ?_
  refine gv s₁ 2 #[sR xs,sR ya] [(.ref ya),(.ref xs)] (fun t k => XS.aloadN X0.here hx rfl (hb hby d10_1) rfl rfl k) ?_
  refine gv s₁ 3 #[sR xs,sR ya] [(.int 0),(.ref ya),(.ref xs)] (fun t k => XS.iconst X0.here hx rfl (hb hby d10_2) k) ?_
  refine gv s₁ 4 #[sR xs,sR ya] [(.ref ya),(.int 0),(.ref ya),(.ref xs)] (fun t k => XS.aloadN X0.here hx rfl (hb hby d10_3) rfl rfl k) ?_
  obtain ⟨cl1,Ar1,q1,S1,M1,Hs1,G1⟩ := id f3_ya
  refine gv s₁ 5 #[sR xs,sR ya] [(.int 3),(.int 0),(.ref ya),(.ref xs)] (fun t k => X0.arraylength hx (by rw [e0]; exact Ar1.1) (State.isArrayOf_alike hZ.alike Ar1.2.1) (g := (mkF m 4 #[sR xs,sR ya] [(.ref ya),(.int 0),(.ref ya),(.ref xs)])) rfl rfl (hb hby d10_4) _ (by rw [len_of S1 M1]; exact k)) ?_
  refine gv s₁ 6 #[sR xs,sR ya] [.null,(.int 3),(.int 0),(.ref ya),(.ref xs)] (fun t k => XS.aconstNull X0.here hx rfl (hb hby d10_5) k) ?_
  obtain ⟨_,_,⟨T2,L2,k2,n2⟩,-,X2,⟨Lc2,hQ2,l2,y2,z2⟩,st2⟩ := X0.specialBack hx (y := (⟨"java/lang/String","<init>","([CIILjava/lang/Void;)V"⟩ : MethodName)) rfl hown (mvT hZ (w_ hw 55 rfl)) (mvT hZ (w_ hw 56 rfl)) (mvT hZ (w_ hw 58 rfl)) (by decide) (backOf (W := 0) (rm113 l Z a0 hw [] xs ya ka wc u0 u1 d0 d1 d2 h0 n0 Z0 f0_xs f1_xs_coder f2_xs_value f3_ya f4_COMPACT_STRINGS ne_xs_ya g_xs hd0 hd1 hd2 hwc) hZ (w_ hw 58 rfl) (w_ hw 8 rfl) (by decide) (by decide)) (g := (mkF m 6 #[sR xs,sR ya] [.null,(.int 3),(.int 0),(.ref ya),(.ref xs)])) rfl (by rw [hml]; rfl) (Steps.refl _) (a := xs) (argsL := [(.ref ya),(.int 0),(.int 3),.null]) (rest := []) (lenOf pd_11 rfl) rfl (own_rm rfl) (hb hby d10_6) (fun _ _ => ⟨rfl,e0,(by decide : 0 + 1 ≤ _),(by decide : 0 + 3 ≤ _)⟩)
  dsimp only [Pt.U, Pt.locs, Pt.cells, Pt.slots] at X2 l2 y2 z2 st2 hQ2
  replace X2 := own_cast X2 l2 y2 z2
  obtain ⟨yb_2,kb_2,rfl,N2q,K2q,po2_0,po2_1,po2_2,po2_3,px2_g_yb,px2_sz_yb⟩ := hQ2
  have N2 := Fr.app N0 N2q
  have f3 := f0_xs.keep K2q
  have f4 := f3_ya.keep K2q (ninS (Ne.symm ne_xs_ya) nin0)
  have f5 : Sta Z T2.heap "java/lang/String" "COMPACT_STRINGS" "Z" (.int wc) := own_staKeep f4_COMPACT_STRINGS K2q (allS (own_nst f0_xs) all0)
  have K2 := Keep.trans (Keep.refl h0 [xs]) K2q (allS (Or.inl (List.mem_of_getElem? (i := 0) rfl)) all0)
  have Z2 := Nat.le_trans Z0 K2.1
  have g_yb_2 := px2_g_yb
  have sz_yb_2 : h0.size ≤ yb_2 := Nat.le_trans ((Keep.refl h0 [xs])).1 px2_sz_yb
  have ne_xs_yb_2 : xs ≠ yb_2 := Nat.ne_of_lt (Nat.lt_of_lt_of_le f0_xs.lt px2_sz_yb)
  have ne_ya_yb_2 : ya ≠ yb_2 := Nat.ne_of_lt (Nat.lt_of_lt_of_le f3_ya.lt px2_sz_yb)
  refine gv T2 9 #[sR xs,sR ya] [] (fun t k => st2.trans k) ?_
  exact own_retV X2 hx Bd.notSynchronized Bd.returns (hb hby d10_9) rfl ⟨yb_2,kb_2,rfl,N2,K2,po2_0,po2_1,po2_2,po2_3,g_yb_2,sz_yb_2⟩ (by decide) (by decide)
theorem ef_154 (m : MethodId) (ya : Addr) : entryFrame m #[(.ref ya), (.int (4 : Int32))] 2 = mkF m 0 #[.val (.ref ya), .val (.int (4 : Int32))] [] := by first | (simp [entryFrame, mkF, argsToLocals, Value.category]; done) | rfl
def Q154 (Z : State) (ya : Addr) (ka : ClassId) (vs : List Value) (h0 : Heap) (n0 : Nat) (v : Option Value) (h : Heap) (L : List Loc) : Prop := v = some (.int (0 : Int32)) ∧ Fr n0 L ∧ h = h0
set_option maxRecDepth 65536 in
set_option maxHeartbeats 40000000 in
theorem rm154 (l : Launch) (Z : State) (a0 : Array Value) (hw : ∀ d ∈ tables_1, d.before a0 Z = true) (ws : List Jvm.Cond) (ya : Addr) (ka : ClassId) (vs : List Value) (h0 : Heap) (n0 : Nat) (Z0 : n0 ≤ h0.size) (f0_ya : Arv Z h0 ya ka .byte (4 : Int32) vs (.int (0 : Int32))) :
    MetFree l (⟨"java/lang/StringUTF16", "coderFromArrayLen", "([BI)B"⟩ : MethodName) (head1 (Jvm.Cond.code (⟨"java/lang/StringUTF16", "coderFromArrayLen", "([BI)B"⟩ : MethodName) jdk_52_method_15_code 2 (some .byte) :: ws) ({ frames := 0, cells := 0, slots := 0, locals := 0 } : Room)) (fun a U => a = #[(.ref ya), (.int 4)] ∧ Z.Warmed39 U.vm ∧ U.heap = h0) (fun _ _ _ _ _ => True) (fun _ U o U' => ∃ v L, o = .returned v ∧ Q154 Z ya ka vs h0 n0 v U'.heap L ∧ FrameEnd U o U' L 0 0) := by
  refine MetFree.of_bodySF (plainFor_of_name pn_105) hisR ?_
  intro p e s m args below meth c s₁ Bd hml0 hP hK
  obtain ⟨rfl,hZ,hh⟩ := hP
  have hx := Bd.exec
  have hby := Bd.bytes
  have hml : c.maxLocals = 2 := hml0
  have hown : s.vm.findClass "java/lang/StringUTF16" = some m.cls := findClass_of_methodNamed Bd.named
  have hnm := (name_of_methodNamed Bd.named Bd.method).1
  have X0 : Stand p l e ({ frames := 0,cells := 0,slots := 0,locals := 0 } : Room) s m #[(.ref ya),(.int 4)] below meth c s₁ [] 0 0 := Stand.of_body Bd
  have e0 : s₁.heap = h0 := by rw [← hh,Bd.state]; rfl
  have N0 := Fr.nil n0
  refine own_start (Q := fun v h L => Q154 Z ya ka vs h0 n0 v h L) ?_
  refine gv s₁ 0 #[sR ya,sI 4] [] (fun t k => castTop (ef_154 m ya) k) ?_
  refine gv s₁ 1 #[sR ya,sI 4] [(.int 4)] (fun t k => XS.iloadN X0.here hx rfl (hb hby d15_0) rfl k) ?_
  refine gv s₁ 2 #[sR ya,sI 4] [(.ref ya),(.int 4)] (fun t k => XS.aloadN X0.here hx rfl (hb hby d15_1) rfl rfl k) ?_
  obtain ⟨cl1,Ar1,q1,S1,M1,Hs1,G1⟩ := id f0_ya
  refine gv s₁ 3 #[sR ya,sI 4] [(.int 4),(.int 4)] (fun t k => X0.arraylength hx (by rw [e0]; exact Ar1.1) (State.isArrayOf_alike hZ.alike Ar1.2.1) (g := (mkF m 2 #[sR ya,sI 4] [(.ref ya),(.int 4)])) rfl rfl (hb hby d15_2) _ (by rw [len_of S1 M1]; exact k)) ?_
  refine gv s₁ 4 #[sR ya,sI 4] [(.int 0)] (fun t k => XS.isub X0.here hx rfl (hb hby d15_3) rfl k) ?_
  refine gv s₁ 6 #[sR ya,sI 4] [(.int 31),(.int 0)] (fun t k => XS.bipush X0.here hx rfl (hb hby d15_4) k) ?_
  refine gv s₁ 7 #[sR ya,sI 4] [(.int 0)] (fun t k => XS.iushr X0.here hx rfl (hb hby d15_6) rfl k) ?_
  refine gv s₁ 8 #[sR ya,sI 4] [(.int 0)] (fun t k => XS.i2b X0.here hx rfl (hb hby d15_7) rfl k) ?_
  exact own_ret X0 hx Bd.notSynchronized Bd.returns rfl (Or.inl ⟨rfl,by simp,_,rfl⟩) (hb hby d15_8) e0 ⟨rfl,N0,rfl⟩ (by decide) (by decide)
theorem ef_144 (m : MethodId) (ya : Addr) (yb : Addr) : entryFrame m #[(.ref ya), (.int (0 : Int32)), (.ref yb), (.int (0 : Int32)), (.int (4 : Int32))] 7 = mkF m 0 #[.val (.ref ya), .val (.int (0 : Int32)), .val (.ref yb), .val (.int (0 : Int32)), .val (.int (4 : Int32)), .unset, .unset] [] := by first | (simp [entryFrame, mkF, argsToLocals, Value.category]; done) | rfl
def Q144 (Z : State) (ya : Addr) (yb : Addr) (ka : ClassId) (kb : ClassId) (d0 : Int32) (d1 : Int32) (d2 : Int32) (d3 : Int32) (h0 : Heap) (n0 : Nat) (v : Option Value) (h : Heap) (L : List Loc) : Prop := v = some (.int (4 : Int32)) ∧ Fr n0 L ∧ Keep h0 h [yb] ∧ Arv Z h yb kb .byte (4 : Int32) [(.int (nar .byte (d0.toInt8.toInt32))), (.int (nar .byte (d1.toInt8.toInt32))), (.int (nar .byte (d2.toInt8.toInt32))), (.int (nar .byte (d3.toInt8.toInt32)))] (.int (0 : Int32))
set_option maxRecDepth 65536 in
set_option maxHeartbeats 40000000 in
theorem rm144 (l : Launch) (Z : State) (a0 : Array Value) (hw : ∀ d ∈ tables_1, d.before a0 Z = true) (ws : List Jvm.Cond) (ya : Addr) (yb : Addr) (ka : ClassId) (kb : ClassId) (d0 : Int32) (d1 : Int32) (d2 : Int32) (d3 : Int32) (h0 : Heap) (n0 : Nat) (Z0 : n0 ≤ h0.size) (f0_ya : Arv Z h0 ya ka .char (4 : Int32) [(.int d0), (.int d1), (.int d2), (.int d3)] (.int (0 : Int32))) (f1_yb : Arv Z h0 yb kb .byte (4 : Int32) [(.int (0 : Int32)), (.int (0 : Int32)), (.int (0 : Int32)), (.int (0 : Int32))] (.int (0 : Int32))) (ne_ya_yb : ya ≠ yb) (g_yb : n0 ≤ yb) (hd0 : ¬ (255 : Int32) < d0) (hd1 : ¬ (255 : Int32) < d1) (hd2 : ¬ (255 : Int32) < d2) (hd3 : ¬ (255 : Int32) < d3) :
    MetFree l (⟨"java/lang/StringUTF16", "compress", "([CI[BII)I"⟩ : MethodName) (head1 (Jvm.Cond.code (⟨"java/lang/StringUTF16", "compress", "([CI[BII)I"⟩ : MethodName) jdk_52_method_21_code 7 (some .int) :: ws) ({ frames := 0, cells := 0, slots := 0, locals := 0 } : Room)) (fun a U => a = #[(.ref ya), (.int 0), (.ref yb), (.int 0), (.int 4)] ∧ Z.Warmed39 U.vm ∧ U.heap = h0) (fun _ _ _ _ _ => True) (fun _ U o U' => ∃ v L, o = .returned v ∧ Q144 Z ya yb ka kb d0 d1 d2 d3 h0 n0 v U'.heap L ∧ FrameEnd U o U' L 0 0) := by
  refine MetFree.of_bodySF (plainFor_of_name pn_105) hisR ?_
  intro p e s m args below meth c s₁ Bd hml0 hP hK
  obtain ⟨rfl,hZ,hh⟩ := hP
  have hx := Bd.exec
  have hby := Bd.bytes
  have hml : c.maxLocals = 7 := hml0
  have hown : s.vm.findClass "java/lang/StringUTF16" = some m.cls := findClass_of_methodNamed Bd.named
  have hnm := (name_of_methodNamed Bd.named Bd.method).1
  have X0 : Stand p l e ({ frames := 0,cells := 0,slots := 0,locals := 0 } : Room) s m #[(.ref ya),(.int 0),(.ref yb),(.int 0),(.int 4)] below meth c s₁ [] 0 0 := Stand.of_body Bd
  have e0 : s₁.heap = h0 := by rw [← hh,Bd.state]; rfl
  have N0 := Fr.nil n0
  refine own_start (Q := fun v h L => Q144 Z ya yb ka kb d0 d1 d2 d3 h0 n0 v h L) ?_
  refine gv s₁ 0 #[sR ya,sI 0,sR yb,sI 0,sI 4,sU,sU] [] (fun t k => castTop (ef_144 m ya yb) k) ?_
  refine gv s₁ 1 #[sR ya,sI 0,sR yb,sI 0,sI 4,sU,sU] [(.int 0)] (fun t k => XS.iconst X0.here hx rfl (hb hby d14_0) k) ?_
  refine gv s₁ 3 #[sR ya,sI 0,sR yb,sI 0,sI 4,sI 0,sU] [] (fun t k => XS.istore X0.here hx rfl (hb hby d14_1) rfl (l' := #[sR ya,sI 0,sR yb,sI 0,sI 4,sI 0,sU]) rfl k) ?_
  refine gv s₁ 5 #[sR ya,sI 0,sR yb,sI 0,sI 4,sI 0,sU] [(.int 0)] (fun t k => XS.iload X0.here hx rfl (hb hby d14_3) rfl k) ?_
  refine gv s₁ 7 #[sR ya,sI 0,sR yb,sI 0,sI 4,sI 0,sU] [(.int 4),(.int 0)] (fun t k => XS.iload X0.here hx rfl (hb hby d14_5) rfl k) ?_
  refine gv s₁ 10 #[sR ya,sI 0,sR yb,sI 0,sI 4,sI 0,sU] [] (fun t k => XS.icmpNo X0.here hx rfl (hb hby d14_7) rfl (tlt (by decide : ((0 : Int32) < (4 : Int32)))).2.1 k) ?_
  refine gv s₁ 11 #[sR ya,sI 0,sR yb,sI 0,sI 4,sI 0,sU] [(.ref ya)] (fun t k => XS.aloadN X0.here hx rfl (hb hby d14_10) rfl rfl k) ?_
  refine gv s₁ 12 #[sR ya,sI 0,sR yb,sI 0,sI 4,sI 0,sU] [(.int 0),(.ref ya)] (fun t k => XS.iloadN X0.here hx rfl (hb hby d14_11) rfl k) ?_
  obtain ⟨cl1,Ar1,q1,S1,M1,Hs1,G1⟩ := id f0_ya
  have hin1 : ¬ ((0 : Int32) < 0 ∨ cl1.slots.size ≤ ((0 : Int32)).toNatClampNeg) := inb_of S1 ⟨by decide,by decide⟩
  have hat1 : cl1.slots[((0 : Int32)).toNatClampNeg]? = some (.int d0) := Has.at Hs1 hin1 rfl
  refine gv s₁ 13 #[sR ya,sI 0,sR yb,sI 0,sI 4,sI 0,sU] [(.int d0)] (fun t k => X0.caload hx (j := (0 : Int32)) (v := (.int d0)) (by rw [e0]; exact Ar1.1) (State.isArrayOf_alike hZ.alike Ar1.2.1) Ar1.2.2 hin1 hat1 (g := (mkF m 12 #[sR ya,sI 0,sR yb,sI 0,sI 4,sI 0,sU] [(.int 0),(.ref ya)])) rfl rfl (hb hby d14_12) _ k) ?_
  refine gv s₁ 15 #[sR ya,sI 0,sR yb,sI 0,sI 4,sI 0,sI d0] [] (fun t k => XS.istore X0.here hx rfl (hb hby d14_13) rfl (l' := #[sR ya,sI 0,sR yb,sI 0,sI 4,sI 0,sI d0]) rfl k) ?_
  refine gv s₁ 17 #[sR ya,sI 0,sR yb,sI 0,sI 4,sI 0,sI d0] [(.int d0)] (fun t k => XS.iload X0.here hx rfl (hb hby d14_15) rfl k) ?_
  refine gv s₁ 20 #[sR ya,sI 0,sR yb,sI 0,sI 4,sI 0,sI d0] [(.int 255),(.int d0)] (fun t k => XS.sipush X0.here hx rfl (hb hby d14_17) k) ?_
  refine gv s₁ 26 #[sR ya,sI 0,sR yb,sI 0,sI 4,sI 0,sI d0] [] (fun t k => XS.icmpYes X0.here hx rfl (pc0 := 20) (pc' := 26) rfl (hb hby d14_20) rfl (flt hd0).2.2.2 (by decide) (by decide) k) ?_
  refine gv s₁ 27 #[sR ya,sI 0,sR yb,sI 0,sI 4,sI 0,sI d0] [(.ref yb)] (fun t k => XS.aloadN X0.here hx rfl (hb hby d14_26) rfl rfl k) ?_
  refine gv s₁ 28 #[sR ya,sI 0,sR yb,sI 0,sI 4,sI 0,sI d0] [(.int 0),(.ref yb)] (fun t k => XS.iloadN X0.here hx rfl (hb hby d14_27) rfl k) ?_
  refine gv s₁ 30 #[sR ya,sI 0,sR yb,sI 0,sI 4,sI 0,sI d0] [(.int d0),(.int 0),(.ref yb)] (fun t k => XS.iload X0.here hx rfl (hb hby d14_28) rfl k) ?_
  refine gv s₁ 31 #[sR ya,sI 0,sR yb,sI 0,sI 4,sI 0,sI d0] [(.int (d0.toInt8.toInt32)),(.int 0),(.ref yb)] (fun t k => XS.i2b X0.here hx rfl (hb hby d14_30) rfl k) ?_
  obtain ⟨cl2,Ar2,q2,S2,M2,Hs2,G2⟩ := id f1_yb
  have hin2 : ¬ ((0 : Int32) < 0 ∨ cl2.slots.size ≤ ((0 : Int32)).toNatClampNeg) := inb_of S2 ⟨by decide,by decide⟩
  obtain ⟨T2,h2,X2,e2,W2,st2⟩ := stB X0 hx hZ e0 Ar2 (j := (0 : Int32)) hin2 (g := (mkF m 31 #[sR ya,sI 0,sR yb,sI 0,sI 4,sI 0,sI d0] [(.int (d0.toInt8.toInt32)),(.int 0),(.ref yb)])) rfl rfl (hb hby d14_31)
  have f3 := f0_ya.other W2 ne_ya_yb
  have f4 : Arv Z h2 yb kb .byte (4 : Int32) [(.int (nar .byte (d0.toInt8.toInt32))),(.int 0),(.int 0),(.int 0)] (.int 0) := Arv.set Ar2 q2 S2 M2 Hs2 G2 (fits_nar_byte _) W2 0 rfl (Nat.le_of_ble_eq_true rfl)
  have K2 := Keep.wr (Keep.refl h0 [yb]) W2 (Or.inl (List.mem_of_getElem? (i := 0) rfl))
  have Z2 := Nat.le_trans Z0 K2.1
  have N2 := Fr.snoc X2 N0 g_yb
  refine gv T2 32 #[sR ya,sI 0,sR yb,sI 0,sI 4,sI 0,sI d0] [] (fun t k => st2 _ k) ?_
  refine gv T2 35 #[sR ya,sI 1,sR yb,sI 0,sI 4,sI 0,sI d0] [] (fun t k => XS.iinc X2.here hx rfl (hb hby d14_32) rfl (l' := #[sR ya,sI 1,sR yb,sI 0,sI 4,sI 0,sI d0]) rfl k) ?_
  refine gv T2 38 #[sR ya,sI 1,sR yb,sI 1,sI 4,sI 0,sI d0] [] (fun t k => XS.iinc X2.here hx rfl (hb hby d14_35) rfl (l' := #[sR ya,sI 1,sR yb,sI 1,sI 4,sI 0,sI d0]) rfl k) ?_
  refine gv T2 41 #[sR ya,sI 1,sR yb,sI 1,sI 4,sI 1,sI d0] [] (fun t k => XS.iinc X2.here hx rfl (hb hby d14_38) rfl (l' := #[sR ya,sI 1,sR yb,sI 1,sI 4,sI 1,sI d0]) rfl k) ?_
  refine gv T2 3 #[sR ya,sI 1,sR yb,sI 1,sI 4,sI 1,sI d0] [] (fun t k => XS.goto X2.here hx rfl (pc0 := 41) (pc' := 3) rfl (hb hby d14_41) (by decide) (by decide) k) ?_
  refine gv T2 5 #[sR ya,sI 1,sR yb,sI 1,sI 4,sI 1,sI d0] [(.int 1)] (fun t k => XS.iload X2.here hx rfl (hb hby d14_3) rfl k) ?_
  refine gv T2 7 #[sR ya,sI 1,sR yb,sI 1,sI 4,sI 1,sI d0] [(.int 4),(.int 1)] (fun t k => XS.iload X2.here hx rfl (hb hby d14_5) rfl k) ?_
  refine gv T2 10 #[sR ya,sI 1,sR yb,sI 1,sI 4,sI 1,sI d0] [] (fun t k => XS.icmpNo X2.here hx rfl (hb hby d14_7) rfl (tlt (by decide : ((1 : Int32) < (4 : Int32)))).2.1 k) ?_
  refine gv T2 11 #[sR ya,sI 1,sR yb,sI 1,sI 4,sI 1,sI d0] [(.ref ya)] (fun t k => XS.aloadN X2.here hx rfl (hb hby d14_10) rfl rfl k) ?_
  refine gv T2 12 #[sR ya,sI 1,sR yb,sI 1,sI 4,sI 1,sI d0] [(.int 1),(.ref ya)] (fun t k => XS.iloadN X2.here hx rfl (hb hby d14_11) rfl k) ?_
  obtain ⟨cl5,Ar5,q5,S5,M5,Hs5,G5⟩ := id f3
  have hin5 : ¬ ((1 : Int32) < 0 ∨ cl5.slots.size ≤ ((1 : Int32)).toNatClampNeg) := inb_of S5 ⟨by decide,by decide⟩
  have hat5 : cl5.slots[((1 : Int32)).toNatClampNeg]? = some (.int d1) := Has.at Hs5 hin5 rfl
  refine gv T2 13 #[sR ya,sI 1,sR yb,sI 1,sI 4,sI 1,sI d0] [(.int d1)] (fun t k => X2.caload hx (j := (1 : Int32)) (v := (.int d1)) (by rw [e2]; exact Ar5.1) (State.isArrayOf_alike hZ.alike Ar5.2.1) Ar5.2.2 hin5 hat5 (g := (mkF m 12 #[sR ya,sI 1,sR yb,sI 1,sI 4,sI 1,sI d0] [(.int 1),(.ref ya)])) rfl rfl (hb hby d14_12) _ k) ?_
  refine gv T2 15 #[sR ya,sI 1,sR yb,sI 1,sI 4,sI 1,sI d1] [] (fun t k => XS.istore X2.here hx rfl (hb hby d14_13) rfl (l' := #[sR ya,sI 1,sR yb,sI 1,sI 4,sI 1,sI d1]) rfl k) ?_
  refine gv T2 17 #[sR ya,sI 1,sR yb,sI 1,sI 4,sI 1,sI d1] [(.int d1)] (fun t k => XS.iload X2.here hx rfl (hb hby d14_15) rfl k) ?_
  refine gv T2 20 #[sR ya,sI 1,sR yb,sI 1,sI 4,sI 1,sI d1] [(.int 255),(.int d1)] (fun t k => XS.sipush X2.here hx rfl (hb hby d14_17) k) ?_
  refine gv T2 26 #[sR ya,sI 1,sR yb,sI 1,sI 4,sI 1,sI d1] [] (fun t k => XS.icmpYes X2.here hx rfl (pc0 := 20) (pc' := 26) rfl (hb hby d14_20) rfl (flt hd1).2.2.2 (by decide) (by decide) k) ?_
  refine gv T2 27 #[sR ya,sI 1,sR yb,sI 1,sI 4,sI 1,sI d1] [(.ref yb)] (fun t k => XS.aloadN X2.here hx rfl (hb hby d14_26) rfl rfl k) ?_
  refine gv T2 28 #[sR ya,sI 1,sR yb,sI 1,sI 4,sI 1,sI d1] [(.int 1),(.ref yb)] (fun t k => XS.iloadN X2.here hx rfl (hb hby d14_27) rfl k) ?_
  refine gv T2 30 #[sR ya,sI 1,sR yb,sI 1,sI 4,sI 1,sI d1] [(.int d1),(.int 1),(.ref yb)] (fun t k => XS.iload X2.here hx rfl (hb hby d14_28) rfl k) ?_
  refine gv T2 31 #[sR ya,sI 1,sR yb,sI 1,sI 4,sI 1,sI d1] [(.int (d1.toInt8.toInt32)),(.int 1),(.ref yb)] (fun t k => XS.i2b X2.here hx rfl (hb hby d14_30) rfl k) ?_
  obtain ⟨cl6,Ar6,q6,S6,M6,Hs6,G6⟩ := id f4
  have hin6 : ¬ ((1 : Int32) < 0 ∨ cl6.slots.size ≤ ((1 : Int32)).toNatClampNeg) := inb_of S6 ⟨by decide,by decide⟩
  obtain ⟨T6,h6,X6,e6,W6,st6⟩ := stB X2 hx hZ e2 Ar6 (j := (1 : Int32)) hin6 (g := (mkF m 31 #[sR ya,sI 1,sR yb,sI 1,sI 4,sI 1,sI d1] [(.int (d1.toInt8.toInt32)),(.int 1),(.ref yb)])) rfl rfl (hb hby d14_31)
  have f7 := f3.other W6 ne_ya_yb
  have f8 : Arv Z h6 yb kb .byte (4 : Int32) [(.int (nar .byte (d0.toInt8.toInt32))),(.int (nar .byte (d1.toInt8.toInt32))),(.int 0),(.int 0)] (.int 0) := Arv.set Ar6 q6 S6 M6 Hs6 G6 (fits_nar_byte _) W6 1 rfl (Nat.le_of_ble_eq_true rfl)
  have K6 := Keep.wr K2 W6 (Or.inl (List.mem_of_getElem? (i := 0) rfl))
  have Z6 := Nat.le_trans Z0 K6.1
  have N6 := Fr.snoc X6 N2 g_yb
  refine gv T6 32 #[sR ya,sI 1,sR yb,sI 1,sI 4,sI 1,sI d1] [] (fun t k => st6 _ k) ?_
  refine gv T6 35 #[sR ya,sI 2,sR yb,sI 1,sI 4,sI 1,sI d1] [] (fun t k => XS.iinc X6.here hx rfl (hb hby d14_32) rfl (l' := #[sR ya,sI 2,sR yb,sI 1,sI 4,sI 1,sI d1]) rfl k) ?_
  refine gv T6 38 #[sR ya,sI 2,sR yb,sI 2,sI 4,sI 1,sI d1] [] (fun t k => XS.iinc X6.here hx rfl (hb hby d14_35) rfl (l' := #[sR ya,sI 2,sR yb,sI 2,sI 4,sI 1,sI d1]) rfl k) ?_
  refine gv T6 41 #[sR ya,sI 2,sR yb,sI 2,sI 4,sI 2,sI d1] [] (fun t k => XS.iinc X6.here hx rfl (hb hby d14_38) rfl (l' := #[sR ya,sI 2,sR yb,sI 2,sI 4,sI 2,sI d1]) rfl k) ?_
  refine gv T6 3 #[sR ya,sI 2,sR yb,sI 2,sI 4,sI 2,sI d1] [] (fun t k => XS.goto X6.here hx rfl (pc0 := 41) (pc' := 3) rfl (hb hby d14_41) (by decide) (by decide) k) ?_
  refine gv T6 5 #[sR ya,sI 2,sR yb,sI 2,sI 4,sI 2,sI d1] [(.int 2)] (fun t k => XS.iload X6.here hx rfl (hb hby d14_3) rfl k) ?_
  refine gv T6 7 #[sR ya,sI 2,sR yb,sI 2,sI 4,sI 2,sI d1] [(.int 4),(.int 2)] (fun t k => XS.iload X6.here hx rfl (hb hby d14_5) rfl k) ?_
  refine gv T6 10 #[sR ya,sI 2,sR yb,sI 2,sI 4,sI 2,sI d1] [] (fun t k => XS.icmpNo X6.here hx rfl (hb hby d14_7) rfl (tlt (by decide : ((2 : Int32) < (4 : Int32)))).2.1 k) ?_
  refine gv T6 11 #[sR ya,sI 2,sR yb,sI 2,sI 4,sI 2,sI d1] [(.ref ya)] (fun t k => XS.aloadN X6.here hx rfl (hb hby d14_10) rfl rfl k) ?_
  refine gv T6 12 #[sR ya,sI 2,sR yb,sI 2,sI 4,sI 2,sI d1] [(.int 2),(.ref ya)] (fun t k => XS.iloadN X6.here hx rfl (hb hby d14_11) rfl k) ?_
  obtain ⟨cl9,Ar9,q9,S9,M9,Hs9,G9⟩ := id f7
  have hin9 : ¬ ((2 : Int32) < 0 ∨ cl9.slots.size ≤ ((2 : Int32)).toNatClampNeg) := inb_of S9 ⟨by decide,by decide⟩
  have hat9 : cl9.slots[((2 : Int32)).toNatClampNeg]? = some (.int d2) := Has.at Hs9 hin9 rfl
  refine gv T6 13 #[sR ya,sI 2,sR yb,sI 2,sI 4,sI 2,sI d1] [(.int d2)] (fun t k => X6.caload hx (j := (2 : Int32)) (v := (.int d2)) (by rw [e6]; exact Ar9.1) (State.isArrayOf_alike hZ.alike Ar9.2.1) Ar9.2.2 hin9 hat9 (g := (mkF m 12 #[sR ya,sI 2,sR yb,sI 2,sI 4,sI 2,sI d1] [(.int 2),(.ref ya)])) rfl rfl (hb hby d14_12) _ k) ?_
  refine gv T6 15 #[sR ya,sI 2,sR yb,sI 2,sI 4,sI 2,sI d2] [] (fun t k => XS.istore X6.here hx rfl (hb hby d14_13) rfl (l' := #[sR ya,sI 2,sR yb,sI 2,sI 4,sI 2,sI d2]) rfl k) ?_
  refine gv T6 17 #[sR ya,sI 2,sR yb,sI 2,sI 4,sI 2,sI d2] [(.int d2)] (fun t k => XS.iload X6.here hx rfl (hb hby d14_15) rfl k) ?_
  refine gv T6 20 #[sR ya,sI 2,sR yb,sI 2,sI 4,sI 2,sI d2] [(.int 255),(.int d2)] (fun t k => XS.sipush X6.here hx rfl (hb hby d14_17) k) ?_
  refine gv T6 26 #[sR ya,sI 2,sR yb,sI 2,sI 4,sI 2,sI d2] [] (fun t k => XS.icmpYes X6.here hx rfl (pc0 := 20) (pc' := 26) rfl (hb hby d14_20) rfl (flt hd2).2.2.2 (by decide) (by decide) k) ?_
  refine gv T6 27 #[sR ya,sI 2,sR yb,sI 2,sI 4,sI 2,sI d2] [(.ref yb)] (fun t k => XS.aloadN X6.here hx rfl (hb hby d14_26) rfl rfl k) ?_
  refine gv T6 28 #[sR ya,sI 2,sR yb,sI 2,sI 4,sI 2,sI d2] [(.int 2),(.ref yb)] (fun t k => XS.iloadN X6.here hx rfl (hb hby d14_27) rfl k) ?_
  refine gv T6 30 #[sR ya,sI 2,sR yb,sI 2,sI 4,sI 2,sI d2] [(.int d2),(.int 2),(.ref yb)] (fun t k => XS.iload X6.here hx rfl (hb hby d14_28) rfl k) ?_
  refine gv T6 31 #[sR ya,sI 2,sR yb,sI 2,sI 4,sI 2,sI d2] [(.int (d2.toInt8.toInt32)),(.int 2),(.ref yb)] (fun t k => XS.i2b X6.here hx rfl (hb hby d14_30) rfl k) ?_
  obtain ⟨cl10,Ar10,q10,S10,M10,Hs10,G10⟩ := id f8
  have hin10 : ¬ ((2 : Int32) < 0 ∨ cl10.slots.size ≤ ((2 : Int32)).toNatClampNeg) := inb_of S10 ⟨by decide,by decide⟩
  obtain ⟨T10,h10,X10,e10,W10,st10⟩ := stB X6 hx hZ e6 Ar10 (j := (2 : Int32)) hin10 (g := (mkF m 31 #[sR ya,sI 2,sR yb,sI 2,sI 4,sI 2,sI d2] [(.int (d2.toInt8.toInt32)),(.int 2),(.ref yb)])) rfl rfl (hb hby d14_31)
  have f11 := f7.other W10 ne_ya_yb
  have f12 : Arv Z h10 yb kb .byte (4 : Int32) [(.int (nar .byte (d0.toInt8.toInt32))),(.int (nar .byte (d1.toInt8.toInt32))),(.int (nar .byte (d2.toInt8.toInt32))),(.int 0)] (.int 0) := Arv.set Ar10 q10 S10 M10 Hs10 G10 (fits_nar_byte _) W10 2 rfl (Nat.le_of_ble_eq_true rfl)
  have K10 := Keep.wr K6 W10 (Or.inl (List.mem_of_getElem? (i := 0) rfl))
  have Z10 := Nat.le_trans Z0 K10.1
  have N10 := Fr.snoc X10 N6 g_yb
  refine gv T10 32 #[sR ya,sI 2,sR yb,sI 2,sI 4,sI 2,sI d2] [] (fun t k => st10 _ k) ?_
  refine gv T10 35 #[sR ya,sI 3,sR yb,sI 2,sI 4,sI 2,sI d2] [] (fun t k => XS.iinc X10.here hx rfl (hb hby d14_32) rfl (l' := #[sR ya,sI 3,sR yb,sI 2,sI 4,sI 2,sI d2]) rfl k) ?_
  refine gv T10 38 #[sR ya,sI 3,sR yb,sI 3,sI 4,sI 2,sI d2] [] (fun t k => XS.iinc X10.here hx rfl (hb hby d14_35) rfl (l' := #[sR ya,sI 3,sR yb,sI 3,sI 4,sI 2,sI d2]) rfl k) ?_
  refine gv T10 41 #[sR ya,sI 3,sR yb,sI 3,sI 4,sI 3,sI d2] [] (fun t k => XS.iinc X10.here hx rfl (hb hby d14_38) rfl (l' := #[sR ya,sI 3,sR yb,sI 3,sI 4,sI 3,sI d2]) rfl k) ?_
  refine gv T10 3 #[sR ya,sI 3,sR yb,sI 3,sI 4,sI 3,sI d2] [] (fun t k => XS.goto X10.here hx rfl (pc0 := 41) (pc' := 3) rfl (hb hby d14_41) (by decide) (by decide) k) ?_
  refine gv T10 5 #[sR ya,sI 3,sR yb,sI 3,sI 4,sI 3,sI d2] [(.int 3)] (fun t k => XS.iload X10.here hx rfl (hb hby d14_3) rfl k) ?_
  refine gv T10 7 #[sR ya,sI 3,sR yb,sI 3,sI 4,sI 3,sI d2] [(.int 4),(.int 3)] (fun t k => XS.iload X10.here hx rfl (hb hby d14_5) rfl k) ?_
  refine gv T10 10 #[sR ya,sI 3,sR yb,sI 3,sI 4,sI 3,sI d2] [] (fun t k => XS.icmpNo X10.here hx rfl (hb hby d14_7) rfl (tlt (by decide : ((3 : Int32) < (4 : Int32)))).2.1 k) ?_
  refine gv T10 11 #[sR ya,sI 3,sR yb,sI 3,sI 4,sI 3,sI d2] [(.ref ya)] (fun t k => XS.aloadN X10.here hx rfl (hb hby d14_10) rfl rfl k) ?_
  refine gv T10 12 #[sR ya,sI 3,sR yb,sI 3,sI 4,sI 3,sI d2] [(.int 3),(.ref ya)] (fun t k => XS.iloadN X10.here hx rfl (hb hby d14_11) rfl k) ?_
  obtain ⟨cl13,Ar13,q13,S13,M13,Hs13,G13⟩ := id f11
  have hin13 : ¬ ((3 : Int32) < 0 ∨ cl13.slots.size ≤ ((3 : Int32)).toNatClampNeg) := inb_of S13 ⟨by decide,by decide⟩
  have hat13 : cl13.slots[((3 : Int32)).toNatClampNeg]? = some (.int d3) := Has.at Hs13 hin13 rfl
  refine gv T10 13 #[sR ya,sI 3,sR yb,sI 3,sI 4,sI 3,sI d2] [(.int d3)] (fun t k => X10.caload hx (j := (3 : Int32)) (v := (.int d3)) (by rw [e10]; exact Ar13.1) (State.isArrayOf_alike hZ.alike Ar13.2.1) Ar13.2.2 hin13 hat13 (g := (mkF m 12 #[sR ya,sI 3,sR yb,sI 3,sI 4,sI 3,sI d2] [(.int 3),(.ref ya)])) rfl rfl (hb hby d14_12) _ k) ?_
  refine gv T10 15 #[sR ya,sI 3,sR yb,sI 3,sI 4,sI 3,sI d3] [] (fun t k => XS.istore X10.here hx rfl (hb hby d14_13) rfl (l' := #[sR ya,sI 3,sR yb,sI 3,sI 4,sI 3,sI d3]) rfl k) ?_
  refine gv T10 17 #[sR ya,sI 3,sR yb,sI 3,sI 4,sI 3,sI d3] [(.int d3)] (fun t k => XS.iload X10.here hx rfl (hb hby d14_15) rfl k) ?_
  refine gv T10 20 #[sR ya,sI 3,sR yb,sI 3,sI 4,sI 3,sI d3] [(.int 255),(.int d3)] (fun t k => XS.sipush X10.here hx rfl (hb hby d14_17) k) ?_
  refine gv T10 26 #[sR ya,sI 3,sR yb,sI 3,sI 4,sI 3,sI d3] [] (fun t k => XS.icmpYes X10.here hx rfl (pc0 := 20) (pc' := 26) rfl (hb hby d14_20) rfl (flt hd3).2.2.2 (by decide) (by decide) k) ?_
  refine gv T10 27 #[sR ya,sI 3,sR yb,sI 3,sI 4,sI 3,sI d3] [(.ref yb)] (fun t k => XS.aloadN X10.here hx rfl (hb hby d14_26) rfl rfl k) ?_
  refine gv T10 28 #[sR ya,sI 3,sR yb,sI 3,sI 4,sI 3,sI d3] [(.int 3),(.ref yb)] (fun t k => XS.iloadN X10.here hx rfl (hb hby d14_27) rfl k) ?_
  refine gv T10 30 #[sR ya,sI 3,sR yb,sI 3,sI 4,sI 3,sI d3] [(.int d3),(.int 3),(.ref yb)] (fun t k => XS.iload X10.here hx rfl (hb hby d14_28) rfl k) ?_
  refine gv T10 31 #[sR ya,sI 3,sR yb,sI 3,sI 4,sI 3,sI d3] [(.int (d3.toInt8.toInt32)),(.int 3),(.ref yb)] (fun t k => XS.i2b X10.here hx rfl (hb hby d14_30) rfl k) ?_
  obtain ⟨cl14,Ar14,q14,S14,M14,Hs14,G14⟩ := id f12
  have hin14 : ¬ ((3 : Int32) < 0 ∨ cl14.slots.size ≤ ((3 : Int32)).toNatClampNeg) := inb_of S14 ⟨by decide,by decide⟩
  obtain ⟨T14,h14,X14,e14,W14,st14⟩ := stB X10 hx hZ e10 Ar14 (j := (3 : Int32)) hin14 (g := (mkF m 31 #[sR ya,sI 3,sR yb,sI 3,sI 4,sI 3,sI d3] [(.int (d3.toInt8.toInt32)),(.int 3),(.ref yb)])) rfl rfl (hb hby d14_31)
  have f15 := f11.other W14 ne_ya_yb
  have f16 : Arv Z h14 yb kb .byte (4 : Int32) [(.int (nar .byte (d0.toInt8.toInt32))),(.int (nar .byte (d1.toInt8.toInt32))),(.int (nar .byte (d2.toInt8.toInt32))),(.int (nar .byte (d3.toInt8.toInt32)))] (.int 0) := Arv.set Ar14 q14 S14 M14 Hs14 G14 (fits_nar_byte _) W14 3 rfl (Nat.le_of_ble_eq_true rfl)
  have K14 := Keep.wr K10 W14 (Or.inl (List.mem_of_getElem? (i := 0) rfl))
  have Z14 := Nat.le_trans Z0 K14.1
  have N14 := Fr.snoc X14 N10 g_yb
  refine gv T14 32 #[sR ya,sI 3,sR yb,sI 3,sI 4,sI 3,sI d3] [] (fun t k => st14 _ k) ?_
  refine gv T14 35 #[sR ya,sI 4,sR yb,sI 3,sI 4,sI 3,sI d3] [] (fun t k => XS.iinc X14.here hx rfl (hb hby d14_32) rfl (l' := #[sR ya,sI 4,sR yb,sI 3,sI 4,sI 3,sI d3]) rfl k) ?_
  refine gv T14 38 #[sR ya,sI 4,sR yb,sI 4,sI 4,sI 3,sI d3] [] (fun t k => XS.iinc X14.here hx rfl (hb hby d14_35) rfl (l' := #[sR ya,sI 4,sR yb,sI 4,sI 4,sI 3,sI d3]) rfl k) ?_
  refine gv T14 41 #[sR ya,sI 4,sR yb,sI 4,sI 4,sI 4,sI d3] [] (fun t k => XS.iinc X14.here hx rfl (hb hby d14_38) rfl (l' := #[sR ya,sI 4,sR yb,sI 4,sI 4,sI 4,sI d3]) rfl k) ?_
  refine gv T14 3 #[sR ya,sI 4,sR yb,sI 4,sI 4,sI 4,sI d3] [] (fun t k => XS.goto X14.here hx rfl (pc0 := 41) (pc' := 3) rfl (hb hby d14_41) (by decide) (by decide) k) ?_
  refine gv T14 5 #[sR ya,sI 4,sR yb,sI 4,sI 4,sI 4,sI d3] [(.int 4)] (fun t k => XS.iload X14.here hx rfl (hb hby d14_3) rfl k) ?_
  refine gv T14 7 #[sR ya,sI 4,sR yb,sI 4,sI 4,sI 4,sI d3] [(.int 4),(.int 4)] (fun t k => XS.iload X14.here hx rfl (hb hby d14_5) rfl k) ?_
  refine gv T14 44 #[sR ya,sI 4,sR yb,sI 4,sI 4,sI 4,sI d3] [] (fun t k => XS.icmpYes X14.here hx rfl (pc0 := 7) (pc' := 44) rfl (hb hby d14_7) rfl (flt (by decide : ¬ ((4 : Int32) < (4 : Int32)))).2.1 (by decide) (by decide) k) ?_
  refine gv T14 46 #[sR ya,sI 4,sR yb,sI 4,sI 4,sI 4,sI d3] [(.int 4)] (fun t k => XS.iload X14.here hx rfl (hb hby d14_44) rfl k) ?_
  exact own_ret X14 hx Bd.notSynchronized Bd.returns rfl (Or.inl ⟨rfl,by simp,_,rfl⟩) (hb hby d14_46) e14 ⟨rfl,N14,K14,f16⟩ (by decide) (by decide)
theorem ef_134 (m : MethodId) (ya : Addr) : entryFrame m #[(.ref ya), (.int (0 : Int32)), (.int (4 : Int32))] 6 = mkF m 0 #[.val (.ref ya), .val (.int (0 : Int32)), .val (.int (4 : Int32)), .unset, .unset, .unset] [] := by first | (simp [entryFrame, mkF, argsToLocals, Value.category]; done) | rfl
def Q134 (Z : State) (ya : Addr) (ka : ClassId) (d0 : Int32) (d1 : Int32) (d2 : Int32) (d3 : Int32) (h0 : Heap) (n0 : Nat) (v : Option Value) (h : Heap) (L : List Loc) : Prop := ∃ (yb : Addr) (kb : ClassId), v = some (.ref yb) ∧ Fr n0 L ∧ Keep h0 h [] ∧ Arv Z h yb kb .byte (4 : Int32) [(.int (nar .byte (d0.toInt8.toInt32))), (.int (nar .byte (d1.toInt8.toInt32))), (.int (nar .byte (d2.toInt8.toInt32))), (.int (nar .byte (d3.toInt8.toInt32)))] (.int (0 : Int32)) ∧ n0 ≤ yb ∧ h0.size ≤ yb
set_option maxRecDepth 65536 in
set_option maxHeartbeats 40000000 in
theorem rm134 (l : Launch) (Z : State) (a0 : Array Value) (hw : ∀ d ∈ tables_1, d.before a0 Z = true) (ws : List Jvm.Cond) (ya : Addr) (ka : ClassId) (d0 : Int32) (d1 : Int32) (d2 : Int32) (d3 : Int32) (h0 : Heap) (n0 : Nat) (Z0 : n0 ≤ h0.size) (f0_ya : Arv Z h0 ya ka .char (4 : Int32) [(.int d0), (.int d1), (.int d2), (.int d3)] (.int (0 : Int32))) (hd0 : ¬ (255 : Int32) < d0) (hd1 : ¬ (255 : Int32) < d1) (hd2 : ¬ (255 : Int32) < d2) (hd3 : ¬ (255 : Int32) < d3) :
    MetFree l (⟨"java/lang/StringUTF16", "compress", "([CII)[B"⟩ : MethodName) (head1 (Jvm.Cond.code (⟨"java/lang/StringUTF16", "compress", "([CII)[B"⟩ : MethodName) jdk_52_method_16_code 6 (some (.array .byte)) :: ws) ({ frames := 1, cells := 1, slots := 4, locals := 18 } : Room)) (fun a U => a = #[(.ref ya), (.int 0), (.int 4)] ∧ Z.Warmed39 U.vm ∧ U.heap = h0) (fun _ _ _ _ _ => True) (fun _ U o U' => ∃ v L, o = .returned v ∧ Q134 Z ya ka d0 d1 d2 d3 h0 n0 v U'.heap L ∧ FrameEnd U o U' L 1 4) := by
  refine MetFree.of_bodySF (plainFor_of_name pn_105) hisR ?_
  intro p e s m args below meth c s₁ Bd hml0 hP hK
  obtain ⟨rfl,hZ,hh⟩ := hP
  have hx := Bd.exec
  have hby := Bd.bytes
  have hml : c.maxLocals = 6 := hml0
  have hown : s.vm.findClass "java/lang/StringUTF16" = some m.cls := findClass_of_methodNamed Bd.named
  have hnm := (name_of_methodNamed Bd.named Bd.method).1
  have X0 : Stand p l e ({ frames := 1,cells := 1,slots := 4,locals := 18 } : Room) s m #[(.ref ya),(.int 0),(.int 4)] below meth c s₁ [] 0 0 := Stand.of_body Bd
  have e0 : s₁.heap = h0 := by rw [← hh,Bd.state]; rfl
  have N0 := Fr.nil n0
  refine own_start (Q := fun v h L => Q134 Z ya ka d0 d1 d2 d3 h0 n0 v h L) ?_
  refine gv s₁ 0 #[sR ya,sI 0,sI 4,sU,sU,sU] [] (fun t k => castTop (ef_134 m ya) k) ?_
  refine gv s₁ 1 #[sR ya,sI 0,sI 4,sU,sU,sU] [(.int 4)] (fun t k => XS.iloadN X0.here hx rfl (hb hby d13_0) rfl k) ?_
  obtain ⟨T1,h1,k1,X1,e1,E1,A1,st1⟩ := newP X0 hx hZ (w_ hw 10 rfl) e0 (g := (mkF m 1 #[sR ya,sI 0,sI 4,sU,sU,sU] [(.int 4)])) rfl (hb hby d13_1) rfl (by decide) (cap := 4) (by decide) (by decide) (by decide) (by decide)
  obtain ⟨b1,g1⟩ : ∃ z,z = h0.size := ⟨_,rfl⟩
  rw [← g1] at A1 st1
  have f2 := f0_ya.ext E1
  have K1 := Keep.ext (Keep.refl h0 []) E1
  have Z1 := Nat.le_trans Z0 K1.1
  have g_b1 : n0 ≤ b1 := Nat.le_trans Z0 (Nat.le_of_eq g1.symm)
  have sz_b1 : h0.size ≤ b1 := Nat.le_trans ((Keep.refl h0 [])).1 (Nat.le_of_eq g1.symm)
  have ne_ya_b1 : ya ≠ b1 := Nat.ne_of_lt (Nat.lt_of_lt_of_le f0_ya.lt (Nat.le_of_eq g1.symm))
  have f3 : Arv Z h1 b1 k1 .byte (4 : Int32) [(.int 0),(.int 0),(.int 0),(.int 0)] (.int 0) := (Arv.new A1 (by decide)).pad (pad_rep [] (.int 0) 4)
  refine gv T1 3 #[sR ya,sI 0,sI 4,sU,sU,sU] [(.ref b1)] (fun t k => st1 _ k) ?_
  refine gv T1 4 #[sR ya,sI 0,sI 4,sR b1,sU,sU] [] (fun t k => XS.astoreN X1.here hx rfl (hb hby d13_3) rfl rfl (l' := #[sR ya,sI 0,sI 4,sR b1,sU,sU]) rfl k) ?_
  refine gv T1 5 #[sR ya,sI 0,sI 4,sR b1,sU,sU] [(.ref ya)] (fun t k => XS.aloadN X1.here hx rfl (hb hby d13_4) rfl rfl k) ?_
  refine gv T1 6 #[sR ya,sI 0,sI 4,sR b1,sU,sU] [(.int 0),(.ref ya)] (fun t k => XS.iloadN X1.here hx rfl (hb hby d13_5) rfl k) ?_
  refine gv T1 7 #[sR ya,sI 0,sI 4,sR b1,sU,sU] [(.ref b1),(.int 0),(.ref ya)] (fun t k => XS.aloadN X1.here hx rfl (hb hby d13_6) rfl rfl k) ?_
  refine gv T1 8 #[sR ya,sI 0,sI 4,sR b1,sU,sU] [(.int 0),(.ref b1),(.int 0),(.ref ya)] (fun t k => XS.iconst X1.here hx rfl (hb hby d13_7) k) ?_
  refine gv T1 9 #[sR ya,sI 0,sI 4,sR b1,sU,sU] [(.int 4),(.int 0),(.ref b1),(.int 0),(.ref ya)] (fun t k => XS.iloadN X1.here hx rfl (hb hby d13_8) rfl k) ?_
  obtain ⟨_,_,⟨T4,L4,k4,n4⟩,-,X4,⟨Lc4,hQ4,l4,y4,z4⟩,st4⟩ := Jvm.LawKit.callS X1 hx (y := (⟨"java/lang/StringUTF16","compress","([CI[BII)I"⟩ : MethodName)) hown (mvT hZ (w_ hw 66 rfl)) (mvT hZ (w_ hw 67 rfl)) (mvT hZ (w_ hw 64 rfl)) (mvT hZ (w_ hw 68 rfl)) (by decide) (backOf (W := 0) (rm144 l Z a0 hw [] ya b1 ka k1 d0 d1 d2 d3 h1 n0 Z1 f2 f3 ne_ya_b1 g_b1 hd0 hd1 hd2 hd3) hZ (w_ hw 68 rfl) (w_ hw 64 rfl) (by decide) (by decide)) (g := (mkF m 9 #[sR ya,sI 0,sI 4,sR b1,sU,sU] [(.int 4),(.int 0),(.ref b1),(.int 0),(.ref ya)])) rfl (by rw [hml]; rfl) (argsL := [(.ref ya),(.int 0),(.ref b1),(.int 0),(.int 4)]) (rest := []) (lenOf pd_8 rfl) rfl (own_rm rfl) (hb hby d13_9) (fun _ _ => ⟨rfl,e1,(by decide : 1 + 0 ≤ _),(by decide : 4 + 0 ≤ _)⟩)
  dsimp only [Pt.U, Pt.locs, Pt.cells, Pt.slots] at X4 l4 y4 z4 st4 hQ4
  replace X4 := own_cast X4 l4 y4 z4
  obtain ⟨rfl,N4q,K4q,po4_0⟩ := hQ4
  have N4 := Fr.app N0 N4q
  have f5 := f2.keep K4q (ninS ne_ya_b1 nin0)
  have K4 := Keep.trans K1 K4q (allS (Or.inr sz_b1) all0)
  have Z4 := Nat.le_trans Z0 K4.1
  refine gv T4 12 #[sR ya,sI 0,sI 4,sR b1,sU,sU] [(.int 4)] (fun t k => st4 _ k) ?_
  refine gv T4 14 #[sR ya,sI 0,sI 4,sR b1,sI 4,sU] [] (fun t k => XS.istore X4.here hx rfl (hb hby d13_12) rfl (l' := #[sR ya,sI 0,sI 4,sR b1,sI 4,sU]) rfl k) ?_
  refine gv T4 16 #[sR ya,sI 0,sI 4,sR b1,sI 4,sU] [(.int 4)] (fun t k => XS.iload X4.here hx rfl (hb hby d13_14) rfl k) ?_
  refine gv T4 17 #[sR ya,sI 0,sI 4,sR b1,sI 4,sU] [(.int 4),(.int 4)] (fun t k => XS.iloadN X4.here hx rfl (hb hby d13_16) rfl k) ?_
  refine gv T4 57 #[sR ya,sI 0,sI 4,sR b1,sI 4,sU] [] (fun t k => XS.icmpYes X4.here hx rfl (pc0 := 17) (pc' := 57) rfl (hb hby d13_17) rfl (teq rfl).1 (by decide) (by decide) k) ?_
  refine gv T4 58 #[sR ya,sI 0,sI 4,sR b1,sI 4,sU] [(.ref b1)] (fun t k => XS.aloadN X4.here hx rfl (hb hby d13_57) rfl rfl k) ?_
  exact own_ret X4 hx Bd.notSynchronized Bd.returns rfl (Or.inr (Or.inr (Or.inr (Or.inr ⟨rfl,rfl,rfl⟩)))) (hb hby d13_58) rfl ⟨b1,k1,rfl,N4,K4,po4_0,g_b1,sz_b1⟩ (by decide) (by decide)
theorem ef_114 (m : MethodId) (xs : Addr) (ya : Addr) : entryFrame m #[(.ref xs), (.ref ya), (.int (0 : Int32)), (.int (4 : Int32)), .null] 6 = mkF m 0 #[.val (.ref xs), .val (.ref ya), .val (.int (0 : Int32)), .val (.int (4 : Int32)), .val .null, .unset] [] := by first | (simp [entryFrame, mkF, argsToLocals, Value.category]; done) | rfl
def Q114 (Z : State) (xs : Addr) (ya : Addr) (ka : ClassId) (wc : Int32) (u0 : Value) (u1 : Value) (d0 : Int32) (d1 : Int32) (d2 : Int32) (d3 : Int32) (h0 : Heap) (n0 : Nat) (v : Option Value) (h : Heap) (L : List Loc) : Prop := ∃ (yb : Addr) (kb : ClassId), v = none ∧ Fr n0 L ∧ Keep h0 h [xs] ∧ Exa Z h xs "java/lang/String" ∧ Fld Z h xs "java/lang/String" "coder" "B" (.int (0 : Int32)) ∧ Fld Z h xs "java/lang/String" "value" "[B" (.ref yb) ∧ Arv Z h yb kb .byte (4 : Int32) [(.int (nar .byte (d0.toInt8.toInt32))), (.int (nar .byte (d1.toInt8.toInt32))), (.int (nar .byte (d2.toInt8.toInt32))), (.int (nar .byte (d3.toInt8.toInt32)))] (.int (0 : Int32)) ∧ n0 ≤ yb ∧ h0.size ≤ yb
set_option maxRecDepth 65536 in
set_option maxHeartbeats 40000000 in
theorem rm114 (l : Launch) (Z : State) (a0 : Array Value) (hw : ∀ d ∈ tables_1, d.before a0 Z = true) (ws : List Jvm.Cond) (xs : Addr) (ya : Addr) (ka : ClassId) (wc : Int32) (u0 : Value) (u1 : Value) (d0 : Int32) (d1 : Int32) (d2 : Int32) (d3 : Int32) (h0 : Heap) (n0 : Nat) (Z0 : n0 ≤ h0.size) (f0_xs : Exa Z h0 xs "java/lang/String") (f1_xs_coder : Fld Z h0 xs "java/lang/String" "coder" "B" u0) (f2_xs_value : Fld Z h0 xs "java/lang/String" "value" "[B" u1) (f3_ya : Arv Z h0 ya ka .char (4 : Int32) [(.int d0), (.int d1), (.int d2), (.int d3)] (.int (0 : Int32))) (f4_COMPACT_STRINGS : Sta Z h0 "java/lang/String" "COMPACT_STRINGS" "Z" (.int wc)) (ne_xs_ya : xs ≠ ya) (g_xs : n0 ≤ xs) (hd0 : ¬ (255 : Int32) < d0) (hd1 : ¬ (255 : Int32) < d1) (hd2 : ¬ (255 : Int32) < d2) (hd3 : ¬ (255 : Int32) < d3) (hwc : ¬ wc = (0 : Int32)) :
    MetFree l (⟨"java/lang/String", "<init>", "([CIILjava/lang/Void;)V"⟩ : MethodName) (head1 (Jvm.Cond.code (⟨"java/lang/String", "<init>", "([CIILjava/lang/Void;)V"⟩ : MethodName) jdk_42_method_149_code 6 none :: ws) ({ frames := 2, cells := 1, slots := 4, locals := 35 } : Room)) (fun a U => a = #[(.ref xs), (.ref ya), (.int 0), (.int 4), .null] ∧ Z.Warmed39 U.vm ∧ U.heap = h0) (fun _ _ _ _ _ => True) (fun _ U o U' => ∃ v L, o = .returned v ∧ Q114 Z xs ya ka wc u0 u1 d0 d1 d2 d3 h0 n0 v U'.heap L ∧ FrameEnd U o U' L 1 4) := by
  refine MetFree.of_bodySF (plainFor_of_name pn_6) hisR ?_
  intro p e s m args below meth c s₁ Bd hml0 hP hK
  obtain ⟨rfl,hZ,hh⟩ := hP
  have hx := Bd.exec
  have hby := Bd.bytes
  have hml : c.maxLocals = 6 := hml0
  have hown : s.vm.findClass "java/lang/String" = some m.cls := findClass_of_methodNamed Bd.named
  have hnm := (name_of_methodNamed Bd.named Bd.method).1
  have X0 : Stand p l e ({ frames := 2,cells := 1,slots := 4,locals := 35 } : Room) s m #[(.ref xs),(.ref ya),(.int 0),(.int 4),.null] below meth c s₁ [] 0 0 := Stand.of_body Bd
  have e0 : s₁.heap = h0 := by rw [← hh,Bd.state]; rfl
  have N0 := Fr.nil n0
  refine own_start (Q := fun v h L => Q114 Z xs ya ka wc u0 u1 d0 d1 d2 d3 h0 n0 v h L) ?_
  refine gv s₁ 0 #[sR xs,sR ya,sI 0,sI 4,.val .null,sU] [] (fun t k => castTop (ef_114 m xs ya) k) ?_
  refine gv s₁ 1 #[sR xs,sR ya,sI 0,sI 4,.val .null,sU] [(.ref xs)] (fun t k => XS.aloadN X0.here hx rfl (hb hby d11_0) rfl rfl k) ?_
  obtain ⟨T1,X1,e1,st1⟩ := initO X0 hx hZ hown (w_ hw 59 rfl) (w_ hw 60 rfl) (w_ hw 61 rfl) e0 (g := (mkF m 1 #[sR xs,sR ya,sI 0,sI 4,.val .null,sU] [(.ref xs)])) rfl (by rw [hml]; rfl) rfl (hb hby d11_1) (by decide) (W := 0) (own_rm rfl) (by decide)
  refine gv T1 4 #[sR xs,sR ya,sI 0,sI 4,.val .null,sU] [] (fun t k => st1 _ k) ?_
  refine gv T1 5 #[sR xs,sR ya,sI 0,sI 4,.val .null,sU] [(.int 4)] (fun t k => XS.iloadN X1.here hx rfl (hb hby d11_4) rfl k) ?_
  refine gv T1 27 #[sR xs,sR ya,sI 0,sI 4,.val .null,sU] [] (fun t k => XS.ifYes X1.here hx rfl (pc0 := 5) (pc' := 27) rfl (hb hby d11_5) rfl ((if0 _ _).trans (feq (by decide : ¬ ((4 : Int32) = (0 : Int32)))).2) (by decide) (by decide) k) ?_
  obtain ⟨T2,X2,e2,st2⟩ := getS2 X1 hx hZ hown (host := "") (Or.inl (w_ hw 26 rfl)) Via.refl e1 f4_COMPACT_STRINGS (g := (mkF m 27 #[sR xs,sR ya,sI 0,sI 4,.val .null,sU] [])) rfl (hb hby d11_27)
  refine gv T2 30 #[sR xs,sR ya,sI 0,sI 4,.val .null,sU] [(.int wc)] (fun t k => st2 _ k) ?_
  refine gv T2 33 #[sR xs,sR ya,sI 0,sI 4,.val .null,sU] [] (fun t k => XS.ifNo X2.here hx rfl (hb hby d11_30) rfl ((if0 _ _).trans (feq hwc).1) k) ?_
  refine gv T2 34 #[sR xs,sR ya,sI 0,sI 4,.val .null,sU] [(.ref ya)] (fun t k => XS.aloadN X2.here hx rfl (hb hby d11_33) rfl rfl k) ?_
  refine gv T2 35 #[sR xs,sR ya,sI 0,sI 4,.val .null,sU] [(.int 0),(.ref ya)] (fun t k => XS.iloadN X2.here hx rfl (hb hby d11_34) rfl k) ?_
  refine gv T2 36 #[sR xs,sR ya,sI 0,sI 4,.val .null,sU] [(.int 4),(.int 0),(.ref ya)] (fun t k => XS.iloadN X2.here hx rfl (hb hby d11_35) rfl k) ?_
  obtain ⟨_,_,⟨T3,L3,k3,n3⟩,-,X3,⟨Lc3,hQ3,l3,y3,z3⟩,st3⟩ := Jvm.LawKit.callS X2 hx (y := (⟨"java/lang/StringUTF16","compress","([CII)[B"⟩ : MethodName)) hown (mvT hZ (w_ hw 62 rfl)) (mvT hZ (w_ hw 63 rfl)) (mvT hZ (w_ hw 64 rfl)) (mvT hZ (w_ hw 65 rfl)) (by decide) (backOf (W := 0) (rm134 l Z a0 hw [] ya ka d0 d1 d2 d3 h0 n0 Z0 f3_ya hd0 hd1 hd2 hd3) hZ (w_ hw 65 rfl) (w_ hw 64 rfl) (by decide) (by decide)) (g := (mkF m 36 #[sR xs,sR ya,sI 0,sI 4,.val .null,sU] [(.int 4),(.int 0),(.ref ya)])) rfl (by rw [hml]; rfl) (argsL := [(.ref ya),(.int 0),(.int 4)]) (rest := []) (lenOf pd_9 rfl) rfl (own_rm rfl) (hb hby d11_36) (fun _ _ => ⟨rfl,e2,(by decide : 0 + 1 ≤ _),(by decide : 0 + 4 ≤ _)⟩)
  dsimp only [Pt.U, Pt.locs, Pt.cells, Pt.slots] at X3 l3 y3 z3 st3 hQ3
  replace X3 := own_cast X3 l3 y3 z3
  obtain ⟨yb_3,kb_3,rfl,N3q,K3q,po3_0,px3_g_yb,px3_sz_yb⟩ := hQ3
  have N3 := Fr.app N0 N3q
  have f4 := f0_xs.keep K3q
  have f5 := f1_xs_coder.keep K3q nin0
  have f6 := f2_xs_value.keep K3q nin0
  have f7 := f3_ya.keep K3q nin0
  have f8 : Sta Z T3.heap "java/lang/String" "COMPACT_STRINGS" "Z" (.int wc) := own_staKeep f4_COMPACT_STRINGS K3q all0
  have K3 := Keep.trans (Keep.refl h0 [xs]) K3q all0
  have Z3 := Nat.le_trans Z0 K3.1
  have g_yb_3 := px3_g_yb
  have sz_yb_3 : h0.size ≤ yb_3 := Nat.le_trans ((Keep.refl h0 [xs])).1 px3_sz_yb
  have ne_xs_yb_3 : xs ≠ yb_3 := Nat.ne_of_lt (Nat.lt_of_lt_of_le f0_xs.lt px3_sz_yb)
  have ne_ya_yb_3 : ya ≠ yb_3 := Nat.ne_of_lt (Nat.lt_of_lt_of_le f3_ya.lt px3_sz_yb)
  refine gv T3 39 #[sR xs,sR ya,sI 0,sI 4,.val .null,sU] [(.ref yb_3)] (fun t k => st3 _ k) ?_
  refine gv T3 41 #[sR xs,sR ya,sI 0,sI 4,.val .null,sR yb_3] [] (fun t k => XS.astore X3.here hx rfl (hb hby d11_39) rfl rfl (l' := #[sR xs,sR ya,sI 0,sI 4,.val .null,sR yb_3]) rfl k) ?_
  refine gv T3 42 #[sR xs,sR ya,sI 0,sI 4,.val .null,sR yb_3] [(.ref xs)] (fun t k => XS.aloadN X3.here hx rfl (hb hby d11_41) rfl rfl k) ?_
  refine gv T3 44 #[sR xs,sR ya,sI 0,sI 4,.val .null,sR yb_3] [(.ref yb_3),(.ref xs)] (fun t k => XS.aload X3.here hx rfl (hb hby d11_42) rfl rfl k) ?_
  refine gv T3 45 #[sR xs,sR ya,sI 0,sI 4,.val .null,sR yb_3] [(.int 4),(.ref yb_3),(.ref xs)] (fun t k => XS.iloadN X3.here hx rfl (hb hby d11_44) rfl k) ?_
  obtain ⟨_,_,⟨T9,L9,k9,n9⟩,-,X9,⟨Lc9,hQ9,l9,y9,z9⟩,st9⟩ := Jvm.LawKit.callS X3 hx (y := (⟨"java/lang/StringUTF16","coderFromArrayLen","([BI)B"⟩ : MethodName)) hown (mvT hZ (w_ hw 69 rfl)) (mvT hZ (w_ hw 70 rfl)) (mvT hZ (w_ hw 64 rfl)) (mvT hZ (w_ hw 71 rfl)) (by decide) (backOf (W := 1) (rm154 l Z a0 hw [] yb_3 kb_3 ([(.int (nar .byte (d0.toInt8.toInt32))),(.int (nar .byte (d1.toInt8.toInt32))),(.int (nar .byte (d2.toInt8.toInt32))),(.int (nar .byte (d3.toInt8.toInt32)))] : List Value) T3.heap n0 Z3 po3_0) hZ (w_ hw 71 rfl) (w_ hw 64 rfl) (by decide) (by decide)) (g := (mkF m 45 #[sR xs,sR ya,sI 0,sI 4,.val .null,sR yb_3] [(.int 4),(.ref yb_3),(.ref xs)])) rfl (by rw [hml]; rfl) (argsL := [(.ref yb_3),(.int 4)]) (rest := [(.ref xs)]) (lenOf pd_10 rfl) rfl (own_rm rfl) (hb hby d11_45) (fun _ _ => ⟨rfl,rfl,(by decide : 1 + 0 ≤ _),(by decide : 4 + 0 ≤ _)⟩)
  dsimp only [Pt.U, Pt.locs, Pt.cells, Pt.slots] at X9 l9 y9 z9 st9 hQ9
  replace X9 := own_cast X9 l9 y9 z9
  obtain ⟨rfl,N9q,eq9⟩ := hQ9
  have N9 := Fr.app N3 N9q
  refine gv T9 48 #[sR xs,sR ya,sI 0,sI 4,.val .null,sR yb_3] [(.int 0),(.ref xs)] (fun t k => st9 _ k) ?_
  obtain ⟨T10,h10,X10,e10,W10,st10⟩ := putFN X9 hx hZ hown (w_ hw 27 rfl) Via.refl eq9 f5 f4 (Or.inr ⟨(w_ hw 12 rfl),rfl,hnm⟩) (w_ hw 9 rfl) (ty := .byte) (v' := (.int 0)) (by decide) rfl rfl (g := (mkF m 48 #[sR xs,sR ya,sI 0,sI 4,.val .null,sR yb_3] [(.int 0),(.ref xs)])) rfl rfl (hb hby d11_48)
  have f11 := f4.wr W10
  have f12 := f6.other W10 (Or.inr (slot_ne (Or.inr (w_ hw 11 rfl)) (Or.inr (w_ hw 12 rfl)) (by decide) (t := (.array .byte)) (t' := .byte) (by decide) (by decide)))
  have f13 := f7.other W10 (Ne.symm ne_xs_ya)
  have f14 := f8.wr W10
  have f15 := po3_0.other W10 (Ne.symm ne_xs_yb_3)
  have f16 : Fld Z h10 xs "java/lang/String" "coder" "B" (.int 0) := f5.same W10
  have K10 := Keep.wr K3 W10 (Or.inl (List.mem_of_getElem? (i := 0) rfl))
  have Z10 := Nat.le_trans Z0 K10.1
  have N10 := Fr.snoc X10 N9 g_xs
  refine gv T10 51 #[sR xs,sR ya,sI 0,sI 4,.val .null,sR yb_3] [] (fun t k => st10 _ k) ?_
  refine gv T10 52 #[sR xs,sR ya,sI 0,sI 4,.val .null,sR yb_3] [(.ref xs)] (fun t k => XS.aloadN X10.here hx rfl (hb hby d11_51) rfl rfl k) ?_
  refine gv T10 54 #[sR xs,sR ya,sI 0,sI 4,.val .null,sR yb_3] [(.ref yb_3),(.ref xs)] (fun t k => XS.aload X10.here hx rfl (hb hby d11_52) rfl rfl k) ?_
  obtain ⟨T17,h17,X17,e17,W17,st17⟩ := putF X10 hx hZ hown (host := "") (Or.inl (w_ hw 20 rfl)) Via.refl e10 f12 f11 (Or.inr ⟨(w_ hw 11 rfl),rfl,hnm⟩) (w_ hw 9 rfl) (ty := (.array .byte)) (by decide) rfl rfl (g := (mkF m 54 #[sR xs,sR ya,sI 0,sI 4,.val .null,sR yb_3] [(.ref yb_3),(.ref xs)])) rfl rfl (hb hby d11_54)
  have f18 := f11.wr W17
  have f19 := f13.other W17 (Ne.symm ne_xs_ya)
  have f20 := f14.wr W17
  have f21 := f15.other W17 (Ne.symm ne_xs_yb_3)
  have f22 := f16.other W17 (Or.inr (slot_ne (Or.inr (w_ hw 12 rfl)) (Or.inr (w_ hw 11 rfl)) (by decide) (t := .byte) (t' := (.array .byte)) (by decide) (by decide)))
  have f23 : Fld Z h17 xs "java/lang/String" "value" "[B" (.ref yb_3) := f12.same W17
  have K17 := Keep.wr K10 W17 (Or.inl (List.mem_of_getElem? (i := 0) rfl))
  have Z17 := Nat.le_trans Z0 K17.1
  have N17 := Fr.snoc X17 N10 g_xs
  refine gv T17 57 #[sR xs,sR ya,sI 0,sI 4,.val .null,sR yb_3] [] (fun t k => st17 _ k) ?_
  exact own_retV X17 hx Bd.notSynchronized Bd.returns (hb hby d11_57) e17 ⟨yb_3,kb_3,rfl,N17,K17,f18,f22,f23,f21,g_yb_3,sz_yb_3⟩ (by decide) (by decide)
theorem ef_104 (m : MethodId) (xs : Addr) (ya : Addr) : entryFrame m #[(.ref xs), (.ref ya)] 2 = mkF m 0 #[.val (.ref xs), .val (.ref ya)] [] := by first | (simp [entryFrame, mkF, argsToLocals, Value.category]; done) | rfl
def Q104 (Z : State) (xs : Addr) (ya : Addr) (ka : ClassId) (wc : Int32) (u0 : Value) (u1 : Value) (d0 : Int32) (d1 : Int32) (d2 : Int32) (d3 : Int32) (h0 : Heap) (n0 : Nat) (v : Option Value) (h : Heap) (L : List Loc) : Prop := ∃ (yb : Addr) (kb : ClassId), v = none ∧ Fr n0 L ∧ Keep h0 h [xs] ∧ Exa Z h xs "java/lang/String" ∧ Fld Z h xs "java/lang/String" "coder" "B" (.int (0 : Int32)) ∧ Fld Z h xs "java/lang/String" "value" "[B" (.ref yb) ∧ Arv Z h yb kb .byte (4 : Int32) [(.int (nar .byte (d0.toInt8.toInt32))), (.int (nar .byte (d1.toInt8.toInt32))), (.int (nar .byte (d2.toInt8.toInt32))), (.int (nar .byte (d3.toInt8.toInt32)))] (.int (0 : Int32)) ∧ n0 ≤ yb ∧ h0.size ≤ yb
set_option maxRecDepth 65536 in
set_option maxHeartbeats 40000000 in
theorem rm104 (l : Launch) (Z : State) (a0 : Array Value) (hw : ∀ d ∈ tables_1, d.before a0 Z = true) (ws : List Jvm.Cond) (xs : Addr) (ya : Addr) (ka : ClassId) (wc : Int32) (u0 : Value) (u1 : Value) (d0 : Int32) (d1 : Int32) (d2 : Int32) (d3 : Int32) (h0 : Heap) (n0 : Nat) (Z0 : n0 ≤ h0.size) (f0_xs : Exa Z h0 xs "java/lang/String") (f1_xs_coder : Fld Z h0 xs "java/lang/String" "coder" "B" u0) (f2_xs_value : Fld Z h0 xs "java/lang/String" "value" "[B" u1) (f3_ya : Arv Z h0 ya ka .char (4 : Int32) [(.int d0), (.int d1), (.int d2), (.int d3)] (.int (0 : Int32))) (f4_COMPACT_STRINGS : Sta Z h0 "java/lang/String" "COMPACT_STRINGS" "Z" (.int wc)) (ne_xs_ya : xs ≠ ya) (g_xs : n0 ≤ xs) (hd0 : ¬ (255 : Int32) < d0) (hd1 : ¬ (255 : Int32) < d1) (hd2 : ¬ (255 : Int32) < d2) (hd3 : ¬ (255 : Int32) < d3) (hwc : ¬ wc = (0 : Int32)) :
    MetFree l (⟨"java/lang/String", "<init>", "([C)V"⟩ : MethodName) (head1 (Jvm.Cond.code (⟨"java/lang/String", "<init>", "([C)V"⟩ : MethodName) jdk_42_method_3_code 2 none :: ws) ({ frames := 3, cells := 1, slots := 4, locals := 52 } : Room)) (fun a U => a = #[(.ref xs), (.ref ya)] ∧ Z.Warmed39 U.vm ∧ U.heap = h0) (fun _ _ _ _ _ => True) (fun _ U o U' => ∃ v L, o = .returned v ∧ Q104 Z xs ya ka wc u0 u1 d0 d1 d2 d3 h0 n0 v U'.heap L ∧ FrameEnd U o U' L 1 4) := by
  refine MetFree.of_bodySF (plainFor_of_name pn_6) hisR ?_
  intro p e s m args below meth c s₁ Bd hml0 hP hK
  obtain ⟨rfl,hZ,hh⟩ := hP
  have hx := Bd.exec
  have hby := Bd.bytes
  have hml : c.maxLocals = 2 := hml0
  have hown : s.vm.findClass "java/lang/String" = some m.cls := findClass_of_methodNamed Bd.named
  have hnm := (name_of_methodNamed Bd.named Bd.method).1
  have X0 : Stand p l e ({ frames := 3,cells := 1,slots := 4,locals := 52 } : Room) s m #[(.ref xs),(.ref ya)] below meth c s₁ [] 0 0 := Stand.of_body Bd
  have e0 : s₁.heap = h0 := by rw [← hh,Bd.state]; rfl
  have N0 := Fr.nil n0
  refine own_start (Q := fun v h L => Q104 Z xs ya ka wc u0 u1 d0 d1 d2 d3 h0 n0 v h L) ?_
  refine gv s₁ 0 #[sR xs,sR ya] [] (fun t k => castTop (ef_104 m xs ya) k) ?_
  refine gv s₁ 1 #[sR xs,sR ya] [(.ref xs)] (fun t k => XS.aloadN X0.here hx rfl (hb hby d10_0) rfl rfl k) ?_
  refine gv s₁ 2 #[sR xs,sR ya] [(.ref ya),(.ref xs)] (fun t k => XS.aloadN X0.here hx rfl (hb hby d10_1) rfl rfl k) ?_
  refine gv s₁ 3 #[sR xs,sR ya] [(.int 0),(.ref ya),(.ref xs)] (fun t k => XS.iconst X0.here hx rfl (hb hby d10_2) k) ?_
  refine gv s₁ 4 #[sR xs,sR ya] [(.ref ya),(.int 0),(.ref ya),(.ref xs)] (fun t k => XS.aloadN X0.here hx rfl (hb hby d10_3) rfl rfl k) ?_
  obtain ⟨cl1,Ar1,q1,S1,M1,Hs1,G1⟩ := id f3_ya
  refine gv s₁ 5 #[sR xs,sR ya] [(.int 4),(.int 0),(.ref ya),(.ref xs)] (fun t k => X0.arraylength hx (by rw [e0]; exact Ar1.1) (State.isArrayOf_alike hZ.alike Ar1.2.1) (g := (mkF m 4 #[sR xs,sR ya] [(.ref ya),(.int 0),(.ref ya),(.ref xs)])) rfl rfl (hb hby d10_4) _ (by rw [len_of S1 M1]; exact k)) ?_
  refine gv s₁ 6 #[sR xs,sR ya] [.null,(.int 4),(.int 0),(.ref ya),(.ref xs)] (fun t k => XS.aconstNull X0.here hx rfl (hb hby d10_5) k) ?_
  obtain ⟨_,_,⟨T2,L2,k2,n2⟩,-,X2,⟨Lc2,hQ2,l2,y2,z2⟩,st2⟩ := X0.specialBack hx (y := (⟨"java/lang/String","<init>","([CIILjava/lang/Void;)V"⟩ : MethodName)) rfl hown (mvT hZ (w_ hw 55 rfl)) (mvT hZ (w_ hw 56 rfl)) (mvT hZ (w_ hw 58 rfl)) (by decide) (backOf (W := 0) (rm114 l Z a0 hw [] xs ya ka wc u0 u1 d0 d1 d2 d3 h0 n0 Z0 f0_xs f1_xs_coder f2_xs_value f3_ya f4_COMPACT_STRINGS ne_xs_ya g_xs hd0 hd1 hd2 hd3 hwc) hZ (w_ hw 58 rfl) (w_ hw 8 rfl) (by decide) (by decide)) (g := (mkF m 6 #[sR xs,sR ya] [.null,(.int 4),(.int 0),(.ref ya),(.ref xs)])) rfl (by rw [hml]; rfl) (Steps.refl _) (a := xs) (argsL := [(.ref ya),(.int 0),(.int 4),.null]) (rest := []) (lenOf pd_11 rfl) rfl (own_rm rfl) (hb hby d10_6) (fun _ _ => ⟨rfl,e0,(by decide : 0 + 1 ≤ _),(by decide : 0 + 4 ≤ _)⟩)
  dsimp only [Pt.U, Pt.locs, Pt.cells, Pt.slots] at X2 l2 y2 z2 st2 hQ2
  replace X2 := own_cast X2 l2 y2 z2
  obtain ⟨yb_2,kb_2,rfl,N2q,K2q,po2_0,po2_1,po2_2,po2_3,px2_g_yb,px2_sz_yb⟩ := hQ2
  have N2 := Fr.app N0 N2q
  have f3 := f0_xs.keep K2q
  have f4 := f3_ya.keep K2q (ninS (Ne.symm ne_xs_ya) nin0)
  have f5 : Sta Z T2.heap "java/lang/String" "COMPACT_STRINGS" "Z" (.int wc) := own_staKeep f4_COMPACT_STRINGS K2q (allS (own_nst f0_xs) all0)
  have K2 := Keep.trans (Keep.refl h0 [xs]) K2q (allS (Or.inl (List.mem_of_getElem? (i := 0) rfl)) all0)
  have Z2 := Nat.le_trans Z0 K2.1
  have g_yb_2 := px2_g_yb
  have sz_yb_2 : h0.size ≤ yb_2 := Nat.le_trans ((Keep.refl h0 [xs])).1 px2_sz_yb
  have ne_xs_yb_2 : xs ≠ yb_2 := Nat.ne_of_lt (Nat.lt_of_lt_of_le f0_xs.lt px2_sz_yb)
  have ne_ya_yb_2 : ya ≠ yb_2 := Nat.ne_of_lt (Nat.lt_of_lt_of_le f3_ya.lt px2_sz_yb)
  refine gv T2 9 #[sR xs,sR ya] [] (fun t k => st2.trans k) ?_
  exact own_retV X2 hx Bd.notSynchronized Bd.returns (hb hby d10_9) rfl ⟨yb_2,kb_2,rfl,N2,K2,po2_0,po2_1,po2_2,po2_3,g_yb_2,sz_yb_2⟩ (by decide) (by decide)
theorem ef_155 (m : MethodId) (ya : Addr) : entryFrame m #[(.ref ya), (.int (5 : Int32))] 2 = mkF m 0 #[.val (.ref ya), .val (.int (5 : Int32))] [] := by first | (simp [entryFrame, mkF, argsToLocals, Value.category]; done) | rfl
def Q155 (Z : State) (ya : Addr) (ka : ClassId) (vs : List Value) (h0 : Heap) (n0 : Nat) (v : Option Value) (h : Heap) (L : List Loc) : Prop := v = some (.int (0 : Int32)) ∧ Fr n0 L ∧ h = h0
set_option maxRecDepth 65536 in
set_option maxHeartbeats 40000000 in
theorem rm155 (l : Launch) (Z : State) (a0 : Array Value) (hw : ∀ d ∈ tables_1, d.before a0 Z = true) (ws : List Jvm.Cond) (ya : Addr) (ka : ClassId) (vs : List Value) (h0 : Heap) (n0 : Nat) (Z0 : n0 ≤ h0.size) (f0_ya : Arv Z h0 ya ka .byte (5 : Int32) vs (.int (0 : Int32))) :
    MetFree l (⟨"java/lang/StringUTF16", "coderFromArrayLen", "([BI)B"⟩ : MethodName) (head1 (Jvm.Cond.code (⟨"java/lang/StringUTF16", "coderFromArrayLen", "([BI)B"⟩ : MethodName) jdk_52_method_15_code 2 (some .byte) :: ws) ({ frames := 0, cells := 0, slots := 0, locals := 0 } : Room)) (fun a U => a = #[(.ref ya), (.int 5)] ∧ Z.Warmed39 U.vm ∧ U.heap = h0) (fun _ _ _ _ _ => True) (fun _ U o U' => ∃ v L, o = .returned v ∧ Q155 Z ya ka vs h0 n0 v U'.heap L ∧ FrameEnd U o U' L 0 0) := by
  refine MetFree.of_bodySF (plainFor_of_name pn_105) hisR ?_
  intro p e s m args below meth c s₁ Bd hml0 hP hK
  obtain ⟨rfl,hZ,hh⟩ := hP
  have hx := Bd.exec
  have hby := Bd.bytes
  have hml : c.maxLocals = 2 := hml0
  have hown : s.vm.findClass "java/lang/StringUTF16" = some m.cls := findClass_of_methodNamed Bd.named
  have hnm := (name_of_methodNamed Bd.named Bd.method).1
  have X0 : Stand p l e ({ frames := 0,cells := 0,slots := 0,locals := 0 } : Room) s m #[(.ref ya),(.int 5)] below meth c s₁ [] 0 0 := Stand.of_body Bd
  have e0 : s₁.heap = h0 := by rw [← hh,Bd.state]; rfl
  have N0 := Fr.nil n0
  refine own_start (Q := fun v h L => Q155 Z ya ka vs h0 n0 v h L) ?_
  refine gv s₁ 0 #[sR ya,sI 5] [] (fun t k => castTop (ef_155 m ya) k) ?_
  refine gv s₁ 1 #[sR ya,sI 5] [(.int 5)] (fun t k => XS.iloadN X0.here hx rfl (hb hby d15_0) rfl k) ?_
  refine gv s₁ 2 #[sR ya,sI 5] [(.ref ya),(.int 5)] (fun t k => XS.aloadN X0.here hx rfl (hb hby d15_1) rfl rfl k) ?_
  obtain ⟨cl1,Ar1,q1,S1,M1,Hs1,G1⟩ := id f0_ya
  refine gv s₁ 3 #[sR ya,sI 5] [(.int 5),(.int 5)] (fun t k => X0.arraylength hx (by rw [e0]; exact Ar1.1) (State.isArrayOf_alike hZ.alike Ar1.2.1) (g := (mkF m 2 #[sR ya,sI 5] [(.ref ya),(.int 5)])) rfl rfl (hb hby d15_2) _ (by rw [len_of S1 M1]; exact k)) ?_
  refine gv s₁ 4 #[sR ya,sI 5] [(.int 0)] (fun t k => XS.isub X0.here hx rfl (hb hby d15_3) rfl k) ?_
  refine gv s₁ 6 #[sR ya,sI 5] [(.int 31),(.int 0)] (fun t k => XS.bipush X0.here hx rfl (hb hby d15_4) k) ?_
  refine gv s₁ 7 #[sR ya,sI 5] [(.int 0)] (fun t k => XS.iushr X0.here hx rfl (hb hby d15_6) rfl k) ?_
  refine gv s₁ 8 #[sR ya,sI 5] [(.int 0)] (fun t k => XS.i2b X0.here hx rfl (hb hby d15_7) rfl k) ?_
  exact own_ret X0 hx Bd.notSynchronized Bd.returns rfl (Or.inl ⟨rfl,by simp,_,rfl⟩) (hb hby d15_8) e0 ⟨rfl,N0,rfl⟩ (by decide) (by decide)
theorem ef_145 (m : MethodId) (ya : Addr) (yb : Addr) : entryFrame m #[(.ref ya), (.int (0 : Int32)), (.ref yb), (.int (0 : Int32)), (.int (5 : Int32))] 7 = mkF m 0 #[.val (.ref ya), .val (.int (0 : Int32)), .val (.ref yb), .val (.int (0 : Int32)), .val (.int (5 : Int32)), .unset, .unset] [] := by first | (simp [entryFrame, mkF, argsToLocals, Value.category]; done) | rfl
def Q145 (Z : State) (ya : Addr) (yb : Addr) (ka : ClassId) (kb : ClassId) (d0 : Int32) (d1 : Int32) (d2 : Int32) (d3 : Int32) (d4 : Int32) (h0 : Heap) (n0 : Nat) (v : Option Value) (h : Heap) (L : List Loc) : Prop := v = some (.int (5 : Int32)) ∧ Fr n0 L ∧ Keep h0 h [yb] ∧ Arv Z h yb kb .byte (5 : Int32) [(.int (nar .byte (d0.toInt8.toInt32))), (.int (nar .byte (d1.toInt8.toInt32))), (.int (nar .byte (d2.toInt8.toInt32))), (.int (nar .byte (d3.toInt8.toInt32))), (.int (nar .byte (d4.toInt8.toInt32)))] (.int (0 : Int32))
set_option maxRecDepth 65536 in
set_option maxHeartbeats 40000000 in
theorem rm145 (l : Launch) (Z : State) (a0 : Array Value) (hw : ∀ d ∈ tables_1, d.before a0 Z = true) (ws : List Jvm.Cond) (ya : Addr) (yb : Addr) (ka : ClassId) (kb : ClassId) (d0 : Int32) (d1 : Int32) (d2 : Int32) (d3 : Int32) (d4 : Int32) (h0 : Heap) (n0 : Nat) (Z0 : n0 ≤ h0.size) (f0_ya : Arv Z h0 ya ka .char (5 : Int32) [(.int d0), (.int d1), (.int d2), (.int d3), (.int d4)] (.int (0 : Int32))) (f1_yb : Arv Z h0 yb kb .byte (5 : Int32) [(.int (0 : Int32)), (.int (0 : Int32)), (.int (0 : Int32)), (.int (0 : Int32)), (.int (0 : Int32))] (.int (0 : Int32))) (ne_ya_yb : ya ≠ yb) (g_yb : n0 ≤ yb) (hd0 : ¬ (255 : Int32) < d0) (hd1 : ¬ (255 : Int32) < d1) (hd2 : ¬ (255 : Int32) < d2) (hd3 : ¬ (255 : Int32) < d3) (hd4 : ¬ (255 : Int32) < d4) :
    MetFree l (⟨"java/lang/StringUTF16", "compress", "([CI[BII)I"⟩ : MethodName) (head1 (Jvm.Cond.code (⟨"java/lang/StringUTF16", "compress", "([CI[BII)I"⟩ : MethodName) jdk_52_method_21_code 7 (some .int) :: ws) ({ frames := 0, cells := 0, slots := 0, locals := 0 } : Room)) (fun a U => a = #[(.ref ya), (.int 0), (.ref yb), (.int 0), (.int 5)] ∧ Z.Warmed39 U.vm ∧ U.heap = h0) (fun _ _ _ _ _ => True) (fun _ U o U' => ∃ v L, o = .returned v ∧ Q145 Z ya yb ka kb d0 d1 d2 d3 d4 h0 n0 v U'.heap L ∧ FrameEnd U o U' L 0 0) := by
  refine MetFree.of_bodySF (plainFor_of_name pn_105) hisR ?_
  intro p e s m args below meth c s₁ Bd hml0 hP hK
  obtain ⟨rfl,hZ,hh⟩ := hP
  have hx := Bd.exec
  have hby := Bd.bytes
  have hml : c.maxLocals = 7 := hml0
  have hown : s.vm.findClass "java/lang/StringUTF16" = some m.cls := findClass_of_methodNamed Bd.named
  have hnm := (name_of_methodNamed Bd.named Bd.method).1
  have X0 : Stand p l e ({ frames := 0,cells := 0,slots := 0,locals := 0 } : Room) s m #[(.ref ya),(.int 0),(.ref yb),(.int 0),(.int 5)] below meth c s₁ [] 0 0 := Stand.of_body Bd
  have e0 : s₁.heap = h0 := by rw [← hh,Bd.state]; rfl
  have N0 := Fr.nil n0
  refine own_start (Q := fun v h L => Q145 Z ya yb ka kb d0 d1 d2 d3 d4 h0 n0 v h L) ?_
  refine gv s₁ 0 #[sR ya,sI 0,sR yb,sI 0,sI 5,sU,sU] [] (fun t k => castTop (ef_145 m ya yb) k) ?_
  refine gv s₁ 1 #[sR ya,sI 0,sR yb,sI 0,sI 5,sU,sU] [(.int 0)] (fun t k => XS.iconst X0.here hx rfl (hb hby d14_0) k) ?_
  refine gv s₁ 3 #[sR ya,sI 0,sR yb,sI 0,sI 5,sI 0,sU] [] (fun t k => XS.istore X0.here hx rfl (hb hby d14_1) rfl (l' := #[sR ya,sI 0,sR yb,sI 0,sI 5,sI 0,sU]) rfl k) ?_
  refine gv s₁ 5 #[sR ya,sI 0,sR yb,sI 0,sI 5,sI 0,sU] [(.int 0)] (fun t k => XS.iload X0.here hx rfl (hb hby d14_3) rfl k) ?_
  refine gv s₁ 7 #[sR ya,sI 0,sR yb,sI 0,sI 5,sI 0,sU] [(.int 5),(.int 0)] (fun t k => XS.iload X0.here hx rfl (hb hby d14_5) rfl k) ?_
  refine gv s₁ 10 #[sR ya,sI 0,sR yb,sI 0,sI 5,sI 0,sU] [] (fun t k => XS.icmpNo X0.here hx rfl (hb hby d14_7) rfl (tlt (by decide : ((0 : Int32) < (5 : Int32)))).2.1 k) ?_
  refine gv s₁ 11 #[sR ya,sI 0,sR yb,sI 0,sI 5,sI 0,sU] [(.ref ya)] (fun t k => XS.aloadN X0.here hx rfl (hb hby d14_10) rfl rfl k) ?_
  refine gv s₁ 12 #[sR ya,sI 0,sR yb,sI 0,sI 5,sI 0,sU] [(.int 0),(.ref ya)] (fun t k => XS.iloadN X0.here hx rfl (hb hby d14_11) rfl k) ?_
  obtain ⟨cl1,Ar1,q1,S1,M1,Hs1,G1⟩ := id f0_ya
  have hin1 : ¬ ((0 : Int32) < 0 ∨ cl1.slots.size ≤ ((0 : Int32)).toNatClampNeg) := inb_of S1 ⟨by decide,by decide⟩
  have hat1 : cl1.slots[((0 : Int32)).toNatClampNeg]? = some (.int d0) := Has.at Hs1 hin1 rfl
  refine gv s₁ 13 #[sR ya,sI 0,sR yb,sI 0,sI 5,sI 0,sU] [(.int d0)] (fun t k => X0.caload hx (j := (0 : Int32)) (v := (.int d0)) (by rw [e0]; exact Ar1.1) (State.isArrayOf_alike hZ.alike Ar1.2.1) Ar1.2.2 hin1 hat1 (g := (mkF m 12 #[sR ya,sI 0,sR yb,sI 0,sI 5,sI 0,sU] [(.int 0),(.ref ya)])) rfl rfl (hb hby d14_12) _ k) ?_
  refine gv s₁ 15 #[sR ya,sI 0,sR yb,sI 0,sI 5,sI 0,sI d0] [] (fun t k => XS.istore X0.here hx rfl (hb hby d14_13) rfl (l' := #[sR ya,sI 0,sR yb,sI 0,sI 5,sI 0,sI d0]) rfl k) ?_
  refine gv s₁ 17 #[sR ya,sI 0,sR yb,sI 0,sI 5,sI 0,sI d0] [(.int d0)] (fun t k => XS.iload X0.here hx rfl (hb hby d14_15) rfl k) ?_
  refine gv s₁ 20 #[sR ya,sI 0,sR yb,sI 0,sI 5,sI 0,sI d0] [(.int 255),(.int d0)] (fun t k => XS.sipush X0.here hx rfl (hb hby d14_17) k) ?_
  refine gv s₁ 26 #[sR ya,sI 0,sR yb,sI 0,sI 5,sI 0,sI d0] [] (fun t k => XS.icmpYes X0.here hx rfl (pc0 := 20) (pc' := 26) rfl (hb hby d14_20) rfl (flt hd0).2.2.2 (by decide) (by decide) k) ?_
  refine gv s₁ 27 #[sR ya,sI 0,sR yb,sI 0,sI 5,sI 0,sI d0] [(.ref yb)] (fun t k => XS.aloadN X0.here hx rfl (hb hby d14_26) rfl rfl k) ?_
  refine gv s₁ 28 #[sR ya,sI 0,sR yb,sI 0,sI 5,sI 0,sI d0] [(.int 0),(.ref yb)] (fun t k => XS.iloadN X0.here hx rfl (hb hby d14_27) rfl k) ?_
  refine gv s₁ 30 #[sR ya,sI 0,sR yb,sI 0,sI 5,sI 0,sI d0] [(.int d0),(.int 0),(.ref yb)] (fun t k => XS.iload X0.here hx rfl (hb hby d14_28) rfl k) ?_
  refine gv s₁ 31 #[sR ya,sI 0,sR yb,sI 0,sI 5,sI 0,sI d0] [(.int (d0.toInt8.toInt32)),(.int 0),(.ref yb)] (fun t k => XS.i2b X0.here hx rfl (hb hby d14_30) rfl k) ?_
  obtain ⟨cl2,Ar2,q2,S2,M2,Hs2,G2⟩ := id f1_yb
  have hin2 : ¬ ((0 : Int32) < 0 ∨ cl2.slots.size ≤ ((0 : Int32)).toNatClampNeg) := inb_of S2 ⟨by decide,by decide⟩
  obtain ⟨T2,h2,X2,e2,W2,st2⟩ := stB X0 hx hZ e0 Ar2 (j := (0 : Int32)) hin2 (g := (mkF m 31 #[sR ya,sI 0,sR yb,sI 0,sI 5,sI 0,sI d0] [(.int (d0.toInt8.toInt32)),(.int 0),(.ref yb)])) rfl rfl (hb hby d14_31)
  have f3 := f0_ya.other W2 ne_ya_yb
  have f4 : Arv Z h2 yb kb .byte (5 : Int32) [(.int (nar .byte (d0.toInt8.toInt32))),(.int 0),(.int 0),(.int 0),(.int 0)] (.int 0) := Arv.set Ar2 q2 S2 M2 Hs2 G2 (fits_nar_byte _) W2 0 rfl (Nat.le_of_ble_eq_true rfl)
  have K2 := Keep.wr (Keep.refl h0 [yb]) W2 (Or.inl (List.mem_of_getElem? (i := 0) rfl))
  have Z2 := Nat.le_trans Z0 K2.1
  have N2 := Fr.snoc X2 N0 g_yb
  refine gv T2 32 #[sR ya,sI 0,sR yb,sI 0,sI 5,sI 0,sI d0] [] (fun t k => st2 _ k) ?_
  refine gv T2 35 #[sR ya,sI 1,sR yb,sI 0,sI 5,sI 0,sI d0] [] (fun t k => XS.iinc X2.here hx rfl (hb hby d14_32) rfl (l' := #[sR ya,sI 1,sR yb,sI 0,sI 5,sI 0,sI d0]) rfl k) ?_
  refine gv T2 38 #[sR ya,sI 1,sR yb,sI 1,sI 5,sI 0,sI d0] [] (fun t k => XS.iinc X2.here hx rfl (hb hby d14_35) rfl (l' := #[sR ya,sI 1,sR yb,sI 1,sI 5,sI 0,sI d0]) rfl k) ?_
  refine gv T2 41 #[sR ya,sI 1,sR yb,sI 1,sI 5,sI 1,sI d0] [] (fun t k => XS.iinc X2.here hx rfl (hb hby d14_38) rfl (l' := #[sR ya,sI 1,sR yb,sI 1,sI 5,sI 1,sI d0]) rfl k) ?_
  refine gv T2 3 #[sR ya,sI 1,sR yb,sI 1,sI 5,sI 1,sI d0] [] (fun t k => XS.goto X2.here hx rfl (pc0 := 41) (pc' := 3) rfl (hb hby d14_41) (by decide) (by decide) k) ?_
  refine gv T2 5 #[sR ya,sI 1,sR yb,sI 1,sI 5,sI 1,sI d0] [(.int 1)] (fun t k => XS.iload X2.here hx rfl (hb hby d14_3) rfl k) ?_
  refine gv T2 7 #[sR ya,sI 1,sR yb,sI 1,sI 5,sI 1,sI d0] [(.int 5),(.int 1)] (fun t k => XS.iload X2.here hx rfl (hb hby d14_5) rfl k) ?_
  refine gv T2 10 #[sR ya,sI 1,sR yb,sI 1,sI 5,sI 1,sI d0] [] (fun t k => XS.icmpNo X2.here hx rfl (hb hby d14_7) rfl (tlt (by decide : ((1 : Int32) < (5 : Int32)))).2.1 k) ?_
  refine gv T2 11 #[sR ya,sI 1,sR yb,sI 1,sI 5,sI 1,sI d0] [(.ref ya)] (fun t k => XS.aloadN X2.here hx rfl (hb hby d14_10) rfl rfl k) ?_
  refine gv T2 12 #[sR ya,sI 1,sR yb,sI 1,sI 5,sI 1,sI d0] [(.int 1),(.ref ya)] (fun t k => XS.iloadN X2.here hx rfl (hb hby d14_11) rfl k) ?_
  obtain ⟨cl5,Ar5,q5,S5,M5,Hs5,G5⟩ := id f3
  have hin5 : ¬ ((1 : Int32) < 0 ∨ cl5.slots.size ≤ ((1 : Int32)).toNatClampNeg) := inb_of S5 ⟨by decide,by decide⟩
  have hat5 : cl5.slots[((1 : Int32)).toNatClampNeg]? = some (.int d1) := Has.at Hs5 hin5 rfl
  refine gv T2 13 #[sR ya,sI 1,sR yb,sI 1,sI 5,sI 1,sI d0] [(.int d1)] (fun t k => X2.caload hx (j := (1 : Int32)) (v := (.int d1)) (by rw [e2]; exact Ar5.1) (State.isArrayOf_alike hZ.alike Ar5.2.1) Ar5.2.2 hin5 hat5 (g := (mkF m 12 #[sR ya,sI 1,sR yb,sI 1,sI 5,sI 1,sI d0] [(.int 1),(.ref ya)])) rfl rfl (hb hby d14_12) _ k) ?_
  refine gv T2 15 #[sR ya,sI 1,sR yb,sI 1,sI 5,sI 1,sI d1] [] (fun t k => XS.istore X2.here hx rfl (hb hby d14_13) rfl (l' := #[sR ya,sI 1,sR yb,sI 1,sI 5,sI 1,sI d1]) rfl k) ?_
  refine gv T2 17 #[sR ya,sI 1,sR yb,sI 1,sI 5,sI 1,sI d1] [(.int d1)] (fun t k => XS.iload X2.here hx rfl (hb hby d14_15) rfl k) ?_
  refine gv T2 20 #[sR ya,sI 1,sR yb,sI 1,sI 5,sI 1,sI d1] [(.int 255),(.int d1)] (fun t k => XS.sipush X2.here hx rfl (hb hby d14_17) k) ?_
  refine gv T2 26 #[sR ya,sI 1,sR yb,sI 1,sI 5,sI 1,sI d1] [] (fun t k => XS.icmpYes X2.here hx rfl (pc0 := 20) (pc' := 26) rfl (hb hby d14_20) rfl (flt hd1).2.2.2 (by decide) (by decide) k) ?_
  refine gv T2 27 #[sR ya,sI 1,sR yb,sI 1,sI 5,sI 1,sI d1] [(.ref yb)] (fun t k => XS.aloadN X2.here hx rfl (hb hby d14_26) rfl rfl k) ?_
  refine gv T2 28 #[sR ya,sI 1,sR yb,sI 1,sI 5,sI 1,sI d1] [(.int 1),(.ref yb)] (fun t k => XS.iloadN X2.here hx rfl (hb hby d14_27) rfl k) ?_
  refine gv T2 30 #[sR ya,sI 1,sR yb,sI 1,sI 5,sI 1,sI d1] [(.int d1),(.int 1),(.ref yb)] (fun t k => XS.iload X2.here hx rfl (hb hby d14_28) rfl k) ?_
  refine gv T2 31 #[sR ya,sI 1,sR yb,sI 1,sI 5,sI 1,sI d1] [(.int (d1.toInt8.toInt32)),(.int 1),(.ref yb)] (fun t k => XS.i2b X2.here hx rfl (hb hby d14_30) rfl k) ?_
  obtain ⟨cl6,Ar6,q6,S6,M6,Hs6,G6⟩ := id f4
  have hin6 : ¬ ((1 : Int32) < 0 ∨ cl6.slots.size ≤ ((1 : Int32)).toNatClampNeg) := inb_of S6 ⟨by decide,by decide⟩
  obtain ⟨T6,h6,X6,e6,W6,st6⟩ := stB X2 hx hZ e2 Ar6 (j := (1 : Int32)) hin6 (g := (mkF m 31 #[sR ya,sI 1,sR yb,sI 1,sI 5,sI 1,sI d1] [(.int (d1.toInt8.toInt32)),(.int 1),(.ref yb)])) rfl rfl (hb hby d14_31)
  have f7 := f3.other W6 ne_ya_yb
  have f8 : Arv Z h6 yb kb .byte (5 : Int32) [(.int (nar .byte (d0.toInt8.toInt32))),(.int (nar .byte (d1.toInt8.toInt32))),(.int 0),(.int 0),(.int 0)] (.int 0) := Arv.set Ar6 q6 S6 M6 Hs6 G6 (fits_nar_byte _) W6 1 rfl (Nat.le_of_ble_eq_true rfl)
  have K6 := Keep.wr K2 W6 (Or.inl (List.mem_of_getElem? (i := 0) rfl))
  have Z6 := Nat.le_trans Z0 K6.1
  have N6 := Fr.snoc X6 N2 g_yb
  refine gv T6 32 #[sR ya,sI 1,sR yb,sI 1,sI 5,sI 1,sI d1] [] (fun t k => st6 _ k) ?_
  refine gv T6 35 #[sR ya,sI 2,sR yb,sI 1,sI 5,sI 1,sI d1] [] (fun t k => XS.iinc X6.here hx rfl (hb hby d14_32) rfl (l' := #[sR ya,sI 2,sR yb,sI 1,sI 5,sI 1,sI d1]) rfl k) ?_
  refine gv T6 38 #[sR ya,sI 2,sR yb,sI 2,sI 5,sI 1,sI d1] [] (fun t k => XS.iinc X6.here hx rfl (hb hby d14_35) rfl (l' := #[sR ya,sI 2,sR yb,sI 2,sI 5,sI 1,sI d1]) rfl k) ?_
  refine gv T6 41 #[sR ya,sI 2,sR yb,sI 2,sI 5,sI 2,sI d1] [] (fun t k => XS.iinc X6.here hx rfl (hb hby d14_38) rfl (l' := #[sR ya,sI 2,sR yb,sI 2,sI 5,sI 2,sI d1]) rfl k) ?_
  refine gv T6 3 #[sR ya,sI 2,sR yb,sI 2,sI 5,sI 2,sI d1] [] (fun t k => XS.goto X6.here hx rfl (pc0 := 41) (pc' := 3) rfl (hb hby d14_41) (by decide) (by decide) k) ?_
  refine gv T6 5 #[sR ya,sI 2,sR yb,sI 2,sI 5,sI 2,sI d1] [(.int 2)] (fun t k => XS.iload X6.here hx rfl (hb hby d14_3) rfl k) ?_
  refine gv T6 7 #[sR ya,sI 2,sR yb,sI 2,sI 5,sI 2,sI d1] [(.int 5),(.int 2)] (fun t k => XS.iload X6.here hx rfl (hb hby d14_5) rfl k) ?_
  refine gv T6 10 #[sR ya,sI 2,sR yb,sI 2,sI 5,sI 2,sI d1] [] (fun t k => XS.icmpNo X6.here hx rfl (hb hby d14_7) rfl (tlt (by decide : ((2 : Int32) < (5 : Int32)))).2.1 k) ?_
  refine gv T6 11 #[sR ya,sI 2,sR yb,sI 2,sI 5,sI 2,sI d1] [(.ref ya)] (fun t k => XS.aloadN X6.here hx rfl (hb hby d14_10) rfl rfl k) ?_
  refine gv T6 12 #[sR ya,sI 2,sR yb,sI 2,sI 5,sI 2,sI d1] [(.int 2),(.ref ya)] (fun t k => XS.iloadN X6.here hx rfl (hb hby d14_11) rfl k) ?_
  obtain ⟨cl9,Ar9,q9,S9,M9,Hs9,G9⟩ := id f7
  have hin9 : ¬ ((2 : Int32) < 0 ∨ cl9.slots.size ≤ ((2 : Int32)).toNatClampNeg) := inb_of S9 ⟨by decide,by decide⟩
  have hat9 : cl9.slots[((2 : Int32)).toNatClampNeg]? = some (.int d2) := Has.at Hs9 hin9 rfl
  refine gv T6 13 #[sR ya,sI 2,sR yb,sI 2,sI 5,sI 2,sI d1] [(.int d2)] (fun t k => X6.caload hx (j := (2 : Int32)) (v := (.int d2)) (by rw [e6]; exact Ar9.1) (State.isArrayOf_alike hZ.alike Ar9.2.1) Ar9.2.2 hin9 hat9 (g := (mkF m 12 #[sR ya,sI 2,sR yb,sI 2,sI 5,sI 2,sI d1] [(.int 2),(.ref ya)])) rfl rfl (hb hby d14_12) _ k) ?_
  refine gv T6 15 #[sR ya,sI 2,sR yb,sI 2,sI 5,sI 2,sI d2] [] (fun t k => XS.istore X6.here hx rfl (hb hby d14_13) rfl (l' := #[sR ya,sI 2,sR yb,sI 2,sI 5,sI 2,sI d2]) rfl k) ?_
  refine gv T6 17 #[sR ya,sI 2,sR yb,sI 2,sI 5,sI 2,sI d2] [(.int d2)] (fun t k => XS.iload X6.here hx rfl (hb hby d14_15) rfl k) ?_
  refine gv T6 20 #[sR ya,sI 2,sR yb,sI 2,sI 5,sI 2,sI d2] [(.int 255),(.int d2)] (fun t k => XS.sipush X6.here hx rfl (hb hby d14_17) k) ?_
  refine gv T6 26 #[sR ya,sI 2,sR yb,sI 2,sI 5,sI 2,sI d2] [] (fun t k => XS.icmpYes X6.here hx rfl (pc0 := 20) (pc' := 26) rfl (hb hby d14_20) rfl (flt hd2).2.2.2 (by decide) (by decide) k) ?_
  refine gv T6 27 #[sR ya,sI 2,sR yb,sI 2,sI 5,sI 2,sI d2] [(.ref yb)] (fun t k => XS.aloadN X6.here hx rfl (hb hby d14_26) rfl rfl k) ?_
  refine gv T6 28 #[sR ya,sI 2,sR yb,sI 2,sI 5,sI 2,sI d2] [(.int 2),(.ref yb)] (fun t k => XS.iloadN X6.here hx rfl (hb hby d14_27) rfl k) ?_
  refine gv T6 30 #[sR ya,sI 2,sR yb,sI 2,sI 5,sI 2,sI d2] [(.int d2),(.int 2),(.ref yb)] (fun t k => XS.iload X6.here hx rfl (hb hby d14_28) rfl k) ?_
  refine gv T6 31 #[sR ya,sI 2,sR yb,sI 2,sI 5,sI 2,sI d2] [(.int (d2.toInt8.toInt32)),(.int 2),(.ref yb)] (fun t k => XS.i2b X6.here hx rfl (hb hby d14_30) rfl k) ?_
  obtain ⟨cl10,Ar10,q10,S10,M10,Hs10,G10⟩ := id f8
  have hin10 : ¬ ((2 : Int32) < 0 ∨ cl10.slots.size ≤ ((2 : Int32)).toNatClampNeg) := inb_of S10 ⟨by decide,by decide⟩
  obtain ⟨T10,h10,X10,e10,W10,st10⟩ := stB X6 hx hZ e6 Ar10 (j := (2 : Int32)) hin10 (g := (mkF m 31 #[sR ya,sI 2,sR yb,sI 2,sI 5,sI 2,sI d2] [(.int (d2.toInt8.toInt32)),(.int 2),(.ref yb)])) rfl rfl (hb hby d14_31)
  have f11 := f7.other W10 ne_ya_yb
  have f12 : Arv Z h10 yb kb .byte (5 : Int32) [(.int (nar .byte (d0.toInt8.toInt32))),(.int (nar .byte (d1.toInt8.toInt32))),(.int (nar .byte (d2.toInt8.toInt32))),(.int 0),(.int 0)] (.int 0) := Arv.set Ar10 q10 S10 M10 Hs10 G10 (fits_nar_byte _) W10 2 rfl (Nat.le_of_ble_eq_true rfl)
  have K10 := Keep.wr K6 W10 (Or.inl (List.mem_of_getElem? (i := 0) rfl))
  have Z10 := Nat.le_trans Z0 K10.1
  have N10 := Fr.snoc X10 N6 g_yb
  refine gv T10 32 #[sR ya,sI 2,sR yb,sI 2,sI 5,sI 2,sI d2] [] (fun t k => st10 _ k) ?_
  refine gv T10 35 #[sR ya,sI 3,sR yb,sI 2,sI 5,sI 2,sI d2] [] (fun t k => XS.iinc X10.here hx rfl (hb hby d14_32) rfl (l' := #[sR ya,sI 3,sR yb,sI 2,sI 5,sI 2,sI d2]) rfl k) ?_
  refine gv T10 38 #[sR ya,sI 3,sR yb,sI 3,sI 5,sI 2,sI d2] [] (fun t k => XS.iinc X10.here hx rfl (hb hby d14_35) rfl (l' := #[sR ya,sI 3,sR yb,sI 3,sI 5,sI 2,sI d2]) rfl k) ?_
  refine gv T10 41 #[sR ya,sI 3,sR yb,sI 3,sI 5,sI 3,sI d2] [] (fun t k => XS.iinc X10.here hx rfl (hb hby d14_38) rfl (l' := #[sR ya,sI 3,sR yb,sI 3,sI 5,sI 3,sI d2]) rfl k) ?_
  refine gv T10 3 #[sR ya,sI 3,sR yb,sI 3,sI 5,sI 3,sI d2] [] (fun t k => XS.goto X10.here hx rfl (pc0 := 41) (pc' := 3) rfl (hb hby d14_41) (by decide) (by decide) k) ?_
  refine gv T10 5 #[sR ya,sI 3,sR yb,sI 3,sI 5,sI 3,sI d2] [(.int 3)] (fun t k => XS.iload X10.here hx rfl (hb hby d14_3) rfl k) ?_
  refine gv T10 7 #[sR ya,sI 3,sR yb,sI 3,sI 5,sI 3,sI d2] [(.int 5),(.int 3)] (fun t k => XS.iload X10.here hx rfl (hb hby d14_5) rfl k) ?_
  refine gv T10 10 #[sR ya,sI 3,sR yb,sI 3,sI 5,sI 3,sI d2] [] (fun t k => XS.icmpNo X10.here hx rfl (hb hby d14_7) rfl (tlt (by decide : ((3 : Int32) < (5 : Int32)))).2.1 k) ?_
  refine gv T10 11 #[sR ya,sI 3,sR yb,sI 3,sI 5,sI 3,sI d2] [(.ref ya)] (fun t k => XS.aloadN X10.here hx rfl (hb hby d14_10) rfl rfl k) ?_
  refine gv T10 12 #[sR ya,sI 3,sR yb,sI 3,sI 5,sI 3,sI d2] [(.int 3),(.ref ya)] (fun t k => XS.iloadN X10.here hx rfl (hb hby d14_11) rfl k) ?_
  obtain ⟨cl13,Ar13,q13,S13,M13,Hs13,G13⟩ := id f11
  have hin13 : ¬ ((3 : Int32) < 0 ∨ cl13.slots.size ≤ ((3 : Int32)).toNatClampNeg) := inb_of S13 ⟨by decide,by decide⟩
  have hat13 : cl13.slots[((3 : Int32)).toNatClampNeg]? = some (.int d3) := Has.at Hs13 hin13 rfl
  refine gv T10 13 #[sR ya,sI 3,sR yb,sI 3,sI 5,sI 3,sI d2] [(.int d3)] (fun t k => X10.caload hx (j := (3 : Int32)) (v := (.int d3)) (by rw [e10]; exact Ar13.1) (State.isArrayOf_alike hZ.alike Ar13.2.1) Ar13.2.2 hin13 hat13 (g := (mkF m 12 #[sR ya,sI 3,sR yb,sI 3,sI 5,sI 3,sI d2] [(.int 3),(.ref ya)])) rfl rfl (hb hby d14_12) _ k) ?_
  refine gv T10 15 #[sR ya,sI 3,sR yb,sI 3,sI 5,sI 3,sI d3] [] (fun t k => XS.istore X10.here hx rfl (hb hby d14_13) rfl (l' := #[sR ya,sI 3,sR yb,sI 3,sI 5,sI 3,sI d3]) rfl k) ?_
  refine gv T10 17 #[sR ya,sI 3,sR yb,sI 3,sI 5,sI 3,sI d3] [(.int d3)] (fun t k => XS.iload X10.here hx rfl (hb hby d14_15) rfl k) ?_
  refine gv T10 20 #[sR ya,sI 3,sR yb,sI 3,sI 5,sI 3,sI d3] [(.int 255),(.int d3)] (fun t k => XS.sipush X10.here hx rfl (hb hby d14_17) k) ?_
  refine gv T10 26 #[sR ya,sI 3,sR yb,sI 3,sI 5,sI 3,sI d3] [] (fun t k => XS.icmpYes X10.here hx rfl (pc0 := 20) (pc' := 26) rfl (hb hby d14_20) rfl (flt hd3).2.2.2 (by decide) (by decide) k) ?_
  refine gv T10 27 #[sR ya,sI 3,sR yb,sI 3,sI 5,sI 3,sI d3] [(.ref yb)] (fun t k => XS.aloadN X10.here hx rfl (hb hby d14_26) rfl rfl k) ?_
  refine gv T10 28 #[sR ya,sI 3,sR yb,sI 3,sI 5,sI 3,sI d3] [(.int 3),(.ref yb)] (fun t k => XS.iloadN X10.here hx rfl (hb hby d14_27) rfl k) ?_
  refine gv T10 30 #[sR ya,sI 3,sR yb,sI 3,sI 5,sI 3,sI d3] [(.int d3),(.int 3),(.ref yb)] (fun t k => XS.iload X10.here hx rfl (hb hby d14_28) rfl k) ?_
  refine gv T10 31 #[sR ya,sI 3,sR yb,sI 3,sI 5,sI 3,sI d3] [(.int (d3.toInt8.toInt32)),(.int 3),(.ref yb)] (fun t k => XS.i2b X10.here hx rfl (hb hby d14_30) rfl k) ?_
  obtain ⟨cl14,Ar14,q14,S14,M14,Hs14,G14⟩ := id f12
  have hin14 : ¬ ((3 : Int32) < 0 ∨ cl14.slots.size ≤ ((3 : Int32)).toNatClampNeg) := inb_of S14 ⟨by decide,by decide⟩
  obtain ⟨T14,h14,X14,e14,W14,st14⟩ := stB X10 hx hZ e10 Ar14 (j := (3 : Int32)) hin14 (g := (mkF m 31 #[sR ya,sI 3,sR yb,sI 3,sI 5,sI 3,sI d3] [(.int (d3.toInt8.toInt32)),(.int 3),(.ref yb)])) rfl rfl (hb hby d14_31)
  have f15 := f11.other W14 ne_ya_yb
  have f16 : Arv Z h14 yb kb .byte (5 : Int32) [(.int (nar .byte (d0.toInt8.toInt32))),(.int (nar .byte (d1.toInt8.toInt32))),(.int (nar .byte (d2.toInt8.toInt32))),(.int (nar .byte (d3.toInt8.toInt32))),(.int 0)] (.int 0) := Arv.set Ar14 q14 S14 M14 Hs14 G14 (fits_nar_byte _) W14 3 rfl (Nat.le_of_ble_eq_true rfl)
  have K14 := Keep.wr K10 W14 (Or.inl (List.mem_of_getElem? (i := 0) rfl))
  have Z14 := Nat.le_trans Z0 K14.1
  have N14 := Fr.snoc X14 N10 g_yb
  refine gv T14 32 #[sR ya,sI 3,sR yb,sI 3,sI 5,sI 3,sI d3] [] (fun t k => st14 _ k) ?_
  refine gv T14 35 #[sR ya,sI 4,sR yb,sI 3,sI 5,sI 3,sI d3] [] (fun t k => XS.iinc X14.here hx rfl (hb hby d14_32) rfl (l' := #[sR ya,sI 4,sR yb,sI 3,sI 5,sI 3,sI d3]) rfl k) ?_
  refine gv T14 38 #[sR ya,sI 4,sR yb,sI 4,sI 5,sI 3,sI d3] [] (fun t k => XS.iinc X14.here hx rfl (hb hby d14_35) rfl (l' := #[sR ya,sI 4,sR yb,sI 4,sI 5,sI 3,sI d3]) rfl k) ?_
  refine gv T14 41 #[sR ya,sI 4,sR yb,sI 4,sI 5,sI 4,sI d3] [] (fun t k => XS.iinc X14.here hx rfl (hb hby d14_38) rfl (l' := #[sR ya,sI 4,sR yb,sI 4,sI 5,sI 4,sI d3]) rfl k) ?_
  refine gv T14 3 #[sR ya,sI 4,sR yb,sI 4,sI 5,sI 4,sI d3] [] (fun t k => XS.goto X14.here hx rfl (pc0 := 41) (pc' := 3) rfl (hb hby d14_41) (by decide) (by decide) k) ?_
  refine gv T14 5 #[sR ya,sI 4,sR yb,sI 4,sI 5,sI 4,sI d3] [(.int 4)] (fun t k => XS.iload X14.here hx rfl (hb hby d14_3) rfl k) ?_
  refine gv T14 7 #[sR ya,sI 4,sR yb,sI 4,sI 5,sI 4,sI d3] [(.int 5),(.int 4)] (fun t k => XS.iload X14.here hx rfl (hb hby d14_5) rfl k) ?_
  refine gv T14 10 #[sR ya,sI 4,sR yb,sI 4,sI 5,sI 4,sI d3] [] (fun t k => XS.icmpNo X14.here hx rfl (hb hby d14_7) rfl (tlt (by decide : ((4 : Int32) < (5 : Int32)))).2.1 k) ?_
  refine gv T14 11 #[sR ya,sI 4,sR yb,sI 4,sI 5,sI 4,sI d3] [(.ref ya)] (fun t k => XS.aloadN X14.here hx rfl (hb hby d14_10) rfl rfl k) ?_
  refine gv T14 12 #[sR ya,sI 4,sR yb,sI 4,sI 5,sI 4,sI d3] [(.int 4),(.ref ya)] (fun t k => XS.iloadN X14.here hx rfl (hb hby d14_11) rfl k) ?_
  obtain ⟨cl17,Ar17,q17,S17,M17,Hs17,G17⟩ := id f15
  have hin17 : ¬ ((4 : Int32) < 0 ∨ cl17.slots.size ≤ ((4 : Int32)).toNatClampNeg) := inb_of S17 ⟨by decide,by decide⟩
  have hat17 : cl17.slots[((4 : Int32)).toNatClampNeg]? = some (.int d4) := Has.at Hs17 hin17 rfl
  refine gv T14 13 #[sR ya,sI 4,sR yb,sI 4,sI 5,sI 4,sI d3] [(.int d4)] (fun t k => X14.caload hx (j := (4 : Int32)) (v := (.int d4)) (by rw [e14]; exact Ar17.1) (State.isArrayOf_alike hZ.alike Ar17.2.1) Ar17.2.2 hin17 hat17 (g := (mkF m 12 #[sR ya,sI 4,sR yb,sI 4,sI 5,sI 4,sI d3] [(.int 4),(.ref ya)])) rfl rfl (hb hby d14_12) _ k) ?_
  refine gv T14 15 #[sR ya,sI 4,sR yb,sI 4,sI 5,sI 4,sI d4] [] (fun t k => XS.istore X14.here hx rfl (hb hby d14_13) rfl (l' := #[sR ya,sI 4,sR yb,sI 4,sI 5,sI 4,sI d4]) rfl k) ?_
  refine gv T14 17 #[sR ya,sI 4,sR yb,sI 4,sI 5,sI 4,sI d4] [(.int d4)] (fun t k => XS.iload X14.here hx rfl (hb hby d14_15) rfl k) ?_
  refine gv T14 20 #[sR ya,sI 4,sR yb,sI 4,sI 5,sI 4,sI d4] [(.int 255),(.int d4)] (fun t k => XS.sipush X14.here hx rfl (hb hby d14_17) k) ?_
  refine gv T14 26 #[sR ya,sI 4,sR yb,sI 4,sI 5,sI 4,sI d4] [] (fun t k => XS.icmpYes X14.here hx rfl (pc0 := 20) (pc' := 26) rfl (hb hby d14_20) rfl (flt hd4).2.2.2 (by decide) (by decide) k) ?_
  refine gv T14 27 #[sR ya,sI 4,sR yb,sI 4,sI 5,sI 4,sI d4] [(.ref yb)] (fun t k => XS.aloadN X14.here hx rfl (hb hby d14_26) rfl rfl k) ?_
  refine gv T14 28 #[sR ya,sI 4,sR yb,sI 4,sI 5,sI 4,sI d4] [(.int 4),(.ref yb)] (fun t k => XS.iloadN X14.here hx rfl (hb hby d14_27) rfl k) ?_
  refine gv T14 30 #[sR ya,sI 4,sR yb,sI 4,sI 5,sI 4,sI d4] [(.int d4),(.int 4),(.ref yb)] (fun t k => XS.iload X14.here hx rfl (hb hby d14_28) rfl k) ?_
  refine gv T14 31 #[sR ya,sI 4,sR yb,sI 4,sI 5,sI 4,sI d4] [(.int (d4.toInt8.toInt32)),(.int 4),(.ref yb)] (fun t k => XS.i2b X14.here hx rfl (hb hby d14_30) rfl k) ?_
  obtain ⟨cl18,Ar18,q18,S18,M18,Hs18,G18⟩ := id f16
  have hin18 : ¬ ((4 : Int32) < 0 ∨ cl18.slots.size ≤ ((4 : Int32)).toNatClampNeg) := inb_of S18 ⟨by decide,by decide⟩
  obtain ⟨T18,h18,X18,e18,W18,st18⟩ := stB X14 hx hZ e14 Ar18 (j := (4 : Int32)) hin18 (g := (mkF m 31 #[sR ya,sI 4,sR yb,sI 4,sI 5,sI 4,sI d4] [(.int (d4.toInt8.toInt32)),(.int 4),(.ref yb)])) rfl rfl (hb hby d14_31)
  have f19 := f15.other W18 ne_ya_yb
  have f20 : Arv Z h18 yb kb .byte (5 : Int32) [(.int (nar .byte (d0.toInt8.toInt32))),(.int (nar .byte (d1.toInt8.toInt32))),(.int (nar .byte (d2.toInt8.toInt32))),(.int (nar .byte (d3.toInt8.toInt32))),(.int (nar .byte (d4.toInt8.toInt32)))] (.int 0) := Arv.set Ar18 q18 S18 M18 Hs18 G18 (fits_nar_byte _) W18 4 rfl (Nat.le_of_ble_eq_true rfl)
  have K18 := Keep.wr K14 W18 (Or.inl (List.mem_of_getElem? (i := 0) rfl))
  have Z18 := Nat.le_trans Z0 K18.1
  have N18 := Fr.snoc X18 N14 g_yb
  refine gv T18 32 #[sR ya,sI 4,sR yb,sI 4,sI 5,sI 4,sI d4] [] (fun t k => st18 _ k) ?_
  refine gv T18 35 #[sR ya,sI 5,sR yb,sI 4,sI 5,sI 4,sI d4] [] (fun t k => XS.iinc X18.here hx rfl (hb hby d14_32) rfl (l' := #[sR ya,sI 5,sR yb,sI 4,sI 5,sI 4,sI d4]) rfl k) ?_
  refine gv T18 38 #[sR ya,sI 5,sR yb,sI 5,sI 5,sI 4,sI d4] [] (fun t k => XS.iinc X18.here hx rfl (hb hby d14_35) rfl (l' := #[sR ya,sI 5,sR yb,sI 5,sI 5,sI 4,sI d4]) rfl k) ?_
  refine gv T18 41 #[sR ya,sI 5,sR yb,sI 5,sI 5,sI 5,sI d4] [] (fun t k => XS.iinc X18.here hx rfl (hb hby d14_38) rfl (l' := #[sR ya,sI 5,sR yb,sI 5,sI 5,sI 5,sI d4]) rfl k) ?_
  refine gv T18 3 #[sR ya,sI 5,sR yb,sI 5,sI 5,sI 5,sI d4] [] (fun t k => XS.goto X18.here hx rfl (pc0 := 41) (pc' := 3) rfl (hb hby d14_41) (by decide) (by decide) k) ?_
  refine gv T18 5 #[sR ya,sI 5,sR yb,sI 5,sI 5,sI 5,sI d4] [(.int 5)] (fun t k => XS.iload X18.here hx rfl (hb hby d14_3) rfl k) ?_
  refine gv T18 7 #[sR ya,sI 5,sR yb,sI 5,sI 5,sI 5,sI d4] [(.int 5),(.int 5)] (fun t k => XS.iload X18.here hx rfl (hb hby d14_5) rfl k) ?_
  refine gv T18 44 #[sR ya,sI 5,sR yb,sI 5,sI 5,sI 5,sI d4] [] (fun t k => XS.icmpYes X18.here hx rfl (pc0 := 7) (pc' := 44) rfl (hb hby d14_7) rfl (flt (by decide : ¬ ((5 : Int32) < (5 : Int32)))).2.1 (by decide) (by decide) k) ?_
  refine gv T18 46 #[sR ya,sI 5,sR yb,sI 5,sI 5,sI 5,sI d4] [(.int 5)] (fun t k => XS.iload X18.here hx rfl (hb hby d14_44) rfl k) ?_
  exact own_ret X18 hx Bd.notSynchronized Bd.returns rfl (Or.inl ⟨rfl,by simp,_,rfl⟩) (hb hby d14_46) e18 ⟨rfl,N18,K18,f20⟩ (by decide) (by decide)
theorem ef_135 (m : MethodId) (ya : Addr) : entryFrame m #[(.ref ya), (.int (0 : Int32)), (.int (5 : Int32))] 6 = mkF m 0 #[.val (.ref ya), .val (.int (0 : Int32)), .val (.int (5 : Int32)), .unset, .unset, .unset] [] := by first | (simp [entryFrame, mkF, argsToLocals, Value.category]; done) | rfl
def Q135 (Z : State) (ya : Addr) (ka : ClassId) (d0 : Int32) (d1 : Int32) (d2 : Int32) (d3 : Int32) (d4 : Int32) (h0 : Heap) (n0 : Nat) (v : Option Value) (h : Heap) (L : List Loc) : Prop := ∃ (yb : Addr) (kb : ClassId), v = some (.ref yb) ∧ Fr n0 L ∧ Keep h0 h [] ∧ Arv Z h yb kb .byte (5 : Int32) [(.int (nar .byte (d0.toInt8.toInt32))), (.int (nar .byte (d1.toInt8.toInt32))), (.int (nar .byte (d2.toInt8.toInt32))), (.int (nar .byte (d3.toInt8.toInt32))), (.int (nar .byte (d4.toInt8.toInt32)))] (.int (0 : Int32)) ∧ n0 ≤ yb ∧ h0.size ≤ yb
set_option maxRecDepth 65536 in
set_option maxHeartbeats 40000000 in
theorem rm135 (l : Launch) (Z : State) (a0 : Array Value) (hw : ∀ d ∈ tables_1, d.before a0 Z = true) (ws : List Jvm.Cond) (ya : Addr) (ka : ClassId) (d0 : Int32) (d1 : Int32) (d2 : Int32) (d3 : Int32) (d4 : Int32) (h0 : Heap) (n0 : Nat) (Z0 : n0 ≤ h0.size) (f0_ya : Arv Z h0 ya ka .char (5 : Int32) [(.int d0), (.int d1), (.int d2), (.int d3), (.int d4)] (.int (0 : Int32))) (hd0 : ¬ (255 : Int32) < d0) (hd1 : ¬ (255 : Int32) < d1) (hd2 : ¬ (255 : Int32) < d2) (hd3 : ¬ (255 : Int32) < d3) (hd4 : ¬ (255 : Int32) < d4) :
    MetFree l (⟨"java/lang/StringUTF16", "compress", "([CII)[B"⟩ : MethodName) (head1 (Jvm.Cond.code (⟨"java/lang/StringUTF16", "compress", "([CII)[B"⟩ : MethodName) jdk_52_method_16_code 6 (some (.array .byte)) :: ws) ({ frames := 1, cells := 1, slots := 5, locals := 18 } : Room)) (fun a U => a = #[(.ref ya), (.int 0), (.int 5)] ∧ Z.Warmed39 U.vm ∧ U.heap = h0) (fun _ _ _ _ _ => True) (fun _ U o U' => ∃ v L, o = .returned v ∧ Q135 Z ya ka d0 d1 d2 d3 d4 h0 n0 v U'.heap L ∧ FrameEnd U o U' L 1 5) := by
  refine MetFree.of_bodySF (plainFor_of_name pn_105) hisR ?_
  intro p e s m args below meth c s₁ Bd hml0 hP hK
  obtain ⟨rfl,hZ,hh⟩ := hP
  have hx := Bd.exec
  have hby := Bd.bytes
  have hml : c.maxLocals = 6 := hml0
  have hown : s.vm.findClass "java/lang/StringUTF16" = some m.cls := findClass_of_methodNamed Bd.named
  have hnm := (name_of_methodNamed Bd.named Bd.method).1
  have X0 : Stand p l e ({ frames := 1,cells := 1,slots := 5,locals := 18 } : Room) s m #[(.ref ya),(.int 0),(.int 5)] below meth c s₁ [] 0 0 := Stand.of_body Bd
  have e0 : s₁.heap = h0 := by rw [← hh,Bd.state]; rfl
  have N0 := Fr.nil n0
  refine own_start (Q := fun v h L => Q135 Z ya ka d0 d1 d2 d3 d4 h0 n0 v h L) ?_
  refine gv s₁ 0 #[sR ya,sI 0,sI 5,sU,sU,sU] [] (fun t k => castTop (ef_135 m ya) k) ?_
  refine gv s₁ 1 #[sR ya,sI 0,sI 5,sU,sU,sU] [(.int 5)] (fun t k => XS.iloadN X0.here hx rfl (hb hby d13_0) rfl k) ?_
  obtain ⟨T1,h1,k1,X1,e1,E1,A1,st1⟩ := newP X0 hx hZ (w_ hw 10 rfl) e0 (g := (mkF m 1 #[sR ya,sI 0,sI 5,sU,sU,sU] [(.int 5)])) rfl (hb hby d13_1) rfl (by decide) (cap := 5) (by decide) (by decide) (by decide) (by decide)
  obtain ⟨b1,g1⟩ : ∃ z,z = h0.size := ⟨_,rfl⟩
  rw [← g1] at A1 st1
  have f2 := f0_ya.ext E1
  have K1 := Keep.ext (Keep.refl h0 []) E1
  have Z1 := Nat.le_trans Z0 K1.1
  have g_b1 : n0 ≤ b1 := Nat.le_trans Z0 (Nat.le_of_eq g1.symm)
  have sz_b1 : h0.size ≤ b1 := Nat.le_trans ((Keep.refl h0 [])).1 (Nat.le_of_eq g1.symm)
  have ne_ya_b1 : ya ≠ b1 := Nat.ne_of_lt (Nat.lt_of_lt_of_le f0_ya.lt (Nat.le_of_eq g1.symm))
  have f3 : Arv Z h1 b1 k1 .byte (5 : Int32) [(.int 0),(.int 0),(.int 0),(.int 0),(.int 0)] (.int 0) := (Arv.new A1 (by decide)).pad (pad_rep [] (.int 0) 5)
  refine gv T1 3 #[sR ya,sI 0,sI 5,sU,sU,sU] [(.ref b1)] (fun t k => st1 _ k) ?_
  refine gv T1 4 #[sR ya,sI 0,sI 5,sR b1,sU,sU] [] (fun t k => XS.astoreN X1.here hx rfl (hb hby d13_3) rfl rfl (l' := #[sR ya,sI 0,sI 5,sR b1,sU,sU]) rfl k) ?_
  refine gv T1 5 #[sR ya,sI 0,sI 5,sR b1,sU,sU] [(.ref ya)] (fun t k => XS.aloadN X1.here hx rfl (hb hby d13_4) rfl rfl k) ?_
  refine gv T1 6 #[sR ya,sI 0,sI 5,sR b1,sU,sU] [(.int 0),(.ref ya)] (fun t k => XS.iloadN X1.here hx rfl (hb hby d13_5) rfl k) ?_
  refine gv T1 7 #[sR ya,sI 0,sI 5,sR b1,sU,sU] [(.ref b1),(.int 0),(.ref ya)] (fun t k => XS.aloadN X1.here hx rfl (hb hby d13_6) rfl rfl k) ?_
  refine gv T1 8 #[sR ya,sI 0,sI 5,sR b1,sU,sU] [(.int 0),(.ref b1),(.int 0),(.ref ya)] (fun t k => XS.iconst X1.here hx rfl (hb hby d13_7) k) ?_
  refine gv T1 9 #[sR ya,sI 0,sI 5,sR b1,sU,sU] [(.int 5),(.int 0),(.ref b1),(.int 0),(.ref ya)] (fun t k => XS.iloadN X1.here hx rfl (hb hby d13_8) rfl k) ?_
  obtain ⟨_,_,⟨T4,L4,k4,n4⟩,-,X4,⟨Lc4,hQ4,l4,y4,z4⟩,st4⟩ := Jvm.LawKit.callS X1 hx (y := (⟨"java/lang/StringUTF16","compress","([CI[BII)I"⟩ : MethodName)) hown (mvT hZ (w_ hw 66 rfl)) (mvT hZ (w_ hw 67 rfl)) (mvT hZ (w_ hw 64 rfl)) (mvT hZ (w_ hw 68 rfl)) (by decide) (backOf (W := 0) (rm145 l Z a0 hw [] ya b1 ka k1 d0 d1 d2 d3 d4 h1 n0 Z1 f2 f3 ne_ya_b1 g_b1 hd0 hd1 hd2 hd3 hd4) hZ (w_ hw 68 rfl) (w_ hw 64 rfl) (by decide) (by decide)) (g := (mkF m 9 #[sR ya,sI 0,sI 5,sR b1,sU,sU] [(.int 5),(.int 0),(.ref b1),(.int 0),(.ref ya)])) rfl (by rw [hml]; rfl) (argsL := [(.ref ya),(.int 0),(.ref b1),(.int 0),(.int 5)]) (rest := []) (lenOf pd_8 rfl) rfl (own_rm rfl) (hb hby d13_9) (fun _ _ => ⟨rfl,e1,(by decide : 1 + 0 ≤ _),(by decide : 5 + 0 ≤ _)⟩)
  dsimp only [Pt.U, Pt.locs, Pt.cells, Pt.slots] at X4 l4 y4 z4 st4 hQ4
  replace X4 := own_cast X4 l4 y4 z4
  obtain ⟨rfl,N4q,K4q,po4_0⟩ := hQ4
  have N4 := Fr.app N0 N4q
  have f5 := f2.keep K4q (ninS ne_ya_b1 nin0)
  have K4 := Keep.trans K1 K4q (allS (Or.inr sz_b1) all0)
  have Z4 := Nat.le_trans Z0 K4.1
  refine gv T4 12 #[sR ya,sI 0,sI 5,sR b1,sU,sU] [(.int 5)] (fun t k => st4 _ k) ?_
  refine gv T4 14 #[sR ya,sI 0,sI 5,sR b1,sI 5,sU] [] (fun t k => XS.istore X4.here hx rfl (hb hby d13_12) rfl (l' := #[sR ya,sI 0,sI 5,sR b1,sI 5,sU]) rfl k) ?_
  refine gv T4 16 #[sR ya,sI 0,sI 5,sR b1,sI 5,sU] [(.int 5)] (fun t k => XS.iload X4.here hx rfl (hb hby d13_14) rfl k) ?_
  refine gv T4 17 #[sR ya,sI 0,sI 5,sR b1,sI 5,sU] [(.int 5),(.int 5)] (fun t k => XS.iloadN X4.here hx rfl (hb hby d13_16) rfl k) ?_
  refine gv T4 57 #[sR ya,sI 0,sI 5,sR b1,sI 5,sU] [] (fun t k => XS.icmpYes X4.here hx rfl (pc0 := 17) (pc' := 57) rfl (hb hby d13_17) rfl (teq rfl).1 (by decide) (by decide) k) ?_
  refine gv T4 58 #[sR ya,sI 0,sI 5,sR b1,sI 5,sU] [(.ref b1)] (fun t k => XS.aloadN X4.here hx rfl (hb hby d13_57) rfl rfl k) ?_
  exact own_ret X4 hx Bd.notSynchronized Bd.returns rfl (Or.inr (Or.inr (Or.inr (Or.inr ⟨rfl,rfl,rfl⟩)))) (hb hby d13_58) rfl ⟨b1,k1,rfl,N4,K4,po4_0,g_b1,sz_b1⟩ (by decide) (by decide)
theorem ef_115 (m : MethodId) (xs : Addr) (ya : Addr) : entryFrame m #[(.ref xs), (.ref ya), (.int (0 : Int32)), (.int (5 : Int32)), .null] 6 = mkF m 0 #[.val (.ref xs), .val (.ref ya), .val (.int (0 : Int32)), .val (.int (5 : Int32)), .val .null, .unset] [] := by first | (simp [entryFrame, mkF, argsToLocals, Value.category]; done) | rfl
def Q115 (Z : State) (xs : Addr) (ya : Addr) (ka : ClassId) (wc : Int32) (u0 : Value) (u1 : Value) (d0 : Int32) (d1 : Int32) (d2 : Int32) (d3 : Int32) (d4 : Int32) (h0 : Heap) (n0 : Nat) (v : Option Value) (h : Heap) (L : List Loc) : Prop := ∃ (yb : Addr) (kb : ClassId), v = none ∧ Fr n0 L ∧ Keep h0 h [xs] ∧ Exa Z h xs "java/lang/String" ∧ Fld Z h xs "java/lang/String" "coder" "B" (.int (0 : Int32)) ∧ Fld Z h xs "java/lang/String" "value" "[B" (.ref yb) ∧ Arv Z h yb kb .byte (5 : Int32) [(.int (nar .byte (d0.toInt8.toInt32))), (.int (nar .byte (d1.toInt8.toInt32))), (.int (nar .byte (d2.toInt8.toInt32))), (.int (nar .byte (d3.toInt8.toInt32))), (.int (nar .byte (d4.toInt8.toInt32)))] (.int (0 : Int32)) ∧ n0 ≤ yb ∧ h0.size ≤ yb
set_option maxRecDepth 65536 in
set_option maxHeartbeats 40000000 in
theorem rm115 (l : Launch) (Z : State) (a0 : Array Value) (hw : ∀ d ∈ tables_1, d.before a0 Z = true) (ws : List Jvm.Cond) (xs : Addr) (ya : Addr) (ka : ClassId) (wc : Int32) (u0 : Value) (u1 : Value) (d0 : Int32) (d1 : Int32) (d2 : Int32) (d3 : Int32) (d4 : Int32) (h0 : Heap) (n0 : Nat) (Z0 : n0 ≤ h0.size) (f0_xs : Exa Z h0 xs "java/lang/String") (f1_xs_coder : Fld Z h0 xs "java/lang/String" "coder" "B" u0) (f2_xs_value : Fld Z h0 xs "java/lang/String" "value" "[B" u1) (f3_ya : Arv Z h0 ya ka .char (5 : Int32) [(.int d0), (.int d1), (.int d2), (.int d3), (.int d4)] (.int (0 : Int32))) (f4_COMPACT_STRINGS : Sta Z h0 "java/lang/String" "COMPACT_STRINGS" "Z" (.int wc)) (ne_xs_ya : xs ≠ ya) (g_xs : n0 ≤ xs) (hd0 : ¬ (255 : Int32) < d0) (hd1 : ¬ (255 : Int32) < d1) (hd2 : ¬ (255 : Int32) < d2) (hd3 : ¬ (255 : Int32) < d3) (hd4 : ¬ (255 : Int32) < d4) (hwc : ¬ wc = (0 : Int32)) :
    MetFree l (⟨"java/lang/String", "<init>", "([CIILjava/lang/Void;)V"⟩ : MethodName) (head1 (Jvm.Cond.code (⟨"java/lang/String", "<init>", "([CIILjava/lang/Void;)V"⟩ : MethodName) jdk_42_method_149_code 6 none :: ws) ({ frames := 2, cells := 1, slots := 5, locals := 35 } : Room)) (fun a U => a = #[(.ref xs), (.ref ya), (.int 0), (.int 5), .null] ∧ Z.Warmed39 U.vm ∧ U.heap = h0) (fun _ _ _ _ _ => True) (fun _ U o U' => ∃ v L, o = .returned v ∧ Q115 Z xs ya ka wc u0 u1 d0 d1 d2 d3 d4 h0 n0 v U'.heap L ∧ FrameEnd U o U' L 1 5) := by
  refine MetFree.of_bodySF (plainFor_of_name pn_6) hisR ?_
  intro p e s m args below meth c s₁ Bd hml0 hP hK
  obtain ⟨rfl,hZ,hh⟩ := hP
  have hx := Bd.exec
  have hby := Bd.bytes
  have hml : c.maxLocals = 6 := hml0
  have hown : s.vm.findClass "java/lang/String" = some m.cls := findClass_of_methodNamed Bd.named
  have hnm := (name_of_methodNamed Bd.named Bd.method).1
  have X0 : Stand p l e ({ frames := 2,cells := 1,slots := 5,locals := 35 } : Room) s m #[(.ref xs),(.ref ya),(.int 0),(.int 5),.null] below meth c s₁ [] 0 0 := Stand.of_body Bd
  have e0 : s₁.heap = h0 := by rw [← hh,Bd.state]; rfl
  have N0 := Fr.nil n0
  refine own_start (Q := fun v h L => Q115 Z xs ya ka wc u0 u1 d0 d1 d2 d3 d4 h0 n0 v h L) ?_
  refine gv s₁ 0 #[sR xs,sR ya,sI 0,sI 5,.val .null,sU] [] (fun t k => castTop (ef_115 m xs ya) k) ?_
  refine gv s₁ 1 #[sR xs,sR ya,sI 0,sI 5,.val .null,sU] [(.ref xs)] (fun t k => XS.aloadN X0.here hx rfl (hb hby d11_0) rfl rfl k) ?_
  obtain ⟨T1,X1,e1,st1⟩ := initO X0 hx hZ hown (w_ hw 59 rfl) (w_ hw 60 rfl) (w_ hw 61 rfl) e0 (g := (mkF m 1 #[sR xs,sR ya,sI 0,sI 5,.val .null,sU] [(.ref xs)])) rfl (by rw [hml]; rfl) rfl (hb hby d11_1) (by decide) (W := 0) (own_rm rfl) (by decide)
  refine gv T1 4 #[sR xs,sR ya,sI 0,sI 5,.val .null,sU] [] (fun t k => st1 _ k) ?_
  refine gv T1 5 #[sR xs,sR ya,sI 0,sI 5,.val .null,sU] [(.int 5)] (fun t k => XS.iloadN X1.here hx rfl (hb hby d11_4) rfl k) ?_
  refine gv T1 27 #[sR xs,sR ya,sI 0,sI 5,.val .null,sU] [] (fun t k => XS.ifYes X1.here hx rfl (pc0 := 5) (pc' := 27) rfl (hb hby d11_5) rfl ((if0 _ _).trans (feq (by decide : ¬ ((5 : Int32) = (0 : Int32)))).2) (by decide) (by decide) k) ?_
  obtain ⟨T2,X2,e2,st2⟩ := getS2 X1 hx hZ hown (host := "") (Or.inl (w_ hw 26 rfl)) Via.refl e1 f4_COMPACT_STRINGS (g := (mkF m 27 #[sR xs,sR ya,sI 0,sI 5,.val .null,sU] [])) rfl (hb hby d11_27)
  refine gv T2 30 #[sR xs,sR ya,sI 0,sI 5,.val .null,sU] [(.int wc)] (fun t k => st2 _ k) ?_
  refine gv T2 33 #[sR xs,sR ya,sI 0,sI 5,.val .null,sU] [] (fun t k => XS.ifNo X2.here hx rfl (hb hby d11_30) rfl ((if0 _ _).trans (feq hwc).1) k) ?_
  refine gv T2 34 #[sR xs,sR ya,sI 0,sI 5,.val .null,sU] [(.ref ya)] (fun t k => XS.aloadN X2.here hx rfl (hb hby d11_33) rfl rfl k) ?_
  refine gv T2 35 #[sR xs,sR ya,sI 0,sI 5,.val .null,sU] [(.int 0),(.ref ya)] (fun t k => XS.iloadN X2.here hx rfl (hb hby d11_34) rfl k) ?_
  refine gv T2 36 #[sR xs,sR ya,sI 0,sI 5,.val .null,sU] [(.int 5),(.int 0),(.ref ya)] (fun t k => XS.iloadN X2.here hx rfl (hb hby d11_35) rfl k) ?_
  obtain ⟨_,_,⟨T3,L3,k3,n3⟩,-,X3,⟨Lc3,hQ3,l3,y3,z3⟩,st3⟩ := Jvm.LawKit.callS X2 hx (y := (⟨"java/lang/StringUTF16","compress","([CII)[B"⟩ : MethodName)) hown (mvT hZ (w_ hw 62 rfl)) (mvT hZ (w_ hw 63 rfl)) (mvT hZ (w_ hw 64 rfl)) (mvT hZ (w_ hw 65 rfl)) (by decide) (backOf (W := 0) (rm135 l Z a0 hw [] ya ka d0 d1 d2 d3 d4 h0 n0 Z0 f3_ya hd0 hd1 hd2 hd3 hd4) hZ (w_ hw 65 rfl) (w_ hw 64 rfl) (by decide) (by decide)) (g := (mkF m 36 #[sR xs,sR ya,sI 0,sI 5,.val .null,sU] [(.int 5),(.int 0),(.ref ya)])) rfl (by rw [hml]; rfl) (argsL := [(.ref ya),(.int 0),(.int 5)]) (rest := []) (lenOf pd_9 rfl) rfl (own_rm rfl) (hb hby d11_36) (fun _ _ => ⟨rfl,e2,(by decide : 0 + 1 ≤ _),(by decide : 0 + 5 ≤ _)⟩)
  dsimp only [Pt.U, Pt.locs, Pt.cells, Pt.slots] at X3 l3 y3 z3 st3 hQ3
  replace X3 := own_cast X3 l3 y3 z3
  obtain ⟨yb_3,kb_3,rfl,N3q,K3q,po3_0,px3_g_yb,px3_sz_yb⟩ := hQ3
  have N3 := Fr.app N0 N3q
  have f4 := f0_xs.keep K3q
  have f5 := f1_xs_coder.keep K3q nin0
  have f6 := f2_xs_value.keep K3q nin0
  have f7 := f3_ya.keep K3q nin0
  have f8 : Sta Z T3.heap "java/lang/String" "COMPACT_STRINGS" "Z" (.int wc) := own_staKeep f4_COMPACT_STRINGS K3q all0
  have K3 := Keep.trans (Keep.refl h0 [xs]) K3q all0
  have Z3 := Nat.le_trans Z0 K3.1
  have g_yb_3 := px3_g_yb
  have sz_yb_3 : h0.size ≤ yb_3 := Nat.le_trans ((Keep.refl h0 [xs])).1 px3_sz_yb
  have ne_xs_yb_3 : xs ≠ yb_3 := Nat.ne_of_lt (Nat.lt_of_lt_of_le f0_xs.lt px3_sz_yb)
  have ne_ya_yb_3 : ya ≠ yb_3 := Nat.ne_of_lt (Nat.lt_of_lt_of_le f3_ya.lt px3_sz_yb)
  refine gv T3 39 #[sR xs,sR ya,sI 0,sI 5,.val .null,sU] [(.ref yb_3)] (fun t k => st3 _ k) ?_
  refine gv T3 41 #[sR xs,sR ya,sI 0,sI 5,.val .null,sR yb_3] [] (fun t k => XS.astore X3.here hx rfl (hb hby d11_39) rfl rfl (l' := #[sR xs,sR ya,sI 0,sI 5,.val .null,sR yb_3]) rfl k) ?_
  refine gv T3 42 #[sR xs,sR ya,sI 0,sI 5,.val .null,sR yb_3] [(.ref xs)] (fun t k => XS.aloadN X3.here hx rfl (hb hby d11_41) rfl rfl k) ?_
  refine gv T3 44 #[sR xs,sR ya,sI 0,sI 5,.val .null,sR yb_3] [(.ref yb_3),(.ref xs)] (fun t k => XS.aload X3.here hx rfl (hb hby d11_42) rfl rfl k) ?_
  refine gv T3 45 #[sR xs,sR ya,sI 0,sI 5,.val .null,sR yb_3] [(.int 5),(.ref yb_3),(.ref xs)] (fun t k => XS.iloadN X3.here hx rfl (hb hby d11_44) rfl k) ?_
  obtain ⟨_,_,⟨T9,L9,k9,n9⟩,-,X9,⟨Lc9,hQ9,l9,y9,z9⟩,st9⟩ := Jvm.LawKit.callS X3 hx (y := (⟨"java/lang/StringUTF16","coderFromArrayLen","([BI)B"⟩ : MethodName)) hown (mvT hZ (w_ hw 69 rfl)) (mvT hZ (w_ hw 70 rfl)) (mvT hZ (w_ hw 64 rfl)) (mvT hZ (w_ hw 71 rfl)) (by decide) (backOf (W := 1) (rm155 l Z a0 hw [] yb_3 kb_3 ([(.int (nar .byte (d0.toInt8.toInt32))),(.int (nar .byte (d1.toInt8.toInt32))),(.int (nar .byte (d2.toInt8.toInt32))),(.int (nar .byte (d3.toInt8.toInt32))),(.int (nar .byte (d4.toInt8.toInt32)))] : List Value) T3.heap n0 Z3 po3_0) hZ (w_ hw 71 rfl) (w_ hw 64 rfl) (by decide) (by decide)) (g := (mkF m 45 #[sR xs,sR ya,sI 0,sI 5,.val .null,sR yb_3] [(.int 5),(.ref yb_3),(.ref xs)])) rfl (by rw [hml]; rfl) (argsL := [(.ref yb_3),(.int 5)]) (rest := [(.ref xs)]) (lenOf pd_10 rfl) rfl (own_rm rfl) (hb hby d11_45) (fun _ _ => ⟨rfl,rfl,(by decide : 1 + 0 ≤ _),(by decide : 5 + 0 ≤ _)⟩)
  dsimp only [Pt.U, Pt.locs, Pt.cells, Pt.slots] at X9 l9 y9 z9 st9 hQ9
  replace X9 := own_cast X9 l9 y9 z9
  obtain ⟨rfl,N9q,eq9⟩ := hQ9
  have N9 := Fr.app N3 N9q
  refine gv T9 48 #[sR xs,sR ya,sI 0,sI 5,.val .null,sR yb_3] [(.int 0),(.ref xs)] (fun t k => st9 _ k) ?_
  obtain ⟨T10,h10,X10,e10,W10,st10⟩ := putFN X9 hx hZ hown (w_ hw 27 rfl) Via.refl eq9 f5 f4 (Or.inr ⟨(w_ hw 12 rfl),rfl,hnm⟩) (w_ hw 9 rfl) (ty := .byte) (v' := (.int 0)) (by decide) rfl rfl (g := (mkF m 48 #[sR xs,sR ya,sI 0,sI 5,.val .null,sR yb_3] [(.int 0),(.ref xs)])) rfl rfl (hb hby d11_48)
  have f11 := f4.wr W10
  have f12 := f6.other W10 (Or.inr (slot_ne (Or.inr (w_ hw 11 rfl)) (Or.inr (w_ hw 12 rfl)) (by decide) (t := (.array .byte)) (t' := .byte) (by decide) (by decide)))
  have f13 := f7.other W10 (Ne.symm ne_xs_ya)
  have f14 := f8.wr W10
  have f15 := po3_0.other W10 (Ne.symm ne_xs_yb_3)
  have f16 : Fld Z h10 xs "java/lang/String" "coder" "B" (.int 0) := f5.same W10
  have K10 := Keep.wr K3 W10 (Or.inl (List.mem_of_getElem? (i := 0) rfl))
  have Z10 := Nat.le_trans Z0 K10.1
  have N10 := Fr.snoc X10 N9 g_xs
  refine gv T10 51 #[sR xs,sR ya,sI 0,sI 5,.val .null,sR yb_3] [] (fun t k => st10 _ k) ?_
  refine gv T10 52 #[sR xs,sR ya,sI 0,sI 5,.val .null,sR yb_3] [(.ref xs)] (fun t k => XS.aloadN X10.here hx rfl (hb hby d11_51) rfl rfl k) ?_
  refine gv T10 54 #[sR xs,sR ya,sI 0,sI 5,.val .null,sR yb_3] [(.ref yb_3),(.ref xs)] (fun t k => XS.aload X10.here hx rfl (hb hby d11_52) rfl rfl k) ?_
  obtain ⟨T17,h17,X17,e17,W17,st17⟩ := putF X10 hx hZ hown (host := "") (Or.inl (w_ hw 20 rfl)) Via.refl e10 f12 f11 (Or.inr ⟨(w_ hw 11 rfl),rfl,hnm⟩) (w_ hw 9 rfl) (ty := (.array .byte)) (by decide) rfl rfl (g := (mkF m 54 #[sR xs,sR ya,sI 0,sI 5,.val .null,sR yb_3] [(.ref yb_3),(.ref xs)])) rfl rfl (hb hby d11_54)
  have f18 := f11.wr W17
  have f19 := f13.other W17 (Ne.symm ne_xs_ya)
  have f20 := f14.wr W17
  have f21 := f15.other W17 (Ne.symm ne_xs_yb_3)
  have f22 := f16.other W17 (Or.inr (slot_ne (Or.inr (w_ hw 12 rfl)) (Or.inr (w_ hw 11 rfl)) (by decide) (t := .byte) (t' := (.array .byte)) (by decide) (by decide)))
  have f23 : Fld Z h17 xs "java/lang/String" "value" "[B" (.ref yb_3) := f12.same W17
  have K17 := Keep.wr K10 W17 (Or.inl (List.mem_of_getElem? (i := 0) rfl))
  have Z17 := Nat.le_trans Z0 K17.1
  have N17 := Fr.snoc X17 N10 g_xs
  refine gv T17 57 #[sR xs,sR ya,sI 0,sI 5,.val .null,sR yb_3] [] (fun t k => st17 _ k) ?_
  exact own_retV X17 hx Bd.notSynchronized Bd.returns (hb hby d11_57) e17 ⟨yb_3,kb_3,rfl,N17,K17,f18,f22,f23,f21,g_yb_3,sz_yb_3⟩ (by decide) (by decide)
theorem ef_105 (m : MethodId) (xs : Addr) (ya : Addr) : entryFrame m #[(.ref xs), (.ref ya)] 2 = mkF m 0 #[.val (.ref xs), .val (.ref ya)] [] := by first | (simp [entryFrame, mkF, argsToLocals, Value.category]; done) | rfl
def Q105 (Z : State) (xs : Addr) (ya : Addr) (ka : ClassId) (wc : Int32) (u0 : Value) (u1 : Value) (d0 : Int32) (d1 : Int32) (d2 : Int32) (d3 : Int32) (d4 : Int32) (h0 : Heap) (n0 : Nat) (v : Option Value) (h : Heap) (L : List Loc) : Prop := ∃ (yb : Addr) (kb : ClassId), v = none ∧ Fr n0 L ∧ Keep h0 h [xs] ∧ Exa Z h xs "java/lang/String" ∧ Fld Z h xs "java/lang/String" "coder" "B" (.int (0 : Int32)) ∧ Fld Z h xs "java/lang/String" "value" "[B" (.ref yb) ∧ Arv Z h yb kb .byte (5 : Int32) [(.int (nar .byte (d0.toInt8.toInt32))), (.int (nar .byte (d1.toInt8.toInt32))), (.int (nar .byte (d2.toInt8.toInt32))), (.int (nar .byte (d3.toInt8.toInt32))), (.int (nar .byte (d4.toInt8.toInt32)))] (.int (0 : Int32)) ∧ n0 ≤ yb ∧ h0.size ≤ yb
set_option maxRecDepth 65536 in
set_option maxHeartbeats 40000000 in
theorem rm105 (l : Launch) (Z : State) (a0 : Array Value) (hw : ∀ d ∈ tables_1, d.before a0 Z = true) (ws : List Jvm.Cond) (xs : Addr) (ya : Addr) (ka : ClassId) (wc : Int32) (u0 : Value) (u1 : Value) (d0 : Int32) (d1 : Int32) (d2 : Int32) (d3 : Int32) (d4 : Int32) (h0 : Heap) (n0 : Nat) (Z0 : n0 ≤ h0.size) (f0_xs : Exa Z h0 xs "java/lang/String") (f1_xs_coder : Fld Z h0 xs "java/lang/String" "coder" "B" u0) (f2_xs_value : Fld Z h0 xs "java/lang/String" "value" "[B" u1) (f3_ya : Arv Z h0 ya ka .char (5 : Int32) [(.int d0), (.int d1), (.int d2), (.int d3), (.int d4)] (.int (0 : Int32))) (f4_COMPACT_STRINGS : Sta Z h0 "java/lang/String" "COMPACT_STRINGS" "Z" (.int wc)) (ne_xs_ya : xs ≠ ya) (g_xs : n0 ≤ xs) (hd0 : ¬ (255 : Int32) < d0) (hd1 : ¬ (255 : Int32) < d1) (hd2 : ¬ (255 : Int32) < d2) (hd3 : ¬ (255 : Int32) < d3) (hd4 : ¬ (255 : Int32) < d4) (hwc : ¬ wc = (0 : Int32)) :
    MetFree l (⟨"java/lang/String", "<init>", "([C)V"⟩ : MethodName) (head1 (Jvm.Cond.code (⟨"java/lang/String", "<init>", "([C)V"⟩ : MethodName) jdk_42_method_3_code 2 none :: ws) ({ frames := 3, cells := 1, slots := 5, locals := 52 } : Room)) (fun a U => a = #[(.ref xs), (.ref ya)] ∧ Z.Warmed39 U.vm ∧ U.heap = h0) (fun _ _ _ _ _ => True) (fun _ U o U' => ∃ v L, o = .returned v ∧ Q105 Z xs ya ka wc u0 u1 d0 d1 d2 d3 d4 h0 n0 v U'.heap L ∧ FrameEnd U o U' L 1 5) := by
  refine MetFree.of_bodySF (plainFor_of_name pn_6) hisR ?_
  intro p e s m args below meth c s₁ Bd hml0 hP hK
  obtain ⟨rfl,hZ,hh⟩ := hP
  have hx := Bd.exec
  have hby := Bd.bytes
  have hml : c.maxLocals = 2 := hml0
  have hown : s.vm.findClass "java/lang/String" = some m.cls := findClass_of_methodNamed Bd.named
  have hnm := (name_of_methodNamed Bd.named Bd.method).1
  have X0 : Stand p l e ({ frames := 3,cells := 1,slots := 5,locals := 52 } : Room) s m #[(.ref xs),(.ref ya)] below meth c s₁ [] 0 0 := Stand.of_body Bd
  have e0 : s₁.heap = h0 := by rw [← hh,Bd.state]; rfl
  have N0 := Fr.nil n0
  refine own_start (Q := fun v h L => Q105 Z xs ya ka wc u0 u1 d0 d1 d2 d3 d4 h0 n0 v h L) ?_
  refine gv s₁ 0 #[sR xs,sR ya] [] (fun t k => castTop (ef_105 m xs ya) k) ?_
  refine gv s₁ 1 #[sR xs,sR ya] [(.ref xs)] (fun t k => XS.aloadN X0.here hx rfl (hb hby d10_0) rfl rfl k) ?_
  refine gv s₁ 2 #[sR xs,sR ya] [(.ref ya),(.ref xs)] (fun t k => XS.aloadN X0.here hx rfl (hb hby d10_1) rfl rfl k) ?_
  refine gv s₁ 3 #[sR xs,sR ya] [(.int 0),(.ref ya),(.ref xs)] (fun t k => XS.iconst X0.here hx rfl (hb hby d10_2) k) ?_
  refine gv s₁ 4 #[sR xs,sR ya] [(.ref ya),(.int 0),(.ref ya),(.ref xs)] (fun t k => XS.aloadN X0.here hx rfl (hb hby d10_3) rfl rfl k) ?_
  obtain ⟨cl1,Ar1,q1,S1,M1,Hs1,G1⟩ := id f3_ya
  refine gv s₁ 5 #[sR xs,sR ya] [(.int 5),(.int 0),(.ref ya),(.ref xs)] (fun t k => X0.arraylength hx (by rw [e0]; exact Ar1.1) (State.isArrayOf_alike hZ.alike Ar1.2.1) (g := (mkF m 4 #[sR xs,sR ya] [(.ref ya),(.int 0),(.ref ya),(.ref xs)])) rfl rfl (hb hby d10_4) _ (by rw [len_of S1 M1]; exact k)) ?_
  refine gv s₁ 6 #[sR xs,sR ya] [.null,(.int 5),(.int 0),(.ref ya),(.ref xs)] (fun t k => XS.aconstNull X0.here hx rfl (hb hby d10_5) k) ?_
  obtain ⟨_,_,⟨T2,L2,k2,n2⟩,-,X2,⟨Lc2,hQ2,l2,y2,z2⟩,st2⟩ := X0.specialBack hx (y := (⟨"java/lang/String","<init>","([CIILjava/lang/Void;)V"⟩ : MethodName)) rfl hown (mvT hZ (w_ hw 55 rfl)) (mvT hZ (w_ hw 56 rfl)) (mvT hZ (w_ hw 58 rfl)) (by decide) (backOf (W := 0) (rm115 l Z a0 hw [] xs ya ka wc u0 u1 d0 d1 d2 d3 d4 h0 n0 Z0 f0_xs f1_xs_coder f2_xs_value f3_ya f4_COMPACT_STRINGS ne_xs_ya g_xs hd0 hd1 hd2 hd3 hd4 hwc) hZ (w_ hw 58 rfl) (w_ hw 8 rfl) (by decide) (by decide)) (g := (mkF m 6 #[sR xs,sR ya] [.null,(.int 5),(.int 0),(.ref ya),(.ref xs)])) rfl (by rw [hml]; rfl) (Steps.refl _) (a := xs) (argsL := [(.ref ya),(.int 0),(.int 5),.null]) (rest := []) (lenOf pd_11 rfl) rfl (own_rm rfl) (hb hby d10_6) (fun _ _ => ⟨rfl,e0,(by decide : 0 + 1 ≤ _),(by decide : 0 + 5 ≤ _)⟩)
  dsimp only [Pt.U, Pt.locs, Pt.cells, Pt.slots] at X2 l2 y2 z2 st2 hQ2
  replace X2 := own_cast X2 l2 y2 z2
  obtain ⟨yb_2,kb_2,rfl,N2q,K2q,po2_0,po2_1,po2_2,po2_3,px2_g_yb,px2_sz_yb⟩ := hQ2
  have N2 := Fr.app N0 N2q
  have f3 := f0_xs.keep K2q
  have f4 := f3_ya.keep K2q (ninS (Ne.symm ne_xs_ya) nin0)
  have f5 : Sta Z T2.heap "java/lang/String" "COMPACT_STRINGS" "Z" (.int wc) := own_staKeep f4_COMPACT_STRINGS K2q (allS (own_nst f0_xs) all0)
  have K2 := Keep.trans (Keep.refl h0 [xs]) K2q (allS (Or.inl (List.mem_of_getElem? (i := 0) rfl)) all0)
  have Z2 := Nat.le_trans Z0 K2.1
  have g_yb_2 := px2_g_yb
  have sz_yb_2 : h0.size ≤ yb_2 := Nat.le_trans ((Keep.refl h0 [xs])).1 px2_sz_yb
  have ne_xs_yb_2 : xs ≠ yb_2 := Nat.ne_of_lt (Nat.lt_of_lt_of_le f0_xs.lt px2_sz_yb)
  have ne_ya_yb_2 : ya ≠ yb_2 := Nat.ne_of_lt (Nat.lt_of_lt_of_le f3_ya.lt px2_sz_yb)
  refine gv T2 9 #[sR xs,sR ya] [] (fun t k => st2.trans k) ?_
  exact own_retV X2 hx Bd.notSynchronized Bd.returns (hb hby d10_9) rfl ⟨yb_2,kb_2,rfl,N2,K2,po2_0,po2_1,po2_2,po2_3,g_yb_2,sz_yb_2⟩ (by decide) (by decide)
theorem ef_156 (m : MethodId) (ya : Addr) : entryFrame m #[(.ref ya), (.int (6 : Int32))] 2 = mkF m 0 #[.val (.ref ya), .val (.int (6 : Int32))] [] := by first | (simp [entryFrame, mkF, argsToLocals, Value.category]; done) | rfl
def Q156 (Z : State) (ya : Addr) (ka : ClassId) (vs : List Value) (h0 : Heap) (n0 : Nat) (v : Option Value) (h : Heap) (L : List Loc) : Prop := v = some (.int (0 : Int32)) ∧ Fr n0 L ∧ h = h0
set_option maxRecDepth 65536 in
set_option maxHeartbeats 40000000 in
theorem rm156 (l : Launch) (Z : State) (a0 : Array Value) (hw : ∀ d ∈ tables_1, d.before a0 Z = true) (ws : List Jvm.Cond) (ya : Addr) (ka : ClassId) (vs : List Value) (h0 : Heap) (n0 : Nat) (Z0 : n0 ≤ h0.size) (f0_ya : Arv Z h0 ya ka .byte (6 : Int32) vs (.int (0 : Int32))) :
    MetFree l (⟨"java/lang/StringUTF16", "coderFromArrayLen", "([BI)B"⟩ : MethodName) (head1 (Jvm.Cond.code (⟨"java/lang/StringUTF16", "coderFromArrayLen", "([BI)B"⟩ : MethodName) jdk_52_method_15_code 2 (some .byte) :: ws) ({ frames := 0, cells := 0, slots := 0, locals := 0 } : Room)) (fun a U => a = #[(.ref ya), (.int 6)] ∧ Z.Warmed39 U.vm ∧ U.heap = h0) (fun _ _ _ _ _ => True) (fun _ U o U' => ∃ v L, o = .returned v ∧ Q156 Z ya ka vs h0 n0 v U'.heap L ∧ FrameEnd U o U' L 0 0) := by
  refine MetFree.of_bodySF (plainFor_of_name pn_105) hisR ?_
  intro p e s m args below meth c s₁ Bd hml0 hP hK
  obtain ⟨rfl,hZ,hh⟩ := hP
  have hx := Bd.exec
  have hby := Bd.bytes
  have hml : c.maxLocals = 2 := hml0
  have hown : s.vm.findClass "java/lang/StringUTF16" = some m.cls := findClass_of_methodNamed Bd.named
  have hnm := (name_of_methodNamed Bd.named Bd.method).1
  have X0 : Stand p l e ({ frames := 0,cells := 0,slots := 0,locals := 0 } : Room) s m #[(.ref ya),(.int 6)] below meth c s₁ [] 0 0 := Stand.of_body Bd
  have e0 : s₁.heap = h0 := by rw [← hh,Bd.state]; rfl
  have N0 := Fr.nil n0
  refine own_start (Q := fun v h L => Q156 Z ya ka vs h0 n0 v h L) ?_
  refine gv s₁ 0 #[sR ya,sI 6] [] (fun t k => castTop (ef_156 m ya) k) ?_
  refine gv s₁ 1 #[sR ya,sI 6] [(.int 6)] (fun t k => XS.iloadN X0.here hx rfl (hb hby d15_0) rfl k) ?_
  refine gv s₁ 2 #[sR ya,sI 6] [(.ref ya),(.int 6)] (fun t k => XS.aloadN X0.here hx rfl (hb hby d15_1) rfl rfl k) ?_
  obtain ⟨cl1,Ar1,q1,S1,M1,Hs1,G1⟩ := id f0_ya
  refine gv s₁ 3 #[sR ya,sI 6] [(.int 6),(.int 6)] (fun t k => X0.arraylength hx (by rw [e0]; exact Ar1.1) (State.isArrayOf_alike hZ.alike Ar1.2.1) (g := (mkF m 2 #[sR ya,sI 6] [(.ref ya),(.int 6)])) rfl rfl (hb hby d15_2) _ (by rw [len_of S1 M1]; exact k)) ?_
  refine gv s₁ 4 #[sR ya,sI 6] [(.int 0)] (fun t k => XS.isub X0.here hx rfl (hb hby d15_3) rfl k) ?_
  refine gv s₁ 6 #[sR ya,sI 6] [(.int 31),(.int 0)] (fun t k => XS.bipush X0.here hx rfl (hb hby d15_4) k) ?_
  refine gv s₁ 7 #[sR ya,sI 6] [(.int 0)] (fun t k => XS.iushr X0.here hx rfl (hb hby d15_6) rfl k) ?_
  refine gv s₁ 8 #[sR ya,sI 6] [(.int 0)] (fun t k => XS.i2b X0.here hx rfl (hb hby d15_7) rfl k) ?_
  exact own_ret X0 hx Bd.notSynchronized Bd.returns rfl (Or.inl ⟨rfl,by simp,_,rfl⟩) (hb hby d15_8) e0 ⟨rfl,N0,rfl⟩ (by decide) (by decide)
theorem ef_146 (m : MethodId) (ya : Addr) (yb : Addr) : entryFrame m #[(.ref ya), (.int (0 : Int32)), (.ref yb), (.int (0 : Int32)), (.int (6 : Int32))] 7 = mkF m 0 #[.val (.ref ya), .val (.int (0 : Int32)), .val (.ref yb), .val (.int (0 : Int32)), .val (.int (6 : Int32)), .unset, .unset] [] := by first | (simp [entryFrame, mkF, argsToLocals, Value.category]; done) | rfl
def Q146 (Z : State) (ya : Addr) (yb : Addr) (ka : ClassId) (kb : ClassId) (d0 : Int32) (d1 : Int32) (d2 : Int32) (d3 : Int32) (d4 : Int32) (d5 : Int32) (h0 : Heap) (n0 : Nat) (v : Option Value) (h : Heap) (L : List Loc) : Prop := v = some (.int (6 : Int32)) ∧ Fr n0 L ∧ Keep h0 h [yb] ∧ Arv Z h yb kb .byte (6 : Int32) [(.int (nar .byte (d0.toInt8.toInt32))), (.int (nar .byte (d1.toInt8.toInt32))), (.int (nar .byte (d2.toInt8.toInt32))), (.int (nar .byte (d3.toInt8.toInt32))), (.int (nar .byte (d4.toInt8.toInt32))), (.int (nar .byte (d5.toInt8.toInt32)))] (.int (0 : Int32))
set_option maxRecDepth 65536 in
set_option maxHeartbeats 40000000 in
theorem rm146 (l : Launch) (Z : State) (a0 : Array Value) (hw : ∀ d ∈ tables_1, d.before a0 Z = true) (ws : List Jvm.Cond) (ya : Addr) (yb : Addr) (ka : ClassId) (kb : ClassId) (d0 : Int32) (d1 : Int32) (d2 : Int32) (d3 : Int32) (d4 : Int32) (d5 : Int32) (h0 : Heap) (n0 : Nat) (Z0 : n0 ≤ h0.size) (f0_ya : Arv Z h0 ya ka .char (6 : Int32) [(.int d0), (.int d1), (.int d2), (.int d3), (.int d4), (.int d5)] (.int (0 : Int32))) (f1_yb : Arv Z h0 yb kb .byte (6 : Int32) [(.int (0 : Int32)), (.int (0 : Int32)), (.int (0 : Int32)), (.int (0 : Int32)), (.int (0 : Int32)), (.int (0 : Int32))] (.int (0 : Int32))) (ne_ya_yb : ya ≠ yb) (g_yb : n0 ≤ yb) (hd0 : ¬ (255 : Int32) < d0) (hd1 : ¬ (255 : Int32) < d1) (hd2 : ¬ (255 : Int32) < d2) (hd3 : ¬ (255 : Int32) < d3) (hd4 : ¬ (255 : Int32) < d4) (hd5 : ¬ (255 : Int32) < d5) :
    MetFree l (⟨"java/lang/StringUTF16", "compress", "([CI[BII)I"⟩ : MethodName) (head1 (Jvm.Cond.code (⟨"java/lang/StringUTF16", "compress", "([CI[BII)I"⟩ : MethodName) jdk_52_method_21_code 7 (some .int) :: ws) ({ frames := 0, cells := 0, slots := 0, locals := 0 } : Room)) (fun a U => a = #[(.ref ya), (.int 0), (.ref yb), (.int 0), (.int 6)] ∧ Z.Warmed39 U.vm ∧ U.heap = h0) (fun _ _ _ _ _ => True) (fun _ U o U' => ∃ v L, o = .returned v ∧ Q146 Z ya yb ka kb d0 d1 d2 d3 d4 d5 h0 n0 v U'.heap L ∧ FrameEnd U o U' L 0 0) := by
  refine MetFree.of_bodySF (plainFor_of_name pn_105) hisR ?_
  intro p e s m args below meth c s₁ Bd hml0 hP hK
  obtain ⟨rfl,hZ,hh⟩ := hP
  have hx := Bd.exec
  have hby := Bd.bytes
  have hml : c.maxLocals = 7 := hml0
  have hown : s.vm.findClass "java/lang/StringUTF16" = some m.cls := findClass_of_methodNamed Bd.named
  have hnm := (name_of_methodNamed Bd.named Bd.method).1
  have X0 : Stand p l e ({ frames := 0,cells := 0,slots := 0,locals := 0 } : Room) s m #[(.ref ya),(.int 0),(.ref yb),(.int 0),(.int 6)] below meth c s₁ [] 0 0 := Stand.of_body Bd
  have e0 : s₁.heap = h0 := by rw [← hh,Bd.state]; rfl
  have N0 := Fr.nil n0
  refine own_start (Q := fun v h L => Q146 Z ya yb ka kb d0 d1 d2 d3 d4 d5 h0 n0 v h L) ?_
  refine gv s₁ 0 #[sR ya,sI 0,sR yb,sI 0,sI 6,sU,sU] [] (fun t k => castTop (ef_146 m ya yb) k) ?_
  refine gv s₁ 1 #[sR ya,sI 0,sR yb,sI 0,sI 6,sU,sU] [(.int 0)] (fun t k => XS.iconst X0.here hx rfl (hb hby d14_0) k) ?_
  refine gv s₁ 3 #[sR ya,sI 0,sR yb,sI 0,sI 6,sI 0,sU] [] (fun t k => XS.istore X0.here hx rfl (hb hby d14_1) rfl (l' := #[sR ya,sI 0,sR yb,sI 0,sI 6,sI 0,sU]) rfl k) ?_
  refine gv s₁ 5 #[sR ya,sI 0,sR yb,sI 0,sI 6,sI 0,sU] [(.int 0)] (fun t k => XS.iload X0.here hx rfl (hb hby d14_3) rfl k) ?_
  refine gv s₁ 7 #[sR ya,sI 0,sR yb,sI 0,sI 6,sI 0,sU] [(.int 6),(.int 0)] (fun t k => XS.iload X0.here hx rfl (hb hby d14_5) rfl k) ?_
  refine gv s₁ 10 #[sR ya,sI 0,sR yb,sI 0,sI 6,sI 0,sU] [] (fun t k => XS.icmpNo X0.here hx rfl (hb hby d14_7) rfl (tlt (by decide : ((0 : Int32) < (6 : Int32)))).2.1 k) ?_
  refine gv s₁ 11 #[sR ya,sI 0,sR yb,sI 0,sI 6,sI 0,sU] [(.ref ya)] (fun t k => XS.aloadN X0.here hx rfl (hb hby d14_10) rfl rfl k) ?_
  refine gv s₁ 12 #[sR ya,sI 0,sR yb,sI 0,sI 6,sI 0,sU] [(.int 0),(.ref ya)] (fun t k => XS.iloadN X0.here hx rfl (hb hby d14_11) rfl k) ?_
  obtain ⟨cl1,Ar1,q1,S1,M1,Hs1,G1⟩ := id f0_ya
  have hin1 : ¬ ((0 : Int32) < 0 ∨ cl1.slots.size ≤ ((0 : Int32)).toNatClampNeg) := inb_of S1 ⟨by decide,by decide⟩
  have hat1 : cl1.slots[((0 : Int32)).toNatClampNeg]? = some (.int d0) := Has.at Hs1 hin1 rfl
  refine gv s₁ 13 #[sR ya,sI 0,sR yb,sI 0,sI 6,sI 0,sU] [(.int d0)] (fun t k => X0.caload hx (j := (0 : Int32)) (v := (.int d0)) (by rw [e0]; exact Ar1.1) (State.isArrayOf_alike hZ.alike Ar1.2.1) Ar1.2.2 hin1 hat1 (g := (mkF m 12 #[sR ya,sI 0,sR yb,sI 0,sI 6,sI 0,sU] [(.int 0),(.ref ya)])) rfl rfl (hb hby d14_12) _ k) ?_
  refine gv s₁ 15 #[sR ya,sI 0,sR yb,sI 0,sI 6,sI 0,sI d0] [] (fun t k => XS.istore X0.here hx rfl (hb hby d14_13) rfl (l' := #[sR ya,sI 0,sR yb,sI 0,sI 6,sI 0,sI d0]) rfl k) ?_
  refine gv s₁ 17 #[sR ya,sI 0,sR yb,sI 0,sI 6,sI 0,sI d0] [(.int d0)] (fun t k => XS.iload X0.here hx rfl (hb hby d14_15) rfl k) ?_
  refine gv s₁ 20 #[sR ya,sI 0,sR yb,sI 0,sI 6,sI 0,sI d0] [(.int 255),(.int d0)] (fun t k => XS.sipush X0.here hx rfl (hb hby d14_17) k) ?_
  refine gv s₁ 26 #[sR ya,sI 0,sR yb,sI 0,sI 6,sI 0,sI d0] [] (fun t k => XS.icmpYes X0.here hx rfl (pc0 := 20) (pc' := 26) rfl (hb hby d14_20) rfl (flt hd0).2.2.2 (by decide) (by decide) k) ?_
  refine gv s₁ 27 #[sR ya,sI 0,sR yb,sI 0,sI 6,sI 0,sI d0] [(.ref yb)] (fun t k => XS.aloadN X0.here hx rfl (hb hby d14_26) rfl rfl k) ?_
  refine gv s₁ 28 #[sR ya,sI 0,sR yb,sI 0,sI 6,sI 0,sI d0] [(.int 0),(.ref yb)] (fun t k => XS.iloadN X0.here hx rfl (hb hby d14_27) rfl k) ?_
  refine gv s₁ 30 #[sR ya,sI 0,sR yb,sI 0,sI 6,sI 0,sI d0] [(.int d0),(.int 0),(.ref yb)] (fun t k => XS.iload X0.here hx rfl (hb hby d14_28) rfl k) ?_
  refine gv s₁ 31 #[sR ya,sI 0,sR yb,sI 0,sI 6,sI 0,sI d0] [(.int (d0.toInt8.toInt32)),(.int 0),(.ref yb)] (fun t k => XS.i2b X0.here hx rfl (hb hby d14_30) rfl k) ?_
  obtain ⟨cl2,Ar2,q2,S2,M2,Hs2,G2⟩ := id f1_yb
  have hin2 : ¬ ((0 : Int32) < 0 ∨ cl2.slots.size ≤ ((0 : Int32)).toNatClampNeg) := inb_of S2 ⟨by decide,by decide⟩
  obtain ⟨T2,h2,X2,e2,W2,st2⟩ := stB X0 hx hZ e0 Ar2 (j := (0 : Int32)) hin2 (g := (mkF m 31 #[sR ya,sI 0,sR yb,sI 0,sI 6,sI 0,sI d0] [(.int (d0.toInt8.toInt32)),(.int 0),(.ref yb)])) rfl rfl (hb hby d14_31)
  have f3 := f0_ya.other W2 ne_ya_yb
  have f4 : Arv Z h2 yb kb .byte (6 : Int32) [(.int (nar .byte (d0.toInt8.toInt32))),(.int 0),(.int 0),(.int 0),(.int 0),(.int 0)] (.int 0) := Arv.set Ar2 q2 S2 M2 Hs2 G2 (fits_nar_byte _) W2 0 rfl (Nat.le_of_ble_eq_true rfl)
  have K2 := Keep.wr (Keep.refl h0 [yb]) W2 (Or.inl (List.mem_of_getElem? (i := 0) rfl))
  have Z2 := Nat.le_trans Z0 K2.1
  have N2 := Fr.snoc X2 N0 g_yb
  refine gv T2 32 #[sR ya,sI 0,sR yb,sI 0,sI 6,sI 0,sI d0] [] (fun t k => st2 _ k) ?_
  refine gv T2 35 #[sR ya,sI 1,sR yb,sI 0,sI 6,sI 0,sI d0] [] (fun t k => XS.iinc X2.here hx rfl (hb hby d14_32) rfl (l' := #[sR ya,sI 1,sR yb,sI 0,sI 6,sI 0,sI d0]) rfl k) ?_
  refine gv T2 38 #[sR ya,sI 1,sR yb,sI 1,sI 6,sI 0,sI d0] [] (fun t k => XS.iinc X2.here hx rfl (hb hby d14_35) rfl (l' := #[sR ya,sI 1,sR yb,sI 1,sI 6,sI 0,sI d0]) rfl k) ?_
  refine gv T2 41 #[sR ya,sI 1,sR yb,sI 1,sI 6,sI 1,sI d0] [] (fun t k => XS.iinc X2.here hx rfl (hb hby d14_38) rfl (l' := #[sR ya,sI 1,sR yb,sI 1,sI 6,sI 1,sI d0]) rfl k) ?_
  refine gv T2 3 #[sR ya,sI 1,sR yb,sI 1,sI 6,sI 1,sI d0] [] (fun t k => XS.goto X2.here hx rfl (pc0 := 41) (pc' := 3) rfl (hb hby d14_41) (by decide) (by decide) k) ?_
  refine gv T2 5 #[sR ya,sI 1,sR yb,sI 1,sI 6,sI 1,sI d0] [(.int 1)] (fun t k => XS.iload X2.here hx rfl (hb hby d14_3) rfl k) ?_
  refine gv T2 7 #[sR ya,sI 1,sR yb,sI 1,sI 6,sI 1,sI d0] [(.int 6),(.int 1)] (fun t k => XS.iload X2.here hx rfl (hb hby d14_5) rfl k) ?_
  refine gv T2 10 #[sR ya,sI 1,sR yb,sI 1,sI 6,sI 1,sI d0] [] (fun t k => XS.icmpNo X2.here hx rfl (hb hby d14_7) rfl (tlt (by decide : ((1 : Int32) < (6 : Int32)))).2.1 k) ?_
  refine gv T2 11 #[sR ya,sI 1,sR yb,sI 1,sI 6,sI 1,sI d0] [(.ref ya)] (fun t k => XS.aloadN X2.here hx rfl (hb hby d14_10) rfl rfl k) ?_
  refine gv T2 12 #[sR ya,sI 1,sR yb,sI 1,sI 6,sI 1,sI d0] [(.int 1),(.ref ya)] (fun t k => XS.iloadN X2.here hx rfl (hb hby d14_11) rfl k) ?_
  obtain ⟨cl5,Ar5,q5,S5,M5,Hs5,G5⟩ := id f3
  have hin5 : ¬ ((1 : Int32) < 0 ∨ cl5.slots.size ≤ ((1 : Int32)).toNatClampNeg) := inb_of S5 ⟨by decide,by decide⟩
  have hat5 : cl5.slots[((1 : Int32)).toNatClampNeg]? = some (.int d1) := Has.at Hs5 hin5 rfl
  refine gv T2 13 #[sR ya,sI 1,sR yb,sI 1,sI 6,sI 1,sI d0] [(.int d1)] (fun t k => X2.caload hx (j := (1 : Int32)) (v := (.int d1)) (by rw [e2]; exact Ar5.1) (State.isArrayOf_alike hZ.alike Ar5.2.1) Ar5.2.2 hin5 hat5 (g := (mkF m 12 #[sR ya,sI 1,sR yb,sI 1,sI 6,sI 1,sI d0] [(.int 1),(.ref ya)])) rfl rfl (hb hby d14_12) _ k) ?_
  refine gv T2 15 #[sR ya,sI 1,sR yb,sI 1,sI 6,sI 1,sI d1] [] (fun t k => XS.istore X2.here hx rfl (hb hby d14_13) rfl (l' := #[sR ya,sI 1,sR yb,sI 1,sI 6,sI 1,sI d1]) rfl k) ?_
  refine gv T2 17 #[sR ya,sI 1,sR yb,sI 1,sI 6,sI 1,sI d1] [(.int d1)] (fun t k => XS.iload X2.here hx rfl (hb hby d14_15) rfl k) ?_
  refine gv T2 20 #[sR ya,sI 1,sR yb,sI 1,sI 6,sI 1,sI d1] [(.int 255),(.int d1)] (fun t k => XS.sipush X2.here hx rfl (hb hby d14_17) k) ?_
  refine gv T2 26 #[sR ya,sI 1,sR yb,sI 1,sI 6,sI 1,sI d1] [] (fun t k => XS.icmpYes X2.here hx rfl (pc0 := 20) (pc' := 26) rfl (hb hby d14_20) rfl (flt hd1).2.2.2 (by decide) (by decide) k) ?_
  refine gv T2 27 #[sR ya,sI 1,sR yb,sI 1,sI 6,sI 1,sI d1] [(.ref yb)] (fun t k => XS.aloadN X2.here hx rfl (hb hby d14_26) rfl rfl k) ?_
  refine gv T2 28 #[sR ya,sI 1,sR yb,sI 1,sI 6,sI 1,sI d1] [(.int 1),(.ref yb)] (fun t k => XS.iloadN X2.here hx rfl (hb hby d14_27) rfl k) ?_
  refine gv T2 30 #[sR ya,sI 1,sR yb,sI 1,sI 6,sI 1,sI d1] [(.int d1),(.int 1),(.ref yb)] (fun t k => XS.iload X2.here hx rfl (hb hby d14_28) rfl k) ?_
  refine gv T2 31 #[sR ya,sI 1,sR yb,sI 1,sI 6,sI 1,sI d1] [(.int (d1.toInt8.toInt32)),(.int 1),(.ref yb)] (fun t k => XS.i2b X2.here hx rfl (hb hby d14_30) rfl k) ?_
  obtain ⟨cl6,Ar6,q6,S6,M6,Hs6,G6⟩ := id f4
  have hin6 : ¬ ((1 : Int32) < 0 ∨ cl6.slots.size ≤ ((1 : Int32)).toNatClampNeg) := inb_of S6 ⟨by decide,by decide⟩
  obtain ⟨T6,h6,X6,e6,W6,st6⟩ := stB X2 hx hZ e2 Ar6 (j := (1 : Int32)) hin6 (g := (mkF m 31 #[sR ya,sI 1,sR yb,sI 1,sI 6,sI 1,sI d1] [(.int (d1.toInt8.toInt32)),(.int 1),(.ref yb)])) rfl rfl (hb hby d14_31)
  have f7 := f3.other W6 ne_ya_yb
  have f8 : Arv Z h6 yb kb .byte (6 : Int32) [(.int (nar .byte (d0.toInt8.toInt32))),(.int (nar .byte (d1.toInt8.toInt32))),(.int 0),(.int 0),(.int 0),(.int 0)] (.int 0) := Arv.set Ar6 q6 S6 M6 Hs6 G6 (fits_nar_byte _) W6 1 rfl (Nat.le_of_ble_eq_true rfl)
  have K6 := Keep.wr K2 W6 (Or.inl (List.mem_of_getElem? (i := 0) rfl))
  have Z6 := Nat.le_trans Z0 K6.1
  have N6 := Fr.snoc X6 N2 g_yb
  refine gv T6 32 #[sR ya,sI 1,sR yb,sI 1,sI 6,sI 1,sI d1] [] (fun t k => st6 _ k) ?_
  refine gv T6 35 #[sR ya,sI 2,sR yb,sI 1,sI 6,sI 1,sI d1] [] (fun t k => XS.iinc X6.here hx rfl (hb hby d14_32) rfl (l' := #[sR ya,sI 2,sR yb,sI 1,sI 6,sI 1,sI d1]) rfl k) ?_
  refine gv T6 38 #[sR ya,sI 2,sR yb,sI 2,sI 6,sI 1,sI d1] [] (fun t k => XS.iinc X6.here hx rfl (hb hby d14_35) rfl (l' := #[sR ya,sI 2,sR yb,sI 2,sI 6,sI 1,sI d1]) rfl k) ?_
  refine gv T6 41 #[sR ya,sI 2,sR yb,sI 2,sI 6,sI 2,sI d1] [] (fun t k => XS.iinc X6.here hx rfl (hb hby d14_38) rfl (l' := #[sR ya,sI 2,sR yb,sI 2,sI 6,sI 2,sI d1]) rfl k) ?_
  refine gv T6 3 #[sR ya,sI 2,sR yb,sI 2,sI 6,sI 2,sI d1] [] (fun t k => XS.goto X6.here hx rfl (pc0 := 41) (pc' := 3) rfl (hb hby d14_41) (by decide) (by decide) k) ?_
  refine gv T6 5 #[sR ya,sI 2,sR yb,sI 2,sI 6,sI 2,sI d1] [(.int 2)] (fun t k => XS.iload X6.here hx rfl (hb hby d14_3) rfl k) ?_
  refine gv T6 7 #[sR ya,sI 2,sR yb,sI 2,sI 6,sI 2,sI d1] [(.int 6),(.int 2)] (fun t k => XS.iload X6.here hx rfl (hb hby d14_5) rfl k) ?_
  refine gv T6 10 #[sR ya,sI 2,sR yb,sI 2,sI 6,sI 2,sI d1] [] (fun t k => XS.icmpNo X6.here hx rfl (hb hby d14_7) rfl (tlt (by decide : ((2 : Int32) < (6 : Int32)))).2.1 k) ?_
  refine gv T6 11 #[sR ya,sI 2,sR yb,sI 2,sI 6,sI 2,sI d1] [(.ref ya)] (fun t k => XS.aloadN X6.here hx rfl (hb hby d14_10) rfl rfl k) ?_
  refine gv T6 12 #[sR ya,sI 2,sR yb,sI 2,sI 6,sI 2,sI d1] [(.int 2),(.ref ya)] (fun t k => XS.iloadN X6.here hx rfl (hb hby d14_11) rfl k) ?_
  obtain ⟨cl9,Ar9,q9,S9,M9,Hs9,G9⟩ := id f7
  have hin9 : ¬ ((2 : Int32) < 0 ∨ cl9.slots.size ≤ ((2 : Int32)).toNatClampNeg) := inb_of S9 ⟨by decide,by decide⟩
  have hat9 : cl9.slots[((2 : Int32)).toNatClampNeg]? = some (.int d2) := Has.at Hs9 hin9 rfl
  refine gv T6 13 #[sR ya,sI 2,sR yb,sI 2,sI 6,sI 2,sI d1] [(.int d2)] (fun t k => X6.caload hx (j := (2 : Int32)) (v := (.int d2)) (by rw [e6]; exact Ar9.1) (State.isArrayOf_alike hZ.alike Ar9.2.1) Ar9.2.2 hin9 hat9 (g := (mkF m 12 #[sR ya,sI 2,sR yb,sI 2,sI 6,sI 2,sI d1] [(.int 2),(.ref ya)])) rfl rfl (hb hby d14_12) _ k) ?_
  refine gv T6 15 #[sR ya,sI 2,sR yb,sI 2,sI 6,sI 2,sI d2] [] (fun t k => XS.istore X6.here hx rfl (hb hby d14_13) rfl (l' := #[sR ya,sI 2,sR yb,sI 2,sI 6,sI 2,sI d2]) rfl k) ?_
  refine gv T6 17 #[sR ya,sI 2,sR yb,sI 2,sI 6,sI 2,sI d2] [(.int d2)] (fun t k => XS.iload X6.here hx rfl (hb hby d14_15) rfl k) ?_
  refine gv T6 20 #[sR ya,sI 2,sR yb,sI 2,sI 6,sI 2,sI d2] [(.int 255),(.int d2)] (fun t k => XS.sipush X6.here hx rfl (hb hby d14_17) k) ?_
  refine gv T6 26 #[sR ya,sI 2,sR yb,sI 2,sI 6,sI 2,sI d2] [] (fun t k => XS.icmpYes X6.here hx rfl (pc0 := 20) (pc' := 26) rfl (hb hby d14_20) rfl (flt hd2).2.2.2 (by decide) (by decide) k) ?_
  refine gv T6 27 #[sR ya,sI 2,sR yb,sI 2,sI 6,sI 2,sI d2] [(.ref yb)] (fun t k => XS.aloadN X6.here hx rfl (hb hby d14_26) rfl rfl k) ?_
  refine gv T6 28 #[sR ya,sI 2,sR yb,sI 2,sI 6,sI 2,sI d2] [(.int 2),(.ref yb)] (fun t k => XS.iloadN X6.here hx rfl (hb hby d14_27) rfl k) ?_
  refine gv T6 30 #[sR ya,sI 2,sR yb,sI 2,sI 6,sI 2,sI d2] [(.int d2),(.int 2),(.ref yb)] (fun t k => XS.iload X6.here hx rfl (hb hby d14_28) rfl k) ?_
  refine gv T6 31 #[sR ya,sI 2,sR yb,sI 2,sI 6,sI 2,sI d2] [(.int (d2.toInt8.toInt32)),(.int 2),(.ref yb)] (fun t k => XS.i2b X6.here hx rfl (hb hby d14_30) rfl k) ?_
  obtain ⟨cl10,Ar10,q10,S10,M10,Hs10,G10⟩ := id f8
  have hin10 : ¬ ((2 : Int32) < 0 ∨ cl10.slots.size ≤ ((2 : Int32)).toNatClampNeg) := inb_of S10 ⟨by decide,by decide⟩
  obtain ⟨T10,h10,X10,e10,W10,st10⟩ := stB X6 hx hZ e6 Ar10 (j := (2 : Int32)) hin10 (g := (mkF m 31 #[sR ya,sI 2,sR yb,sI 2,sI 6,sI 2,sI d2] [(.int (d2.toInt8.toInt32)),(.int 2),(.ref yb)])) rfl rfl (hb hby d14_31)
  have f11 := f7.other W10 ne_ya_yb
  have f12 : Arv Z h10 yb kb .byte (6 : Int32) [(.int (nar .byte (d0.toInt8.toInt32))),(.int (nar .byte (d1.toInt8.toInt32))),(.int (nar .byte (d2.toInt8.toInt32))),(.int 0),(.int 0),(.int 0)] (.int 0) := Arv.set Ar10 q10 S10 M10 Hs10 G10 (fits_nar_byte _) W10 2 rfl (Nat.le_of_ble_eq_true rfl)
  have K10 := Keep.wr K6 W10 (Or.inl (List.mem_of_getElem? (i := 0) rfl))
  have Z10 := Nat.le_trans Z0 K10.1
  have N10 := Fr.snoc X10 N6 g_yb
  refine gv T10 32 #[sR ya,sI 2,sR yb,sI 2,sI 6,sI 2,sI d2] [] (fun t k => st10 _ k) ?_
  refine gv T10 35 #[sR ya,sI 3,sR yb,sI 2,sI 6,sI 2,sI d2] [] (fun t k => XS.iinc X10.here hx rfl (hb hby d14_32) rfl (l' := #[sR ya,sI 3,sR yb,sI 2,sI 6,sI 2,sI d2]) rfl k) ?_
  refine gv T10 38 #[sR ya,sI 3,sR yb,sI 3,sI 6,sI 2,sI d2] [] (fun t k => XS.iinc X10.here hx rfl (hb hby d14_35) rfl (l' := #[sR ya,sI 3,sR yb,sI 3,sI 6,sI 2,sI d2]) rfl k) ?_
  refine gv T10 41 #[sR ya,sI 3,sR yb,sI 3,sI 6,sI 3,sI d2] [] (fun t k => XS.iinc X10.here hx rfl (hb hby d14_38) rfl (l' := #[sR ya,sI 3,sR yb,sI 3,sI 6,sI 3,sI d2]) rfl k) ?_
  refine gv T10 3 #[sR ya,sI 3,sR yb,sI 3,sI 6,sI 3,sI d2] [] (fun t k => XS.goto X10.here hx rfl (pc0 := 41) (pc' := 3) rfl (hb hby d14_41) (by decide) (by decide) k) ?_
  refine gv T10 5 #[sR ya,sI 3,sR yb,sI 3,sI 6,sI 3,sI d2] [(.int 3)] (fun t k => XS.iload X10.here hx rfl (hb hby d14_3) rfl k) ?_
  refine gv T10 7 #[sR ya,sI 3,sR yb,sI 3,sI 6,sI 3,sI d2] [(.int 6),(.int 3)] (fun t k => XS.iload X10.here hx rfl (hb hby d14_5) rfl k) ?_
  refine gv T10 10 #[sR ya,sI 3,sR yb,sI 3,sI 6,sI 3,sI d2] [] (fun t k => XS.icmpNo X10.here hx rfl (hb hby d14_7) rfl (tlt (by decide : ((3 : Int32) < (6 : Int32)))).2.1 k) ?_
  refine gv T10 11 #[sR ya,sI 3,sR yb,sI 3,sI 6,sI 3,sI d2] [(.ref ya)] (fun t k => XS.aloadN X10.here hx rfl (hb hby d14_10) rfl rfl k) ?_
  refine gv T10 12 #[sR ya,sI 3,sR yb,sI 3,sI 6,sI 3,sI d2] [(.int 3),(.ref ya)] (fun t k => XS.iloadN X10.here hx rfl (hb hby d14_11) rfl k) ?_
  obtain ⟨cl13,Ar13,q13,S13,M13,Hs13,G13⟩ := id f11
  have hin13 : ¬ ((3 : Int32) < 0 ∨ cl13.slots.size ≤ ((3 : Int32)).toNatClampNeg) := inb_of S13 ⟨by decide,by decide⟩
  have hat13 : cl13.slots[((3 : Int32)).toNatClampNeg]? = some (.int d3) := Has.at Hs13 hin13 rfl
  refine gv T10 13 #[sR ya,sI 3,sR yb,sI 3,sI 6,sI 3,sI d2] [(.int d3)] (fun t k => X10.caload hx (j := (3 : Int32)) (v := (.int d3)) (by rw [e10]; exact Ar13.1) (State.isArrayOf_alike hZ.alike Ar13.2.1) Ar13.2.2 hin13 hat13 (g := (mkF m 12 #[sR ya,sI 3,sR yb,sI 3,sI 6,sI 3,sI d2] [(.int 3),(.ref ya)])) rfl rfl (hb hby d14_12) _ k) ?_
  refine gv T10 15 #[sR ya,sI 3,sR yb,sI 3,sI 6,sI 3,sI d3] [] (fun t k => XS.istore X10.here hx rfl (hb hby d14_13) rfl (l' := #[sR ya,sI 3,sR yb,sI 3,sI 6,sI 3,sI d3]) rfl k) ?_
  refine gv T10 17 #[sR ya,sI 3,sR yb,sI 3,sI 6,sI 3,sI d3] [(.int d3)] (fun t k => XS.iload X10.here hx rfl (hb hby d14_15) rfl k) ?_
  refine gv T10 20 #[sR ya,sI 3,sR yb,sI 3,sI 6,sI 3,sI d3] [(.int 255),(.int d3)] (fun t k => XS.sipush X10.here hx rfl (hb hby d14_17) k) ?_
  refine gv T10 26 #[sR ya,sI 3,sR yb,sI 3,sI 6,sI 3,sI d3] [] (fun t k => XS.icmpYes X10.here hx rfl (pc0 := 20) (pc' := 26) rfl (hb hby d14_20) rfl (flt hd3).2.2.2 (by decide) (by decide) k) ?_
  refine gv T10 27 #[sR ya,sI 3,sR yb,sI 3,sI 6,sI 3,sI d3] [(.ref yb)] (fun t k => XS.aloadN X10.here hx rfl (hb hby d14_26) rfl rfl k) ?_
  refine gv T10 28 #[sR ya,sI 3,sR yb,sI 3,sI 6,sI 3,sI d3] [(.int 3),(.ref yb)] (fun t k => XS.iloadN X10.here hx rfl (hb hby d14_27) rfl k) ?_
  refine gv T10 30 #[sR ya,sI 3,sR yb,sI 3,sI 6,sI 3,sI d3] [(.int d3),(.int 3),(.ref yb)] (fun t k => XS.iload X10.here hx rfl (hb hby d14_28) rfl k) ?_
  refine gv T10 31 #[sR ya,sI 3,sR yb,sI 3,sI 6,sI 3,sI d3] [(.int (d3.toInt8.toInt32)),(.int 3),(.ref yb)] (fun t k => XS.i2b X10.here hx rfl (hb hby d14_30) rfl k) ?_
  obtain ⟨cl14,Ar14,q14,S14,M14,Hs14,G14⟩ := id f12
  have hin14 : ¬ ((3 : Int32) < 0 ∨ cl14.slots.size ≤ ((3 : Int32)).toNatClampNeg) := inb_of S14 ⟨by decide,by decide⟩
  obtain ⟨T14,h14,X14,e14,W14,st14⟩ := stB X10 hx hZ e10 Ar14 (j := (3 : Int32)) hin14 (g := (mkF m 31 #[sR ya,sI 3,sR yb,sI 3,sI 6,sI 3,sI d3] [(.int (d3.toInt8.toInt32)),(.int 3),(.ref yb)])) rfl rfl (hb hby d14_31)
  have f15 := f11.other W14 ne_ya_yb
  have f16 : Arv Z h14 yb kb .byte (6 : Int32) [(.int (nar .byte (d0.toInt8.toInt32))),(.int (nar .byte (d1.toInt8.toInt32))),(.int (nar .byte (d2.toInt8.toInt32))),(.int (nar .byte (d3.toInt8.toInt32))),(.int 0),(.int 0)] (.int 0) := Arv.set Ar14 q14 S14 M14 Hs14 G14 (fits_nar_byte _) W14 3 rfl (Nat.le_of_ble_eq_true rfl)
  have K14 := Keep.wr K10 W14 (Or.inl (List.mem_of_getElem? (i := 0) rfl))
  have Z14 := Nat.le_trans Z0 K14.1
  have N14 := Fr.snoc X14 N10 g_yb
  refine gv T14 32 #[sR ya,sI 3,sR yb,sI 3,sI 6,sI 3,sI d3] [] (fun t k => st14 _ k) ?_
  refine gv T14 35 #[sR ya,sI 4,sR yb,sI 3,sI 6,sI 3,sI d3] [] (fun t k => XS.iinc X14.here hx rfl (hb hby d14_32) rfl (l' := #[sR ya,sI 4,sR yb,sI 3,sI 6,sI 3,sI d3]) rfl k) ?_
  refine gv T14 38 #[sR ya,sI 4,sR yb,sI 4,sI 6,sI 3,sI d3] [] (fun t k => XS.iinc X14.here hx rfl (hb hby d14_35) rfl (l' := #[sR ya,sI 4,sR yb,sI 4,sI 6,sI 3,sI d3]) rfl k) ?_
  refine gv T14 41 #[sR ya,sI 4,sR yb,sI 4,sI 6,sI 4,sI d3] [] (fun t k => XS.iinc X14.here hx rfl (hb hby d14_38) rfl (l' := #[sR ya,sI 4,sR yb,sI 4,sI 6,sI 4,sI d3]) rfl k) ?_
  refine gv T14 3 #[sR ya,sI 4,sR yb,sI 4,sI 6,sI 4,sI d3] [] (fun t k => XS.goto X14.here hx rfl (pc0 := 41) (pc' := 3) rfl (hb hby d14_41) (by decide) (by decide) k) ?_
  refine gv T14 5 #[sR ya,sI 4,sR yb,sI 4,sI 6,sI 4,sI d3] [(.int 4)] (fun t k => XS.iload X14.here hx rfl (hb hby d14_3) rfl k) ?_
  refine gv T14 7 #[sR ya,sI 4,sR yb,sI 4,sI 6,sI 4,sI d3] [(.int 6),(.int 4)] (fun t k => XS.iload X14.here hx rfl (hb hby d14_5) rfl k) ?_
  refine gv T14 10 #[sR ya,sI 4,sR yb,sI 4,sI 6,sI 4,sI d3] [] (fun t k => XS.icmpNo X14.here hx rfl (hb hby d14_7) rfl (tlt (by decide : ((4 : Int32) < (6 : Int32)))).2.1 k) ?_
  refine gv T14 11 #[sR ya,sI 4,sR yb,sI 4,sI 6,sI 4,sI d3] [(.ref ya)] (fun t k => XS.aloadN X14.here hx rfl (hb hby d14_10) rfl rfl k) ?_
  refine gv T14 12 #[sR ya,sI 4,sR yb,sI 4,sI 6,sI 4,sI d3] [(.int 4),(.ref ya)] (fun t k => XS.iloadN X14.here hx rfl (hb hby d14_11) rfl k) ?_
  obtain ⟨cl17,Ar17,q17,S17,M17,Hs17,G17⟩ := id f15
  have hin17 : ¬ ((4 : Int32) < 0 ∨ cl17.slots.size ≤ ((4 : Int32)).toNatClampNeg) := inb_of S17 ⟨by decide,by decide⟩
  have hat17 : cl17.slots[((4 : Int32)).toNatClampNeg]? = some (.int d4) := Has.at Hs17 hin17 rfl
  refine gv T14 13 #[sR ya,sI 4,sR yb,sI 4,sI 6,sI 4,sI d3] [(.int d4)] (fun t k => X14.caload hx (j := (4 : Int32)) (v := (.int d4)) (by rw [e14]; exact Ar17.1) (State.isArrayOf_alike hZ.alike Ar17.2.1) Ar17.2.2 hin17 hat17 (g := (mkF m 12 #[sR ya,sI 4,sR yb,sI 4,sI 6,sI 4,sI d3] [(.int 4),(.ref ya)])) rfl rfl (hb hby d14_12) _ k) ?_
  refine gv T14 15 #[sR ya,sI 4,sR yb,sI 4,sI 6,sI 4,sI d4] [] (fun t k => XS.istore X14.here hx rfl (hb hby d14_13) rfl (l' := #[sR ya,sI 4,sR yb,sI 4,sI 6,sI 4,sI d4]) rfl k) ?_
  refine gv T14 17 #[sR ya,sI 4,sR yb,sI 4,sI 6,sI 4,sI d4] [(.int d4)] (fun t k => XS.iload X14.here hx rfl (hb hby d14_15) rfl k) ?_
  refine gv T14 20 #[sR ya,sI 4,sR yb,sI 4,sI 6,sI 4,sI d4] [(.int 255),(.int d4)] (fun t k => XS.sipush X14.here hx rfl (hb hby d14_17) k) ?_
  refine gv T14 26 #[sR ya,sI 4,sR yb,sI 4,sI 6,sI 4,sI d4] [] (fun t k => XS.icmpYes X14.here hx rfl (pc0 := 20) (pc' := 26) rfl (hb hby d14_20) rfl (flt hd4).2.2.2 (by decide) (by decide) k) ?_
  refine gv T14 27 #[sR ya,sI 4,sR yb,sI 4,sI 6,sI 4,sI d4] [(.ref yb)] (fun t k => XS.aloadN X14.here hx rfl (hb hby d14_26) rfl rfl k) ?_
  refine gv T14 28 #[sR ya,sI 4,sR yb,sI 4,sI 6,sI 4,sI d4] [(.int 4),(.ref yb)] (fun t k => XS.iloadN X14.here hx rfl (hb hby d14_27) rfl k) ?_
  refine gv T14 30 #[sR ya,sI 4,sR yb,sI 4,sI 6,sI 4,sI d4] [(.int d4),(.int 4),(.ref yb)] (fun t k => XS.iload X14.here hx rfl (hb hby d14_28) rfl k) ?_
  refine gv T14 31 #[sR ya,sI 4,sR yb,sI 4,sI 6,sI 4,sI d4] [(.int (d4.toInt8.toInt32)),(.int 4),(.ref yb)] (fun t k => XS.i2b X14.here hx rfl (hb hby d14_30) rfl k) ?_
  obtain ⟨cl18,Ar18,q18,S18,M18,Hs18,G18⟩ := id f16
  have hin18 : ¬ ((4 : Int32) < 0 ∨ cl18.slots.size ≤ ((4 : Int32)).toNatClampNeg) := inb_of S18 ⟨by decide,by decide⟩
  obtain ⟨T18,h18,X18,e18,W18,st18⟩ := stB X14 hx hZ e14 Ar18 (j := (4 : Int32)) hin18 (g := (mkF m 31 #[sR ya,sI 4,sR yb,sI 4,sI 6,sI 4,sI d4] [(.int (d4.toInt8.toInt32)),(.int 4),(.ref yb)])) rfl rfl (hb hby d14_31)
  have f19 := f15.other W18 ne_ya_yb
  have f20 : Arv Z h18 yb kb .byte (6 : Int32) [(.int (nar .byte (d0.toInt8.toInt32))),(.int (nar .byte (d1.toInt8.toInt32))),(.int (nar .byte (d2.toInt8.toInt32))),(.int (nar .byte (d3.toInt8.toInt32))),(.int (nar .byte (d4.toInt8.toInt32))),(.int 0)] (.int 0) := Arv.set Ar18 q18 S18 M18 Hs18 G18 (fits_nar_byte _) W18 4 rfl (Nat.le_of_ble_eq_true rfl)
  have K18 := Keep.wr K14 W18 (Or.inl (List.mem_of_getElem? (i := 0) rfl))
  have Z18 := Nat.le_trans Z0 K18.1
  have N18 := Fr.snoc X18 N14 g_yb
  refine gv T18 32 #[sR ya,sI 4,sR yb,sI 4,sI 6,sI 4,sI d4] [] (fun t k => st18 _ k) ?_
  refine gv T18 35 #[sR ya,sI 5,sR yb,sI 4,sI 6,sI 4,sI d4] [] (fun t k => XS.iinc X18.here hx rfl (hb hby d14_32) rfl (l' := #[sR ya,sI 5,sR yb,sI 4,sI 6,sI 4,sI d4]) rfl k) ?_
  refine gv T18 38 #[sR ya,sI 5,sR yb,sI 5,sI 6,sI 4,sI d4] [] (fun t k => XS.iinc X18.here hx rfl (hb hby d14_35) rfl (l' := #[sR ya,sI 5,sR yb,sI 5,sI 6,sI 4,sI d4]) rfl k) ?_
  refine gv T18 41 #[sR ya,sI 5,sR yb,sI 5,sI 6,sI 5,sI d4] [] (fun t k => XS.iinc X18.here hx rfl (hb hby d14_38) rfl (l' := #[sR ya,sI 5,sR yb,sI 5,sI 6,sI 5,sI d4]) rfl k) ?_
  refine gv T18 3 #[sR ya,sI 5,sR yb,sI 5,sI 6,sI 5,sI d4] [] (fun t k => XS.goto X18.here hx rfl (pc0 := 41) (pc' := 3) rfl (hb hby d14_41) (by decide) (by decide) k) ?_
  refine gv T18 5 #[sR ya,sI 5,sR yb,sI 5,sI 6,sI 5,sI d4] [(.int 5)] (fun t k => XS.iload X18.here hx rfl (hb hby d14_3) rfl k) ?_
  refine gv T18 7 #[sR ya,sI 5,sR yb,sI 5,sI 6,sI 5,sI d4] [(.int 6),(.int 5)] (fun t k => XS.iload X18.here hx rfl (hb hby d14_5) rfl k) ?_
  refine gv T18 10 #[sR ya,sI 5,sR yb,sI 5,sI 6,sI 5,sI d4] [] (fun t k => XS.icmpNo X18.here hx rfl (hb hby d14_7) rfl (tlt (by decide : ((5 : Int32) < (6 : Int32)))).2.1 k) ?_
  refine gv T18 11 #[sR ya,sI 5,sR yb,sI 5,sI 6,sI 5,sI d4] [(.ref ya)] (fun t k => XS.aloadN X18.here hx rfl (hb hby d14_10) rfl rfl k) ?_
  refine gv T18 12 #[sR ya,sI 5,sR yb,sI 5,sI 6,sI 5,sI d4] [(.int 5),(.ref ya)] (fun t k => XS.iloadN X18.here hx rfl (hb hby d14_11) rfl k) ?_
  obtain ⟨cl21,Ar21,q21,S21,M21,Hs21,G21⟩ := id f19
  have hin21 : ¬ ((5 : Int32) < 0 ∨ cl21.slots.size ≤ ((5 : Int32)).toNatClampNeg) := inb_of S21 ⟨by decide,by decide⟩
  have hat21 : cl21.slots[((5 : Int32)).toNatClampNeg]? = some (.int d5) := Has.at Hs21 hin21 rfl
  refine gv T18 13 #[sR ya,sI 5,sR yb,sI 5,sI 6,sI 5,sI d4] [(.int d5)] (fun t k => X18.caload hx (j := (5 : Int32)) (v := (.int d5)) (by rw [e18]; exact Ar21.1) (State.isArrayOf_alike hZ.alike Ar21.2.1) Ar21.2.2 hin21 hat21 (g := (mkF m 12 #[sR ya,sI 5,sR yb,sI 5,sI 6,sI 5,sI d4] [(.int 5),(.ref ya)])) rfl rfl (hb hby d14_12) _ k) ?_
  refine gv T18 15 #[sR ya,sI 5,sR yb,sI 5,sI 6,sI 5,sI d5] [] (fun t k => XS.istore X18.here hx rfl (hb hby d14_13) rfl (l' := #[sR ya,sI 5,sR yb,sI 5,sI 6,sI 5,sI d5]) rfl k) ?_
  refine gv T18 17 #[sR ya,sI 5,sR yb,sI 5,sI 6,sI 5,sI d5] [(.int d5)] (fun t k => XS.iload X18.here hx rfl (hb hby d14_15) rfl k) ?_
  refine gv T18 20 #[sR ya,sI 5,sR yb,sI 5,sI 6,sI 5,sI d5] [(.int 255),(.int d5)] (fun t k => XS.sipush X18.here hx rfl (hb hby d14_17) k) ?_
  refine gv T18 26 #[sR ya,sI 5,sR yb,sI 5,sI 6,sI 5,sI d5] [] (fun t k => XS.icmpYes X18.here hx rfl (pc0 := 20) (pc' := 26) rfl (hb hby d14_20) rfl (flt hd5).2.2.2 (by decide) (by decide) k) ?_
  refine gv T18 27 #[sR ya,sI 5,sR yb,sI 5,sI 6,sI 5,sI d5] [(.ref yb)] (fun t k => XS.aloadN X18.here hx rfl (hb hby d14_26) rfl rfl k) ?_
  refine gv T18 28 #[sR ya,sI 5,sR yb,sI 5,sI 6,sI 5,sI d5] [(.int 5),(.ref yb)] (fun t k => XS.iloadN X18.here hx rfl (hb hby d14_27) rfl k) ?_
  refine gv T18 30 #[sR ya,sI 5,sR yb,sI 5,sI 6,sI 5,sI d5] [(.int d5),(.int 5),(.ref yb)] (fun t k => XS.iload X18.here hx rfl (hb hby d14_28) rfl k) ?_
  refine gv T18 31 #[sR ya,sI 5,sR yb,sI 5,sI 6,sI 5,sI d5] [(.int (d5.toInt8.toInt32)),(.int 5),(.ref yb)] (fun t k => XS.i2b X18.here hx rfl (hb hby d14_30) rfl k) ?_
  obtain ⟨cl22,Ar22,q22,S22,M22,Hs22,G22⟩ := id f20
  have hin22 : ¬ ((5 : Int32) < 0 ∨ cl22.slots.size ≤ ((5 : Int32)).toNatClampNeg) := inb_of S22 ⟨by decide,by decide⟩
  obtain ⟨T22,h22,X22,e22,W22,st22⟩ := stB X18 hx hZ e18 Ar22 (j := (5 : Int32)) hin22 (g := (mkF m 31 #[sR ya,sI 5,sR yb,sI 5,sI 6,sI 5,sI d5] [(.int (d5.toInt8.toInt32)),(.int 5),(.ref yb)])) rfl rfl (hb hby d14_31)
  have f23 := f19.other W22 ne_ya_yb
  have f24 : Arv Z h22 yb kb .byte (6 : Int32) [(.int (nar .byte (d0.toInt8.toInt32))),(.int (nar .byte (d1.toInt8.toInt32))),(.int (nar .byte (d2.toInt8.toInt32))),(.int (nar .byte (d3.toInt8.toInt32))),(.int (nar .byte (d4.toInt8.toInt32))),(.int (nar .byte (d5.toInt8.toInt32)))] (.int 0) := Arv.set Ar22 q22 S22 M22 Hs22 G22 (fits_nar_byte _) W22 5 rfl (Nat.le_of_ble_eq_true rfl)
  have K22 := Keep.wr K18 W22 (Or.inl (List.mem_of_getElem? (i := 0) rfl))
  have Z22 := Nat.le_trans Z0 K22.1
  have N22 := Fr.snoc X22 N18 g_yb
  refine gv T22 32 #[sR ya,sI 5,sR yb,sI 5,sI 6,sI 5,sI d5] [] (fun t k => st22 _ k) ?_
  refine gv T22 35 #[sR ya,sI 6,sR yb,sI 5,sI 6,sI 5,sI d5] [] (fun t k => XS.iinc X22.here hx rfl (hb hby d14_32) rfl (l' := #[sR ya,sI 6,sR yb,sI 5,sI 6,sI 5,sI d5]) rfl k) ?_
  refine gv T22 38 #[sR ya,sI 6,sR yb,sI 6,sI 6,sI 5,sI d5] [] (fun t k => XS.iinc X22.here hx rfl (hb hby d14_35) rfl (l' := #[sR ya,sI 6,sR yb,sI 6,sI 6,sI 5,sI d5]) rfl k) ?_
  refine gv T22 41 #[sR ya,sI 6,sR yb,sI 6,sI 6,sI 6,sI d5] [] (fun t k => XS.iinc X22.here hx rfl (hb hby d14_38) rfl (l' := #[sR ya,sI 6,sR yb,sI 6,sI 6,sI 6,sI d5]) rfl k) ?_
  refine gv T22 3 #[sR ya,sI 6,sR yb,sI 6,sI 6,sI 6,sI d5] [] (fun t k => XS.goto X22.here hx rfl (pc0 := 41) (pc' := 3) rfl (hb hby d14_41) (by decide) (by decide) k) ?_
  refine gv T22 5 #[sR ya,sI 6,sR yb,sI 6,sI 6,sI 6,sI d5] [(.int 6)] (fun t k => XS.iload X22.here hx rfl (hb hby d14_3) rfl k) ?_
  refine gv T22 7 #[sR ya,sI 6,sR yb,sI 6,sI 6,sI 6,sI d5] [(.int 6),(.int 6)] (fun t k => XS.iload X22.here hx rfl (hb hby d14_5) rfl k) ?_
  refine gv T22 44 #[sR ya,sI 6,sR yb,sI 6,sI 6,sI 6,sI d5] [] (fun t k => XS.icmpYes X22.here hx rfl (pc0 := 7) (pc' := 44) rfl (hb hby d14_7) rfl (flt (by decide : ¬ ((6 : Int32) < (6 : Int32)))).2.1 (by decide) (by decide) k) ?_
  refine gv T22 46 #[sR ya,sI 6,sR yb,sI 6,sI 6,sI 6,sI d5] [(.int 6)] (fun t k => XS.iload X22.here hx rfl (hb hby d14_44) rfl k) ?_
  exact own_ret X22 hx Bd.notSynchronized Bd.returns rfl (Or.inl ⟨rfl,by simp,_,rfl⟩) (hb hby d14_46) e22 ⟨rfl,N22,K22,f24⟩ (by decide) (by decide)
theorem ef_136 (m : MethodId) (ya : Addr) : entryFrame m #[(.ref ya), (.int (0 : Int32)), (.int (6 : Int32))] 6 = mkF m 0 #[.val (.ref ya), .val (.int (0 : Int32)), .val (.int (6 : Int32)), .unset, .unset, .unset] [] := by first | (simp [entryFrame, mkF, argsToLocals, Value.category]; done) | rfl
def Q136 (Z : State) (ya : Addr) (ka : ClassId) (d0 : Int32) (d1 : Int32) (d2 : Int32) (d3 : Int32) (d4 : Int32) (d5 : Int32) (h0 : Heap) (n0 : Nat) (v : Option Value) (h : Heap) (L : List Loc) : Prop := ∃ (yb : Addr) (kb : ClassId), v = some (.ref yb) ∧ Fr n0 L ∧ Keep h0 h [] ∧ Arv Z h yb kb .byte (6 : Int32) [(.int (nar .byte (d0.toInt8.toInt32))), (.int (nar .byte (d1.toInt8.toInt32))), (.int (nar .byte (d2.toInt8.toInt32))), (.int (nar .byte (d3.toInt8.toInt32))), (.int (nar .byte (d4.toInt8.toInt32))), (.int (nar .byte (d5.toInt8.toInt32)))] (.int (0 : Int32)) ∧ n0 ≤ yb ∧ h0.size ≤ yb
set_option maxRecDepth 65536 in
set_option maxHeartbeats 40000000 in
theorem rm136 (l : Launch) (Z : State) (a0 : Array Value) (hw : ∀ d ∈ tables_1, d.before a0 Z = true) (ws : List Jvm.Cond) (ya : Addr) (ka : ClassId) (d0 : Int32) (d1 : Int32) (d2 : Int32) (d3 : Int32) (d4 : Int32) (d5 : Int32) (h0 : Heap) (n0 : Nat) (Z0 : n0 ≤ h0.size) (f0_ya : Arv Z h0 ya ka .char (6 : Int32) [(.int d0), (.int d1), (.int d2), (.int d3), (.int d4), (.int d5)] (.int (0 : Int32))) (hd0 : ¬ (255 : Int32) < d0) (hd1 : ¬ (255 : Int32) < d1) (hd2 : ¬ (255 : Int32) < d2) (hd3 : ¬ (255 : Int32) < d3) (hd4 : ¬ (255 : Int32) < d4) (hd5 : ¬ (255 : Int32) < d5) :
    MetFree l (⟨"java/lang/StringUTF16", "compress", "([CII)[B"⟩ : MethodName) (head1 (Jvm.Cond.code (⟨"java/lang/StringUTF16", "compress", "([CII)[B"⟩ : MethodName) jdk_52_method_16_code 6 (some (.array .byte)) :: ws) ({ frames := 1, cells := 1, slots := 6, locals := 18 } : Room)) (fun a U => a = #[(.ref ya), (.int 0), (.int 6)] ∧ Z.Warmed39 U.vm ∧ U.heap = h0) (fun _ _ _ _ _ => True) (fun _ U o U' => ∃ v L, o = .returned v ∧ Q136 Z ya ka d0 d1 d2 d3 d4 d5 h0 n0 v U'.heap L ∧ FrameEnd U o U' L 1 6) := by
  refine MetFree.of_bodySF (plainFor_of_name pn_105) hisR ?_
  intro p e s m args below meth c s₁ Bd hml0 hP hK
  obtain ⟨rfl,hZ,hh⟩ := hP
  have hx := Bd.exec
  have hby := Bd.bytes
  have hml : c.maxLocals = 6 := hml0
  have hown : s.vm.findClass "java/lang/StringUTF16" = some m.cls := findClass_of_methodNamed Bd.named
  have hnm := (name_of_methodNamed Bd.named Bd.method).1
  have X0 : Stand p l e ({ frames := 1,cells := 1,slots := 6,locals := 18 } : Room) s m #[(.ref ya),(.int 0),(.int 6)] below meth c s₁ [] 0 0 := Stand.of_body Bd
  have e0 : s₁.heap = h0 := by rw [← hh,Bd.state]; rfl
  have N0 := Fr.nil n0
  refine own_start (Q := fun v h L => Q136 Z ya ka d0 d1 d2 d3 d4 d5 h0 n0 v h L) ?_
  refine gv s₁ 0 #[sR ya,sI 0,sI 6,sU,sU,sU] [] (fun t k => castTop (ef_136 m ya) k) ?_
  refine gv s₁ 1 #[sR ya,sI 0,sI 6,sU,sU,sU] [(.int 6)] (fun t k => XS.iloadN X0.here hx rfl (hb hby d13_0) rfl k) ?_
  obtain ⟨T1,h1,k1,X1,e1,E1,A1,st1⟩ := newP X0 hx hZ (w_ hw 10 rfl) e0 (g := (mkF m 1 #[sR ya,sI 0,sI 6,sU,sU,sU] [(.int 6)])) rfl (hb hby d13_1) rfl (by decide) (cap := 6) (by decide) (by decide) (by decide) (by decide)
  obtain ⟨b1,g1⟩ : ∃ z,z = h0.size := ⟨_,rfl⟩
  rw [← g1] at A1 st1
  have f2 := f0_ya.ext E1
  have K1 := Keep.ext (Keep.refl h0 []) E1
  have Z1 := Nat.le_trans Z0 K1.1
  have g_b1 : n0 ≤ b1 := Nat.le_trans Z0 (Nat.le_of_eq g1.symm)
  have sz_b1 : h0.size ≤ b1 := Nat.le_trans ((Keep.refl h0 [])).1 (Nat.le_of_eq g1.symm)
  have ne_ya_b1 : ya ≠ b1 := Nat.ne_of_lt (Nat.lt_of_lt_of_le f0_ya.lt (Nat.le_of_eq g1.symm))
  have f3 : Arv Z h1 b1 k1 .byte (6 : Int32) [(.int 0),(.int 0),(.int 0),(.int 0),(.int 0),(.int 0)] (.int 0) := (Arv.new A1 (by decide)).pad (pad_rep [] (.int 0) 6)
  refine gv T1 3 #[sR ya,sI 0,sI 6,sU,sU,sU] [(.ref b1)] (fun t k => st1 _ k) ?_
  refine gv T1 4 #[sR ya,sI 0,sI 6,sR b1,sU,sU] [] (fun t k => XS.astoreN X1.here hx rfl (hb hby d13_3) rfl rfl (l' := #[sR ya,sI 0,sI 6,sR b1,sU,sU]) rfl k) ?_
  refine gv T1 5 #[sR ya,sI 0,sI 6,sR b1,sU,sU] [(.ref ya)] (fun t k => XS.aloadN X1.here hx rfl (hb hby d13_4) rfl rfl k) ?_
  refine gv T1 6 #[sR ya,sI 0,sI 6,sR b1,sU,sU] [(.int 0),(.ref ya)] (fun t k => XS.iloadN X1.here hx rfl (hb hby d13_5) rfl k) ?_
  refine gv T1 7 #[sR ya,sI 0,sI 6,sR b1,sU,sU] [(.ref b1),(.int 0),(.ref ya)] (fun t k => XS.aloadN X1.here hx rfl (hb hby d13_6) rfl rfl k) ?_
  refine gv T1 8 #[sR ya,sI 0,sI 6,sR b1,sU,sU] [(.int 0),(.ref b1),(.int 0),(.ref ya)] (fun t k => XS.iconst X1.here hx rfl (hb hby d13_7) k) ?_
  refine gv T1 9 #[sR ya,sI 0,sI 6,sR b1,sU,sU] [(.int 6),(.int 0),(.ref b1),(.int 0),(.ref ya)] (fun t k => XS.iloadN X1.here hx rfl (hb hby d13_8) rfl k) ?_
  obtain ⟨_,_,⟨T4,L4,k4,n4⟩,-,X4,⟨Lc4,hQ4,l4,y4,z4⟩,st4⟩ := Jvm.LawKit.callS X1 hx (y := (⟨"java/lang/StringUTF16","compress","([CI[BII)I"⟩ : MethodName)) hown (mvT hZ (w_ hw 66 rfl)) (mvT hZ (w_ hw 67 rfl)) (mvT hZ (w_ hw 64 rfl)) (mvT hZ (w_ hw 68 rfl)) (by decide) (backOf (W := 0) (rm146 l Z a0 hw [] ya b1 ka k1 d0 d1 d2 d3 d4 d5 h1 n0 Z1 f2 f3 ne_ya_b1 g_b1 hd0 hd1 hd2 hd3 hd4 hd5) hZ (w_ hw 68 rfl) (w_ hw 64 rfl) (by decide) (by decide)) (g := (mkF m 9 #[sR ya,sI 0,sI 6,sR b1,sU,sU] [(.int 6),(.int 0),(.ref b1),(.int 0),(.ref ya)])) rfl (by rw [hml]; rfl) (argsL := [(.ref ya),(.int 0),(.ref b1),(.int 0),(.int 6)]) (rest := []) (lenOf pd_8 rfl) rfl (own_rm rfl) (hb hby d13_9) (fun _ _ => ⟨rfl,e1,(by decide : 1 + 0 ≤ _),(by decide : 6 + 0 ≤ _)⟩)
  dsimp only [Pt.U, Pt.locs, Pt.cells, Pt.slots] at X4 l4 y4 z4 st4 hQ4
  replace X4 := own_cast X4 l4 y4 z4
  obtain ⟨rfl,N4q,K4q,po4_0⟩ := hQ4
  have N4 := Fr.app N0 N4q
  have f5 := f2.keep K4q (ninS ne_ya_b1 nin0)
  have K4 := Keep.trans K1 K4q (allS (Or.inr sz_b1) all0)
  have Z4 := Nat.le_trans Z0 K4.1
  refine gv T4 12 #[sR ya,sI 0,sI 6,sR b1,sU,sU] [(.int 6)] (fun t k => st4 _ k) ?_
  refine gv T4 14 #[sR ya,sI 0,sI 6,sR b1,sI 6,sU] [] (fun t k => XS.istore X4.here hx rfl (hb hby d13_12) rfl (l' := #[sR ya,sI 0,sI 6,sR b1,sI 6,sU]) rfl k) ?_
  refine gv T4 16 #[sR ya,sI 0,sI 6,sR b1,sI 6,sU] [(.int 6)] (fun t k => XS.iload X4.here hx rfl (hb hby d13_14) rfl k) ?_
  refine gv T4 17 #[sR ya,sI 0,sI 6,sR b1,sI 6,sU] [(.int 6),(.int 6)] (fun t k => XS.iloadN X4.here hx rfl (hb hby d13_16) rfl k) ?_
  refine gv T4 57 #[sR ya,sI 0,sI 6,sR b1,sI 6,sU] [] (fun t k => XS.icmpYes X4.here hx rfl (pc0 := 17) (pc' := 57) rfl (hb hby d13_17) rfl (teq rfl).1 (by decide) (by decide) k) ?_
  refine gv T4 58 #[sR ya,sI 0,sI 6,sR b1,sI 6,sU] [(.ref b1)] (fun t k => XS.aloadN X4.here hx rfl (hb hby d13_57) rfl rfl k) ?_
  exact own_ret X4 hx Bd.notSynchronized Bd.returns rfl (Or.inr (Or.inr (Or.inr (Or.inr ⟨rfl,rfl,rfl⟩)))) (hb hby d13_58) rfl ⟨b1,k1,rfl,N4,K4,po4_0,g_b1,sz_b1⟩ (by decide) (by decide)
theorem ef_116 (m : MethodId) (xs : Addr) (ya : Addr) : entryFrame m #[(.ref xs), (.ref ya), (.int (0 : Int32)), (.int (6 : Int32)), .null] 6 = mkF m 0 #[.val (.ref xs), .val (.ref ya), .val (.int (0 : Int32)), .val (.int (6 : Int32)), .val .null, .unset] [] := by first | (simp [entryFrame, mkF, argsToLocals, Value.category]; done) | rfl
def Q116 (Z : State) (xs : Addr) (ya : Addr) (ka : ClassId) (wc : Int32) (u0 : Value) (u1 : Value) (d0 : Int32) (d1 : Int32) (d2 : Int32) (d3 : Int32) (d4 : Int32) (d5 : Int32) (h0 : Heap) (n0 : Nat) (v : Option Value) (h : Heap) (L : List Loc) : Prop := ∃ (yb : Addr) (kb : ClassId), v = none ∧ Fr n0 L ∧ Keep h0 h [xs] ∧ Exa Z h xs "java/lang/String" ∧ Fld Z h xs "java/lang/String" "coder" "B" (.int (0 : Int32)) ∧ Fld Z h xs "java/lang/String" "value" "[B" (.ref yb) ∧ Arv Z h yb kb .byte (6 : Int32) [(.int (nar .byte (d0.toInt8.toInt32))), (.int (nar .byte (d1.toInt8.toInt32))), (.int (nar .byte (d2.toInt8.toInt32))), (.int (nar .byte (d3.toInt8.toInt32))), (.int (nar .byte (d4.toInt8.toInt32))), (.int (nar .byte (d5.toInt8.toInt32)))] (.int (0 : Int32)) ∧ n0 ≤ yb ∧ h0.size ≤ yb
set_option maxRecDepth 65536 in
set_option maxHeartbeats 40000000 in
theorem rm116 (l : Launch) (Z : State) (a0 : Array Value) (hw : ∀ d ∈ tables_1, d.before a0 Z = true) (ws : List Jvm.Cond) (xs : Addr) (ya : Addr) (ka : ClassId) (wc : Int32) (u0 : Value) (u1 : Value) (d0 : Int32) (d1 : Int32) (d2 : Int32) (d3 : Int32) (d4 : Int32) (d5 : Int32) (h0 : Heap) (n0 : Nat) (Z0 : n0 ≤ h0.size) (f0_xs : Exa Z h0 xs "java/lang/String") (f1_xs_coder : Fld Z h0 xs "java/lang/String" "coder" "B" u0) (f2_xs_value : Fld Z h0 xs "java/lang/String" "value" "[B" u1) (f3_ya : Arv Z h0 ya ka .char (6 : Int32) [(.int d0), (.int d1), (.int d2), (.int d3), (.int d4), (.int d5)] (.int (0 : Int32))) (f4_COMPACT_STRINGS : Sta Z h0 "java/lang/String" "COMPACT_STRINGS" "Z" (.int wc)) (ne_xs_ya : xs ≠ ya) (g_xs : n0 ≤ xs) (hd0 : ¬ (255 : Int32) < d0) (hd1 : ¬ (255 : Int32) < d1) (hd2 : ¬ (255 : Int32) < d2) (hd3 : ¬ (255 : Int32) < d3) (hd4 : ¬ (255 : Int32) < d4) (hd5 : ¬ (255 : Int32) < d5) (hwc : ¬ wc = (0 : Int32)) :
    MetFree l (⟨"java/lang/String", "<init>", "([CIILjava/lang/Void;)V"⟩ : MethodName) (head1 (Jvm.Cond.code (⟨"java/lang/String", "<init>", "([CIILjava/lang/Void;)V"⟩ : MethodName) jdk_42_method_149_code 6 none :: ws) ({ frames := 2, cells := 1, slots := 6, locals := 35 } : Room)) (fun a U => a = #[(.ref xs), (.ref ya), (.int 0), (.int 6), .null] ∧ Z.Warmed39 U.vm ∧ U.heap = h0) (fun _ _ _ _ _ => True) (fun _ U o U' => ∃ v L, o = .returned v ∧ Q116 Z xs ya ka wc u0 u1 d0 d1 d2 d3 d4 d5 h0 n0 v U'.heap L ∧ FrameEnd U o U' L 1 6) := by
  refine MetFree.of_bodySF (plainFor_of_name pn_6) hisR ?_
  intro p e s m args below meth c s₁ Bd hml0 hP hK
  obtain ⟨rfl,hZ,hh⟩ := hP
  have hx := Bd.exec
  have hby := Bd.bytes
  have hml : c.maxLocals = 6 := hml0
  have hown : s.vm.findClass "java/lang/String" = some m.cls := findClass_of_methodNamed Bd.named
  have hnm := (name_of_methodNamed Bd.named Bd.method).1
  have X0 : Stand p l e ({ frames := 2,cells := 1,slots := 6,locals := 35 } : Room) s m #[(.ref xs),(.ref ya),(.int 0),(.int 6),.null] below meth c s₁ [] 0 0 := Stand.of_body Bd
  have e0 : s₁.heap = h0 := by rw [← hh,Bd.state]; rfl
  have N0 := Fr.nil n0
  refine own_start (Q := fun v h L => Q116 Z xs ya ka wc u0 u1 d0 d1 d2 d3 d4 d5 h0 n0 v h L) ?_
  refine gv s₁ 0 #[sR xs,sR ya,sI 0,sI 6,.val .null,sU] [] (fun t k => castTop (ef_116 m xs ya) k) ?_
  refine gv s₁ 1 #[sR xs,sR ya,sI 0,sI 6,.val .null,sU] [(.ref xs)] (fun t k => XS.aloadN X0.here hx rfl (hb hby d11_0) rfl rfl k) ?_
  obtain ⟨T1,X1,e1,st1⟩ := initO X0 hx hZ hown (w_ hw 59 rfl) (w_ hw 60 rfl) (w_ hw 61 rfl) e0 (g := (mkF m 1 #[sR xs,sR ya,sI 0,sI 6,.val .null,sU] [(.ref xs)])) rfl (by rw [hml]; rfl) rfl (hb hby d11_1) (by decide) (W := 0) (own_rm rfl) (by decide)
  refine gv T1 4 #[sR xs,sR ya,sI 0,sI 6,.val .null,sU] [] (fun t k => st1 _ k) ?_
  refine gv T1 5 #[sR xs,sR ya,sI 0,sI 6,.val .null,sU] [(.int 6)] (fun t k => XS.iloadN X1.here hx rfl (hb hby d11_4) rfl k) ?_
  refine gv T1 27 #[sR xs,sR ya,sI 0,sI 6,.val .null,sU] [] (fun t k => XS.ifYes X1.here hx rfl (pc0 := 5) (pc' := 27) rfl (hb hby d11_5) rfl ((if0 _ _).trans (feq (by decide : ¬ ((6 : Int32) = (0 : Int32)))).2) (by decide) (by decide) k) ?_
  obtain ⟨T2,X2,e2,st2⟩ := getS2 X1 hx hZ hown (host := "") (Or.inl (w_ hw 26 rfl)) Via.refl e1 f4_COMPACT_STRINGS (g := (mkF m 27 #[sR xs,sR ya,sI 0,sI 6,.val .null,sU] [])) rfl (hb hby d11_27)
  refine gv T2 30 #[sR xs,sR ya,sI 0,sI 6,.val .null,sU] [(.int wc)] (fun t k => st2 _ k) ?_
  refine gv T2 33 #[sR xs,sR ya,sI 0,sI 6,.val .null,sU] [] (fun t k => XS.ifNo X2.here hx rfl (hb hby d11_30) rfl ((if0 _ _).trans (feq hwc).1) k) ?_
  refine gv T2 34 #[sR xs,sR ya,sI 0,sI 6,.val .null,sU] [(.ref ya)] (fun t k => XS.aloadN X2.here hx rfl (hb hby d11_33) rfl rfl k) ?_
  refine gv T2 35 #[sR xs,sR ya,sI 0,sI 6,.val .null,sU] [(.int 0),(.ref ya)] (fun t k => XS.iloadN X2.here hx rfl (hb hby d11_34) rfl k) ?_
  refine gv T2 36 #[sR xs,sR ya,sI 0,sI 6,.val .null,sU] [(.int 6),(.int 0),(.ref ya)] (fun t k => XS.iloadN X2.here hx rfl (hb hby d11_35) rfl k) ?_
  obtain ⟨_,_,⟨T3,L3,k3,n3⟩,-,X3,⟨Lc3,hQ3,l3,y3,z3⟩,st3⟩ := Jvm.LawKit.callS X2 hx (y := (⟨"java/lang/StringUTF16","compress","([CII)[B"⟩ : MethodName)) hown (mvT hZ (w_ hw 62 rfl)) (mvT hZ (w_ hw 63 rfl)) (mvT hZ (w_ hw 64 rfl)) (mvT hZ (w_ hw 65 rfl)) (by decide) (backOf (W := 0) (rm136 l Z a0 hw [] ya ka d0 d1 d2 d3 d4 d5 h0 n0 Z0 f3_ya hd0 hd1 hd2 hd3 hd4 hd5) hZ (w_ hw 65 rfl) (w_ hw 64 rfl) (by decide) (by decide)) (g := (mkF m 36 #[sR xs,sR ya,sI 0,sI 6,.val .null,sU] [(.int 6),(.int 0),(.ref ya)])) rfl (by rw [hml]; rfl) (argsL := [(.ref ya),(.int 0),(.int 6)]) (rest := []) (lenOf pd_9 rfl) rfl (own_rm rfl) (hb hby d11_36) (fun _ _ => ⟨rfl,e2,(by decide : 0 + 1 ≤ _),(by decide : 0 + 6 ≤ _)⟩)
  dsimp only [Pt.U, Pt.locs, Pt.cells, Pt.slots] at X3 l3 y3 z3 st3 hQ3
  replace X3 := own_cast X3 l3 y3 z3
  obtain ⟨yb_3,kb_3,rfl,N3q,K3q,po3_0,px3_g_yb,px3_sz_yb⟩ := hQ3
  have N3 := Fr.app N0 N3q
  have f4 := f0_xs.keep K3q
  have f5 := f1_xs_coder.keep K3q nin0
  have f6 := f2_xs_value.keep K3q nin0
  have f7 := f3_ya.keep K3q nin0
  have f8 : Sta Z T3.heap "java/lang/String" "COMPACT_STRINGS" "Z" (.int wc) := own_staKeep f4_COMPACT_STRINGS K3q all0
  have K3 := Keep.trans (Keep.refl h0 [xs]) K3q all0
  have Z3 := Nat.le_trans Z0 K3.1
  have g_yb_3 := px3_g_yb
  have sz_yb_3 : h0.size ≤ yb_3 := Nat.le_trans ((Keep.refl h0 [xs])).1 px3_sz_yb
  have ne_xs_yb_3 : xs ≠ yb_3 := Nat.ne_of_lt (Nat.lt_of_lt_of_le f0_xs.lt px3_sz_yb)
  have ne_ya_yb_3 : ya ≠ yb_3 := Nat.ne_of_lt (Nat.lt_of_lt_of_le f3_ya.lt px3_sz_yb)
  refine gv T3 39 #[sR xs,sR ya,sI 0,sI 6,.val .null,sU] [(.ref yb_3)] (fun t k => st3 _ k) ?_
  refine gv T3 41 #[sR xs,sR ya,sI 0,sI 6,.val .null,sR yb_3] [] (fun t k => XS.astore X3.here hx rfl (hb hby d11_39) rfl rfl (l' := #[sR xs,sR ya,sI 0,sI 6,.val .null,sR yb_3]) rfl k) ?_
  refine gv T3 42 #[sR xs,sR ya,sI 0,sI 6,.val .null,sR yb_3] [(.ref xs)] (fun t k => XS.aloadN X3.here hx rfl (hb hby d11_41) rfl rfl k) ?_
  refine gv T3 44 #[sR xs,sR ya,sI 0,sI 6,.val .null,sR yb_3] [(.ref yb_3),(.ref xs)] (fun t k => XS.aload X3.here hx rfl (hb hby d11_42) rfl rfl k) ?_
  refine gv T3 45 #[sR xs,sR ya,sI 0,sI 6,.val .null,sR yb_3] [(.int 6),(.ref yb_3),(.ref xs)] (fun t k => XS.iloadN X3.here hx rfl (hb hby d11_44) rfl k) ?_
  obtain ⟨_,_,⟨T9,L9,k9,n9⟩,-,X9,⟨Lc9,hQ9,l9,y9,z9⟩,st9⟩ := Jvm.LawKit.callS X3 hx (y := (⟨"java/lang/StringUTF16","coderFromArrayLen","([BI)B"⟩ : MethodName)) hown (mvT hZ (w_ hw 69 rfl)) (mvT hZ (w_ hw 70 rfl)) (mvT hZ (w_ hw 64 rfl)) (mvT hZ (w_ hw 71 rfl)) (by decide) (backOf (W := 1) (rm156 l Z a0 hw [] yb_3 kb_3 ([(.int (nar .byte (d0.toInt8.toInt32))),(.int (nar .byte (d1.toInt8.toInt32))),(.int (nar .byte (d2.toInt8.toInt32))),(.int (nar .byte (d3.toInt8.toInt32))),(.int (nar .byte (d4.toInt8.toInt32))),(.int (nar .byte (d5.toInt8.toInt32)))] : List Value) T3.heap n0 Z3 po3_0) hZ (w_ hw 71 rfl) (w_ hw 64 rfl) (by decide) (by decide)) (g := (mkF m 45 #[sR xs,sR ya,sI 0,sI 6,.val .null,sR yb_3] [(.int 6),(.ref yb_3),(.ref xs)])) rfl (by rw [hml]; rfl) (argsL := [(.ref yb_3),(.int 6)]) (rest := [(.ref xs)]) (lenOf pd_10 rfl) rfl (own_rm rfl) (hb hby d11_45) (fun _ _ => ⟨rfl,rfl,(by decide : 1 + 0 ≤ _),(by decide : 6 + 0 ≤ _)⟩)
  dsimp only [Pt.U, Pt.locs, Pt.cells, Pt.slots] at X9 l9 y9 z9 st9 hQ9
  replace X9 := own_cast X9 l9 y9 z9
  obtain ⟨rfl,N9q,eq9⟩ := hQ9
  have N9 := Fr.app N3 N9q
  refine gv T9 48 #[sR xs,sR ya,sI 0,sI 6,.val .null,sR yb_3] [(.int 0),(.ref xs)] (fun t k => st9 _ k) ?_
  obtain ⟨T10,h10,X10,e10,W10,st10⟩ := putFN X9 hx hZ hown (w_ hw 27 rfl) Via.refl eq9 f5 f4 (Or.inr ⟨(w_ hw 12 rfl),rfl,hnm⟩) (w_ hw 9 rfl) (ty := .byte) (v' := (.int 0)) (by decide) rfl rfl (g := (mkF m 48 #[sR xs,sR ya,sI 0,sI 6,.val .null,sR yb_3] [(.int 0),(.ref xs)])) rfl rfl (hb hby d11_48)
  have f11 := f4.wr W10
  have f12 := f6.other W10 (Or.inr (slot_ne (Or.inr (w_ hw 11 rfl)) (Or.inr (w_ hw 12 rfl)) (by decide) (t := (.array .byte)) (t' := .byte) (by decide) (by decide)))
  have f13 := f7.other W10 (Ne.symm ne_xs_ya)
  have f14 := f8.wr W10
  have f15 := po3_0.other W10 (Ne.symm ne_xs_yb_3)
  have f16 : Fld Z h10 xs "java/lang/String" "coder" "B" (.int 0) := f5.same W10
  have K10 := Keep.wr K3 W10 (Or.inl (List.mem_of_getElem? (i := 0) rfl))
  have Z10 := Nat.le_trans Z0 K10.1
  have N10 := Fr.snoc X10 N9 g_xs
  refine gv T10 51 #[sR xs,sR ya,sI 0,sI 6,.val .null,sR yb_3] [] (fun t k => st10 _ k) ?_
  refine gv T10 52 #[sR xs,sR ya,sI 0,sI 6,.val .null,sR yb_3] [(.ref xs)] (fun t k => XS.aloadN X10.here hx rfl (hb hby d11_51) rfl rfl k) ?_
  refine gv T10 54 #[sR xs,sR ya,sI 0,sI 6,.val .null,sR yb_3] [(.ref yb_3),(.ref xs)] (fun t k => XS.aload X10.here hx rfl (hb hby d11_52) rfl rfl k) ?_
  obtain ⟨T17,h17,X17,e17,W17,st17⟩ := putF X10 hx hZ hown (host := "") (Or.inl (w_ hw 20 rfl)) Via.refl e10 f12 f11 (Or.inr ⟨(w_ hw 11 rfl),rfl,hnm⟩) (w_ hw 9 rfl) (ty := (.array .byte)) (by decide) rfl rfl (g := (mkF m 54 #[sR xs,sR ya,sI 0,sI 6,.val .null,sR yb_3] [(.ref yb_3),(.ref xs)])) rfl rfl (hb hby d11_54)
  have f18 := f11.wr W17
  have f19 := f13.other W17 (Ne.symm ne_xs_ya)
  have f20 := f14.wr W17
  have f21 := f15.other W17 (Ne.symm ne_xs_yb_3)
  have f22 := f16.other W17 (Or.inr (slot_ne (Or.inr (w_ hw 12 rfl)) (Or.inr (w_ hw 11 rfl)) (by decide) (t := .byte) (t' := (.array .byte)) (by decide) (by decide)))
  have f23 : Fld Z h17 xs "java/lang/String" "value" "[B" (.ref yb_3) := f12.same W17
  have K17 := Keep.wr K10 W17 (Or.inl (List.mem_of_getElem? (i := 0) rfl))
  have Z17 := Nat.le_trans Z0 K17.1
  have N17 := Fr.snoc X17 N10 g_xs
  refine gv T17 57 #[sR xs,sR ya,sI 0,sI 6,.val .null,sR yb_3] [] (fun t k => st17 _ k) ?_
  exact own_retV X17 hx Bd.notSynchronized Bd.returns (hb hby d11_57) e17 ⟨yb_3,kb_3,rfl,N17,K17,f18,f22,f23,f21,g_yb_3,sz_yb_3⟩ (by decide) (by decide)
theorem ef_106 (m : MethodId) (xs : Addr) (ya : Addr) : entryFrame m #[(.ref xs), (.ref ya)] 2 = mkF m 0 #[.val (.ref xs), .val (.ref ya)] [] := by first | (simp [entryFrame, mkF, argsToLocals, Value.category]; done) | rfl
def Q106 (Z : State) (xs : Addr) (ya : Addr) (ka : ClassId) (wc : Int32) (u0 : Value) (u1 : Value) (d0 : Int32) (d1 : Int32) (d2 : Int32) (d3 : Int32) (d4 : Int32) (d5 : Int32) (h0 : Heap) (n0 : Nat) (v : Option Value) (h : Heap) (L : List Loc) : Prop := ∃ (yb : Addr) (kb : ClassId), v = none ∧ Fr n0 L ∧ Keep h0 h [xs] ∧ Exa Z h xs "java/lang/String" ∧ Fld Z h xs "java/lang/String" "coder" "B" (.int (0 : Int32)) ∧ Fld Z h xs "java/lang/String" "value" "[B" (.ref yb) ∧ Arv Z h yb kb .byte (6 : Int32) [(.int (nar .byte (d0.toInt8.toInt32))), (.int (nar .byte (d1.toInt8.toInt32))), (.int (nar .byte (d2.toInt8.toInt32))), (.int (nar .byte (d3.toInt8.toInt32))), (.int (nar .byte (d4.toInt8.toInt32))), (.int (nar .byte (d5.toInt8.toInt32)))] (.int (0 : Int32)) ∧ n0 ≤ yb ∧ h0.size ≤ yb
set_option maxRecDepth 65536 in
set_option maxHeartbeats 40000000 in
theorem rm106 (l : Launch) (Z : State) (a0 : Array Value) (hw : ∀ d ∈ tables_1, d.before a0 Z = true) (ws : List Jvm.Cond) (xs : Addr) (ya : Addr) (ka : ClassId) (wc : Int32) (u0 : Value) (u1 : Value) (d0 : Int32) (d1 : Int32) (d2 : Int32) (d3 : Int32) (d4 : Int32) (d5 : Int32) (h0 : Heap) (n0 : Nat) (Z0 : n0 ≤ h0.size) (f0_xs : Exa Z h0 xs "java/lang/String") (f1_xs_coder : Fld Z h0 xs "java/lang/String" "coder" "B" u0) (f2_xs_value : Fld Z h0 xs "java/lang/String" "value" "[B" u1) (f3_ya : Arv Z h0 ya ka .char (6 : Int32) [(.int d0), (.int d1), (.int d2), (.int d3), (.int d4), (.int d5)] (.int (0 : Int32))) (f4_COMPACT_STRINGS : Sta Z h0 "java/lang/String" "COMPACT_STRINGS" "Z" (.int wc)) (ne_xs_ya : xs ≠ ya) (g_xs : n0 ≤ xs) (hd0 : ¬ (255 : Int32) < d0) (hd1 : ¬ (255 : Int32) < d1) (hd2 : ¬ (255 : Int32) < d2) (hd3 : ¬ (255 : Int32) < d3) (hd4 : ¬ (255 : Int32) < d4) (hd5 : ¬ (255 : Int32) < d5) (hwc : ¬ wc = (0 : Int32)) :
    MetFree l (⟨"java/lang/String", "<init>", "([C)V"⟩ : MethodName) (head1 (Jvm.Cond.code (⟨"java/lang/String", "<init>", "([C)V"⟩ : MethodName) jdk_42_method_3_code 2 none :: ws) ({ frames := 3, cells := 1, slots := 6, locals := 52 } : Room)) (fun a U => a = #[(.ref xs), (.ref ya)] ∧ Z.Warmed39 U.vm ∧ U.heap = h0) (fun _ _ _ _ _ => True) (fun _ U o U' => ∃ v L, o = .returned v ∧ Q106 Z xs ya ka wc u0 u1 d0 d1 d2 d3 d4 d5 h0 n0 v U'.heap L ∧ FrameEnd U o U' L 1 6) := by
  refine MetFree.of_bodySF (plainFor_of_name pn_6) hisR ?_
  intro p e s m args below meth c s₁ Bd hml0 hP hK
  obtain ⟨rfl,hZ,hh⟩ := hP
  have hx := Bd.exec
  have hby := Bd.bytes
  have hml : c.maxLocals = 2 := hml0
  have hown : s.vm.findClass "java/lang/String" = some m.cls := findClass_of_methodNamed Bd.named
  have hnm := (name_of_methodNamed Bd.named Bd.method).1
  have X0 : Stand p l e ({ frames := 3,cells := 1,slots := 6,locals := 52 } : Room) s m #[(.ref xs),(.ref ya)] below meth c s₁ [] 0 0 := Stand.of_body Bd
  have e0 : s₁.heap = h0 := by rw [← hh,Bd.state]; rfl
  have N0 := Fr.nil n0
  refine own_start (Q := fun v h L => Q106 Z xs ya ka wc u0 u1 d0 d1 d2 d3 d4 d5 h0 n0 v h L) ?_
  refine gv s₁ 0 #[sR xs,sR ya] [] (fun t k => castTop (ef_106 m xs ya) k) ?_
  refine gv s₁ 1 #[sR xs,sR ya] [(.ref xs)] (fun t k => XS.aloadN X0.here hx rfl (hb hby d10_0) rfl rfl k) ?_
  refine gv s₁ 2 #[sR xs,sR ya] [(.ref ya),(.ref xs)] (fun t k => XS.aloadN X0.here hx rfl (hb hby d10_1) rfl rfl k) ?_
  refine gv s₁ 3 #[sR xs,sR ya] [(.int 0),(.ref ya),(.ref xs)] (fun t k => XS.iconst X0.here hx rfl (hb hby d10_2) k) ?_
  refine gv s₁ 4 #[sR xs,sR ya] [(.ref ya),(.int 0),(.ref ya),(.ref xs)] (fun t k => XS.aloadN X0.here hx rfl (hb hby d10_3) rfl rfl k) ?_
  obtain ⟨cl1,Ar1,q1,S1,M1,Hs1,G1⟩ := id f3_ya
  refine gv s₁ 5 #[sR xs,sR ya] [(.int 6),(.int 0),(.ref ya),(.ref xs)] (fun t k => X0.arraylength hx (by rw [e0]; exact Ar1.1) (State.isArrayOf_alike hZ.alike Ar1.2.1) (g := (mkF m 4 #[sR xs,sR ya] [(.ref ya),(.int 0),(.ref ya),(.ref xs)])) rfl rfl (hb hby d10_4) _ (by rw [len_of S1 M1]; exact k)) ?_
  refine gv s₁ 6 #[sR xs,sR ya] [.null,(.int 6),(.int 0),(.ref ya),(.ref xs)] (fun t k => XS.aconstNull X0.here hx rfl (hb hby d10_5) k) ?_
  obtain ⟨_,_,⟨T2,L2,k2,n2⟩,-,X2,⟨Lc2,hQ2,l2,y2,z2⟩,st2⟩ := X0.specialBack hx (y := (⟨"java/lang/String","<init>","([CIILjava/lang/Void;)V"⟩ : MethodName)) rfl hown (mvT hZ (w_ hw 55 rfl)) (mvT hZ (w_ hw 56 rfl)) (mvT hZ (w_ hw 58 rfl)) (by decide) (backOf (W := 0) (rm116 l Z a0 hw [] xs ya ka wc u0 u1 d0 d1 d2 d3 d4 d5 h0 n0 Z0 f0_xs f1_xs_coder f2_xs_value f3_ya f4_COMPACT_STRINGS ne_xs_ya g_xs hd0 hd1 hd2 hd3 hd4 hd5 hwc) hZ (w_ hw 58 rfl) (w_ hw 8 rfl) (by decide) (by decide)) (g := (mkF m 6 #[sR xs,sR ya] [.null,(.int 6),(.int 0),(.ref ya),(.ref xs)])) rfl (by rw [hml]; rfl) (Steps.refl _) (a := xs) (argsL := [(.ref ya),(.int 0),(.int 6),.null]) (rest := []) (lenOf pd_11 rfl) rfl (own_rm rfl) (hb hby d10_6) (fun _ _ => ⟨rfl,e0,(by decide : 0 + 1 ≤ _),(by decide : 0 + 6 ≤ _)⟩)
  dsimp only [Pt.U, Pt.locs, Pt.cells, Pt.slots] at X2 l2 y2 z2 st2 hQ2
  replace X2 := own_cast X2 l2 y2 z2
  obtain ⟨yb_2,kb_2,rfl,N2q,K2q,po2_0,po2_1,po2_2,po2_3,px2_g_yb,px2_sz_yb⟩ := hQ2
  have N2 := Fr.app N0 N2q
  have f3 := f0_xs.keep K2q
  have f4 := f3_ya.keep K2q (ninS (Ne.symm ne_xs_ya) nin0)
  have f5 : Sta Z T2.heap "java/lang/String" "COMPACT_STRINGS" "Z" (.int wc) := own_staKeep f4_COMPACT_STRINGS K2q (allS (own_nst f0_xs) all0)
  have K2 := Keep.trans (Keep.refl h0 [xs]) K2q (allS (Or.inl (List.mem_of_getElem? (i := 0) rfl)) all0)
  have Z2 := Nat.le_trans Z0 K2.1
  have g_yb_2 := px2_g_yb
  have sz_yb_2 : h0.size ≤ yb_2 := Nat.le_trans ((Keep.refl h0 [xs])).1 px2_sz_yb
  have ne_xs_yb_2 : xs ≠ yb_2 := Nat.ne_of_lt (Nat.lt_of_lt_of_le f0_xs.lt px2_sz_yb)
  have ne_ya_yb_2 : ya ≠ yb_2 := Nat.ne_of_lt (Nat.lt_of_lt_of_le f3_ya.lt px2_sz_yb)
  refine gv T2 9 #[sR xs,sR ya] [] (fun t k => st2.trans k) ?_
  exact own_retV X2 hx Bd.notSynchronized Bd.returns (hb hby d10_9) rfl ⟨yb_2,kb_2,rfl,N2,K2,po2_0,po2_1,po2_2,po2_3,g_yb_2,sz_yb_2⟩ (by decide) (by decide)
theorem ef_157 (m : MethodId) (ya : Addr) : entryFrame m #[(.ref ya), (.int (7 : Int32))] 2 = mkF m 0 #[.val (.ref ya), .val (.int (7 : Int32))] [] := by first | (simp [entryFrame, mkF, argsToLocals, Value.category]; done) | rfl
def Q157 (Z : State) (ya : Addr) (ka : ClassId) (vs : List Value) (h0 : Heap) (n0 : Nat) (v : Option Value) (h : Heap) (L : List Loc) : Prop := v = some (.int (0 : Int32)) ∧ Fr n0 L ∧ h = h0
set_option maxRecDepth 65536 in
set_option maxHeartbeats 40000000 in
theorem rm157 (l : Launch) (Z : State) (a0 : Array Value) (hw : ∀ d ∈ tables_1, d.before a0 Z = true) (ws : List Jvm.Cond) (ya : Addr) (ka : ClassId) (vs : List Value) (h0 : Heap) (n0 : Nat) (Z0 : n0 ≤ h0.size) (f0_ya : Arv Z h0 ya ka .byte (7 : Int32) vs (.int (0 : Int32))) :
    MetFree l (⟨"java/lang/StringUTF16", "coderFromArrayLen", "([BI)B"⟩ : MethodName) (head1 (Jvm.Cond.code (⟨"java/lang/StringUTF16", "coderFromArrayLen", "([BI)B"⟩ : MethodName) jdk_52_method_15_code 2 (some .byte) :: ws) ({ frames := 0, cells := 0, slots := 0, locals := 0 } : Room)) (fun a U => a = #[(.ref ya), (.int 7)] ∧ Z.Warmed39 U.vm ∧ U.heap = h0) (fun _ _ _ _ _ => True) (fun _ U o U' => ∃ v L, o = .returned v ∧ Q157 Z ya ka vs h0 n0 v U'.heap L ∧ FrameEnd U o U' L 0 0) := by
  refine MetFree.of_bodySF (plainFor_of_name pn_105) hisR ?_
  intro p e s m args below meth c s₁ Bd hml0 hP hK
  obtain ⟨rfl,hZ,hh⟩ := hP
  have hx := Bd.exec
  have hby := Bd.bytes
  have hml : c.maxLocals = 2 := hml0
  have hown : s.vm.findClass "java/lang/StringUTF16" = some m.cls := findClass_of_methodNamed Bd.named
  have hnm := (name_of_methodNamed Bd.named Bd.method).1
  have X0 : Stand p l e ({ frames := 0,cells := 0,slots := 0,locals := 0 } : Room) s m #[(.ref ya),(.int 7)] below meth c s₁ [] 0 0 := Stand.of_body Bd
  have e0 : s₁.heap = h0 := by rw [← hh,Bd.state]; rfl
  have N0 := Fr.nil n0
  refine own_start (Q := fun v h L => Q157 Z ya ka vs h0 n0 v h L) ?_
  refine gv s₁ 0 #[sR ya,sI 7] [] (fun t k => castTop (ef_157 m ya) k) ?_
  refine gv s₁ 1 #[sR ya,sI 7] [(.int 7)] (fun t k => XS.iloadN X0.here hx rfl (hb hby d15_0) rfl k) ?_
  refine gv s₁ 2 #[sR ya,sI 7] [(.ref ya),(.int 7)] (fun t k => XS.aloadN X0.here hx rfl (hb hby d15_1) rfl rfl k) ?_
  obtain ⟨cl1,Ar1,q1,S1,M1,Hs1,G1⟩ := id f0_ya
  refine gv s₁ 3 #[sR ya,sI 7] [(.int 7),(.int 7)] (fun t k => X0.arraylength hx (by rw [e0]; exact Ar1.1) (State.isArrayOf_alike hZ.alike Ar1.2.1) (g := (mkF m 2 #[sR ya,sI 7] [(.ref ya),(.int 7)])) rfl rfl (hb hby d15_2) _ (by rw [len_of S1 M1]; exact k)) ?_
  refine gv s₁ 4 #[sR ya,sI 7] [(.int 0)] (fun t k => XS.isub X0.here hx rfl (hb hby d15_3) rfl k) ?_
  refine gv s₁ 6 #[sR ya,sI 7] [(.int 31),(.int 0)] (fun t k => XS.bipush X0.here hx rfl (hb hby d15_4) k) ?_
  refine gv s₁ 7 #[sR ya,sI 7] [(.int 0)] (fun t k => XS.iushr X0.here hx rfl (hb hby d15_6) rfl k) ?_
  refine gv s₁ 8 #[sR ya,sI 7] [(.int 0)] (fun t k => XS.i2b X0.here hx rfl (hb hby d15_7) rfl k) ?_
  exact own_ret X0 hx Bd.notSynchronized Bd.returns rfl (Or.inl ⟨rfl,by simp,_,rfl⟩) (hb hby d15_8) e0 ⟨rfl,N0,rfl⟩ (by decide) (by decide)
theorem ef_147 (m : MethodId) (ya : Addr) (yb : Addr) : entryFrame m #[(.ref ya), (.int (0 : Int32)), (.ref yb), (.int (0 : Int32)), (.int (7 : Int32))] 7 = mkF m 0 #[.val (.ref ya), .val (.int (0 : Int32)), .val (.ref yb), .val (.int (0 : Int32)), .val (.int (7 : Int32)), .unset, .unset] [] := by first | (simp [entryFrame, mkF, argsToLocals, Value.category]; done) | rfl
def Q147 (Z : State) (ya : Addr) (yb : Addr) (ka : ClassId) (kb : ClassId) (d0 : Int32) (d1 : Int32) (d2 : Int32) (d3 : Int32) (d4 : Int32) (d5 : Int32) (d6 : Int32) (h0 : Heap) (n0 : Nat) (v : Option Value) (h : Heap) (L : List Loc) : Prop := v = some (.int (7 : Int32)) ∧ Fr n0 L ∧ Keep h0 h [yb] ∧ Arv Z h yb kb .byte (7 : Int32) [(.int (nar .byte (d0.toInt8.toInt32))), (.int (nar .byte (d1.toInt8.toInt32))), (.int (nar .byte (d2.toInt8.toInt32))), (.int (nar .byte (d3.toInt8.toInt32))), (.int (nar .byte (d4.toInt8.toInt32))), (.int (nar .byte (d5.toInt8.toInt32))), (.int (nar .byte (d6.toInt8.toInt32)))] (.int (0 : Int32))
set_option maxRecDepth 65536 in
set_option maxHeartbeats 40000000 in
theorem rm147 (l : Launch) (Z : State) (a0 : Array Value) (hw : ∀ d ∈ tables_1, d.before a0 Z = true) (ws : List Jvm.Cond) (ya : Addr) (yb : Addr) (ka : ClassId) (kb : ClassId) (d0 : Int32) (d1 : Int32) (d2 : Int32) (d3 : Int32) (d4 : Int32) (d5 : Int32) (d6 : Int32) (h0 : Heap) (n0 : Nat) (Z0 : n0 ≤ h0.size) (f0_ya : Arv Z h0 ya ka .char (7 : Int32) [(.int d0), (.int d1), (.int d2), (.int d3), (.int d4), (.int d5), (.int d6)] (.int (0 : Int32))) (f1_yb : Arv Z h0 yb kb .byte (7 : Int32) [(.int (0 : Int32)), (.int (0 : Int32)), (.int (0 : Int32)), (.int (0 : Int32)), (.int (0 : Int32)), (.int (0 : Int32)), (.int (0 : Int32))] (.int (0 : Int32))) (ne_ya_yb : ya ≠ yb) (g_yb : n0 ≤ yb) (hd0 : ¬ (255 : Int32) < d0) (hd1 : ¬ (255 : Int32) < d1) (hd2 : ¬ (255 : Int32) < d2) (hd3 : ¬ (255 : Int32) < d3) (hd4 : ¬ (255 : Int32) < d4) (hd5 : ¬ (255 : Int32) < d5) (hd6 : ¬ (255 : Int32) < d6) :
    MetFree l (⟨"java/lang/StringUTF16", "compress", "([CI[BII)I"⟩ : MethodName) (head1 (Jvm.Cond.code (⟨"java/lang/StringUTF16", "compress", "([CI[BII)I"⟩ : MethodName) jdk_52_method_21_code 7 (some .int) :: ws) ({ frames := 0, cells := 0, slots := 0, locals := 0 } : Room)) (fun a U => a = #[(.ref ya), (.int 0), (.ref yb), (.int 0), (.int 7)] ∧ Z.Warmed39 U.vm ∧ U.heap = h0) (fun _ _ _ _ _ => True) (fun _ U o U' => ∃ v L, o = .returned v ∧ Q147 Z ya yb ka kb d0 d1 d2 d3 d4 d5 d6 h0 n0 v U'.heap L ∧ FrameEnd U o U' L 0 0) := by
  refine MetFree.of_bodySF (plainFor_of_name pn_105) hisR ?_
  intro p e s m args below meth c s₁ Bd hml0 hP hK
  obtain ⟨rfl,hZ,hh⟩ := hP
  have hx := Bd.exec
  have hby := Bd.bytes
  have hml : c.maxLocals = 7 := hml0
  have hown : s.vm.findClass "java/lang/StringUTF16" = some m.cls := findClass_of_methodNamed Bd.named
  have hnm := (name_of_methodNamed Bd.named Bd.method).1
  have X0 : Stand p l e ({ frames := 0,cells := 0,slots := 0,locals := 0 } : Room) s m #[(.ref ya),(.int 0),(.ref yb),(.int 0),(.int 7)] below meth c s₁ [] 0 0 := Stand.of_body Bd
  have e0 : s₁.heap = h0 := by rw [← hh,Bd.state]; rfl
  have N0 := Fr.nil n0
  refine own_start (Q := fun v h L => Q147 Z ya yb ka kb d0 d1 d2 d3 d4 d5 d6 h0 n0 v h L) ?_
  refine gv s₁ 0 #[sR ya,sI 0,sR yb,sI 0,sI 7,sU,sU] [] (fun t k => castTop (ef_147 m ya yb) k) ?_
  refine gv s₁ 1 #[sR ya,sI 0,sR yb,sI 0,sI 7,sU,sU] [(.int 0)] (fun t k => XS.iconst X0.here hx rfl (hb hby d14_0) k) ?_
  refine gv s₁ 3 #[sR ya,sI 0,sR yb,sI 0,sI 7,sI 0,sU] [] (fun t k => XS.istore X0.here hx rfl (hb hby d14_1) rfl (l' := #[sR ya,sI 0,sR yb,sI 0,sI 7,sI 0,sU]) rfl k) ?_
  refine gv s₁ 5 #[sR ya,sI 0,sR yb,sI 0,sI 7,sI 0,sU] [(.int 0)] (fun t k => XS.iload X0.here hx rfl (hb hby d14_3) rfl k) ?_
  refine gv s₁ 7 #[sR ya,sI 0,sR yb,sI 0,sI 7,sI 0,sU] [(.int 7),(.int 0)] (fun t k => XS.iload X0.here hx rfl (hb hby d14_5) rfl k) ?_
  refine gv s₁ 10 #[sR ya,sI 0,sR yb,sI 0,sI 7,sI 0,sU] [] (fun t k => XS.icmpNo X0.here hx rfl (hb hby d14_7) rfl (tlt (by decide : ((0 : Int32) < (7 : Int32)))).2.1 k) ?_
  refine gv s₁ 11 #[sR ya,sI 0,sR yb,sI 0,sI 7,sI 0,sU] [(.ref ya)] (fun t k => XS.aloadN X0.here hx rfl (hb hby d14_10) rfl rfl k) ?_
  refine gv s₁ 12 #[sR ya,sI 0,sR yb,sI 0,sI 7,sI 0,sU] [(.int 0),(.ref ya)] (fun t k => XS.iloadN X0.here hx rfl (hb hby d14_11) rfl k) ?_
  obtain ⟨cl1,Ar1,q1,S1,M1,Hs1,G1⟩ := id f0_ya
  have hin1 : ¬ ((0 : Int32) < 0 ∨ cl1.slots.size ≤ ((0 : Int32)).toNatClampNeg) := inb_of S1 ⟨by decide,by decide⟩
  have hat1 : cl1.slots[((0 : Int32)).toNatClampNeg]? = some (.int d0) := Has.at Hs1 hin1 rfl
  refine gv s₁ 13 #[sR ya,sI 0,sR yb,sI 0,sI 7,sI 0,sU] [(.int d0)] (fun t k => X0.caload hx (j := (0 : Int32)) (v := (.int d0)) (by rw [e0]; exact Ar1.1) (State.isArrayOf_alike hZ.alike Ar1.2.1) Ar1.2.2 hin1 hat1 (g := (mkF m 12 #[sR ya,sI 0,sR yb,sI 0,sI 7,sI 0,sU] [(.int 0),(.ref ya)])) rfl rfl (hb hby d14_12) _ k) ?_
  refine gv s₁ 15 #[sR ya,sI 0,sR yb,sI 0,sI 7,sI 0,sI d0] [] (fun t k => XS.istore X0.here hx rfl (hb hby d14_13) rfl (l' := #[sR ya,sI 0,sR yb,sI 0,sI 7,sI 0,sI d0]) rfl k) ?_
  refine gv s₁ 17 #[sR ya,sI 0,sR yb,sI 0,sI 7,sI 0,sI d0] [(.int d0)] (fun t k => XS.iload X0.here hx rfl (hb hby d14_15) rfl k) ?_
  refine gv s₁ 20 #[sR ya,sI 0,sR yb,sI 0,sI 7,sI 0,sI d0] [(.int 255),(.int d0)] (fun t k => XS.sipush X0.here hx rfl (hb hby d14_17) k) ?_
  refine gv s₁ 26 #[sR ya,sI 0,sR yb,sI 0,sI 7,sI 0,sI d0] [] (fun t k => XS.icmpYes X0.here hx rfl (pc0 := 20) (pc' := 26) rfl (hb hby d14_20) rfl (flt hd0).2.2.2 (by decide) (by decide) k) ?_
  refine gv s₁ 27 #[sR ya,sI 0,sR yb,sI 0,sI 7,sI 0,sI d0] [(.ref yb)] (fun t k => XS.aloadN X0.here hx rfl (hb hby d14_26) rfl rfl k) ?_
  refine gv s₁ 28 #[sR ya,sI 0,sR yb,sI 0,sI 7,sI 0,sI d0] [(.int 0),(.ref yb)] (fun t k => XS.iloadN X0.here hx rfl (hb hby d14_27) rfl k) ?_
  refine gv s₁ 30 #[sR ya,sI 0,sR yb,sI 0,sI 7,sI 0,sI d0] [(.int d0),(.int 0),(.ref yb)] (fun t k => XS.iload X0.here hx rfl (hb hby d14_28) rfl k) ?_
  refine gv s₁ 31 #[sR ya,sI 0,sR yb,sI 0,sI 7,sI 0,sI d0] [(.int (d0.toInt8.toInt32)),(.int 0),(.ref yb)] (fun t k => XS.i2b X0.here hx rfl (hb hby d14_30) rfl k) ?_
  obtain ⟨cl2,Ar2,q2,S2,M2,Hs2,G2⟩ := id f1_yb
  have hin2 : ¬ ((0 : Int32) < 0 ∨ cl2.slots.size ≤ ((0 : Int32)).toNatClampNeg) := inb_of S2 ⟨by decide,by decide⟩
  obtain ⟨T2,h2,X2,e2,W2,st2⟩ := stB X0 hx hZ e0 Ar2 (j := (0 : Int32)) hin2 (g := (mkF m 31 #[sR ya,sI 0,sR yb,sI 0,sI 7,sI 0,sI d0] [(.int (d0.toInt8.toInt32)),(.int 0),(.ref yb)])) rfl rfl (hb hby d14_31)
  have f3 := f0_ya.other W2 ne_ya_yb
  have f4 : Arv Z h2 yb kb .byte (7 : Int32) [(.int (nar .byte (d0.toInt8.toInt32))),(.int 0),(.int 0),(.int 0),(.int 0),(.int 0),(.int 0)] (.int 0) := Arv.set Ar2 q2 S2 M2 Hs2 G2 (fits_nar_byte _) W2 0 rfl (Nat.le_of_ble_eq_true rfl)
  have K2 := Keep.wr (Keep.refl h0 [yb]) W2 (Or.inl (List.mem_of_getElem? (i := 0) rfl))
  have Z2 := Nat.le_trans Z0 K2.1
  have N2 := Fr.snoc X2 N0 g_yb
  refine gv T2 32 #[sR ya,sI 0,sR yb,sI 0,sI 7,sI 0,sI d0] [] (fun t k => st2 _ k) ?_
  refine gv T2 35 #[sR ya,sI 1,sR yb,sI 0,sI 7,sI 0,sI d0] [] (fun t k => XS.iinc X2.here hx rfl (hb hby d14_32) rfl (l' := #[sR ya,sI 1,sR yb,sI 0,sI 7,sI 0,sI d0]) rfl k) ?_
  refine gv T2 38 #[sR ya,sI 1,sR yb,sI 1,sI 7,sI 0,sI d0] [] (fun t k => XS.iinc X2.here hx rfl (hb hby d14_35) rfl (l' := #[sR ya,sI 1,sR yb,sI 1,sI 7,sI 0,sI d0]) rfl k) ?_
  refine gv T2 41 #[sR ya,sI 1,sR yb,sI 1,sI 7,sI 1,sI d0] [] (fun t k => XS.iinc X2.here hx rfl (hb hby d14_38) rfl (l' := #[sR ya,sI 1,sR yb,sI 1,sI 7,sI 1,sI d0]) rfl k) ?_
  refine gv T2 3 #[sR ya,sI 1,sR yb,sI 1,sI 7,sI 1,sI d0] [] (fun t k => XS.goto X2.here hx rfl (pc0 := 41) (pc' := 3) rfl (hb hby d14_41) (by decide) (by decide) k) ?_
  refine gv T2 5 #[sR ya,sI 1,sR yb,sI 1,sI 7,sI 1,sI d0] [(.int 1)] (fun t k => XS.iload X2.here hx rfl (hb hby d14_3) rfl k) ?_
  refine gv T2 7 #[sR ya,sI 1,sR yb,sI 1,sI 7,sI 1,sI d0] [(.int 7),(.int 1)] (fun t k => XS.iload X2.here hx rfl (hb hby d14_5) rfl k) ?_
  refine gv T2 10 #[sR ya,sI 1,sR yb,sI 1,sI 7,sI 1,sI d0] [] (fun t k => XS.icmpNo X2.here hx rfl (hb hby d14_7) rfl (tlt (by decide : ((1 : Int32) < (7 : Int32)))).2.1 k) ?_
  refine gv T2 11 #[sR ya,sI 1,sR yb,sI 1,sI 7,sI 1,sI d0] [(.ref ya)] (fun t k => XS.aloadN X2.here hx rfl (hb hby d14_10) rfl rfl k) ?_
  refine gv T2 12 #[sR ya,sI 1,sR yb,sI 1,sI 7,sI 1,sI d0] [(.int 1),(.ref ya)] (fun t k => XS.iloadN X2.here hx rfl (hb hby d14_11) rfl k) ?_
  obtain ⟨cl5,Ar5,q5,S5,M5,Hs5,G5⟩ := id f3
  have hin5 : ¬ ((1 : Int32) < 0 ∨ cl5.slots.size ≤ ((1 : Int32)).toNatClampNeg) := inb_of S5 ⟨by decide,by decide⟩
  have hat5 : cl5.slots[((1 : Int32)).toNatClampNeg]? = some (.int d1) := Has.at Hs5 hin5 rfl
  refine gv T2 13 #[sR ya,sI 1,sR yb,sI 1,sI 7,sI 1,sI d0] [(.int d1)] (fun t k => X2.caload hx (j := (1 : Int32)) (v := (.int d1)) (by rw [e2]; exact Ar5.1) (State.isArrayOf_alike hZ.alike Ar5.2.1) Ar5.2.2 hin5 hat5 (g := (mkF m 12 #[sR ya,sI 1,sR yb,sI 1,sI 7,sI 1,sI d0] [(.int 1),(.ref ya)])) rfl rfl (hb hby d14_12) _ k) ?_
  refine gv T2 15 #[sR ya,sI 1,sR yb,sI 1,sI 7,sI 1,sI d1] [] (fun t k => XS.istore X2.here hx rfl (hb hby d14_13) rfl (l' := #[sR ya,sI 1,sR yb,sI 1,sI 7,sI 1,sI d1]) rfl k) ?_
  refine gv T2 17 #[sR ya,sI 1,sR yb,sI 1,sI 7,sI 1,sI d1] [(.int d1)] (fun t k => XS.iload X2.here hx rfl (hb hby d14_15) rfl k) ?_
  refine gv T2 20 #[sR ya,sI 1,sR yb,sI 1,sI 7,sI 1,sI d1] [(.int 255),(.int d1)] (fun t k => XS.sipush X2.here hx rfl (hb hby d14_17) k) ?_
  refine gv T2 26 #[sR ya,sI 1,sR yb,sI 1,sI 7,sI 1,sI d1] [] (fun t k => XS.icmpYes X2.here hx rfl (pc0 := 20) (pc' := 26) rfl (hb hby d14_20) rfl (flt hd1).2.2.2 (by decide) (by decide) k) ?_
  refine gv T2 27 #[sR ya,sI 1,sR yb,sI 1,sI 7,sI 1,sI d1] [(.ref yb)] (fun t k => XS.aloadN X2.here hx rfl (hb hby d14_26) rfl rfl k) ?_
  refine gv T2 28 #[sR ya,sI 1,sR yb,sI 1,sI 7,sI 1,sI d1] [(.int 1),(.ref yb)] (fun t k => XS.iloadN X2.here hx rfl (hb hby d14_27) rfl k) ?_
  refine gv T2 30 #[sR ya,sI 1,sR yb,sI 1,sI 7,sI 1,sI d1] [(.int d1),(.int 1),(.ref yb)] (fun t k => XS.iload X2.here hx rfl (hb hby d14_28) rfl k) ?_
  refine gv T2 31 #[sR ya,sI 1,sR yb,sI 1,sI 7,sI 1,sI d1] [(.int (d1.toInt8.toInt32)),(.int 1),(.ref yb)] (fun t k => XS.i2b X2.here hx rfl (hb hby d14_30) rfl k) ?_
  obtain ⟨cl6,Ar6,q6,S6,M6,Hs6,G6⟩ := id f4
  have hin6 : ¬ ((1 : Int32) < 0 ∨ cl6.slots.size ≤ ((1 : Int32)).toNatClampNeg) := inb_of S6 ⟨by decide,by decide⟩
  obtain ⟨T6,h6,X6,e6,W6,st6⟩ := stB X2 hx hZ e2 Ar6 (j := (1 : Int32)) hin6 (g := (mkF m 31 #[sR ya,sI 1,sR yb,sI 1,sI 7,sI 1,sI d1] [(.int (d1.toInt8.toInt32)),(.int 1),(.ref yb)])) rfl rfl (hb hby d14_31)
  have f7 := f3.other W6 ne_ya_yb
  have f8 : Arv Z h6 yb kb .byte (7 : Int32) [(.int (nar .byte (d0.toInt8.toInt32))),(.int (nar .byte (d1.toInt8.toInt32))),(.int 0),(.int 0),(.int 0),(.int 0),(.int 0)] (.int 0) := Arv.set Ar6 q6 S6 M6 Hs6 G6 (fits_nar_byte _) W6 1 rfl (Nat.le_of_ble_eq_true rfl)
  have K6 := Keep.wr K2 W6 (Or.inl (List.mem_of_getElem? (i := 0) rfl))
  have Z6 := Nat.le_trans Z0 K6.1
  have N6 := Fr.snoc X6 N2 g_yb
  refine gv T6 32 #[sR ya,sI 1,sR yb,sI 1,sI 7,sI 1,sI d1] [] (fun t k => st6 _ k) ?_
  refine gv T6 35 #[sR ya,sI 2,sR yb,sI 1,sI 7,sI 1,sI d1] [] (fun t k => XS.iinc X6.here hx rfl (hb hby d14_32) rfl (l' := #[sR ya,sI 2,sR yb,sI 1,sI 7,sI 1,sI d1]) rfl k) ?_
  refine gv T6 38 #[sR ya,sI 2,sR yb,sI 2,sI 7,sI 1,sI d1] [] (fun t k => XS.iinc X6.here hx rfl (hb hby d14_35) rfl (l' := #[sR ya,sI 2,sR yb,sI 2,sI 7,sI 1,sI d1]) rfl k) ?_
  refine gv T6 41 #[sR ya,sI 2,sR yb,sI 2,sI 7,sI 2,sI d1] [] (fun t k => XS.iinc X6.here hx rfl (hb hby d14_38) rfl (l' := #[sR ya,sI 2,sR yb,sI 2,sI 7,sI 2,sI d1]) rfl k) ?_
  refine gv T6 3 #[sR ya,sI 2,sR yb,sI 2,sI 7,sI 2,sI d1] [] (fun t k => XS.goto X6.here hx rfl (pc0 := 41) (pc' := 3) rfl (hb hby d14_41) (by decide) (by decide) k) ?_
  refine gv T6 5 #[sR ya,sI 2,sR yb,sI 2,sI 7,sI 2,sI d1] [(.int 2)] (fun t k => XS.iload X6.here hx rfl (hb hby d14_3) rfl k) ?_
  refine gv T6 7 #[sR ya,sI 2,sR yb,sI 2,sI 7,sI 2,sI d1] [(.int 7),(.int 2)] (fun t k => XS.iload X6.here hx rfl (hb hby d14_5) rfl k) ?_
  refine gv T6 10 #[sR ya,sI 2,sR yb,sI 2,sI 7,sI 2,sI d1] [] (fun t k => XS.icmpNo X6.here hx rfl (hb hby d14_7) rfl (tlt (by decide : ((2 : Int32) < (7 : Int32)))).2.1 k) ?_
  refine gv T6 11 #[sR ya,sI 2,sR yb,sI 2,sI 7,sI 2,sI d1] [(.ref ya)] (fun t k => XS.aloadN X6.here hx rfl (hb hby d14_10) rfl rfl k) ?_
  refine gv T6 12 #[sR ya,sI 2,sR yb,sI 2,sI 7,sI 2,sI d1] [(.int 2),(.ref ya)] (fun t k => XS.iloadN X6.here hx rfl (hb hby d14_11) rfl k) ?_
  obtain ⟨cl9,Ar9,q9,S9,M9,Hs9,G9⟩ := id f7
  have hin9 : ¬ ((2 : Int32) < 0 ∨ cl9.slots.size ≤ ((2 : Int32)).toNatClampNeg) := inb_of S9 ⟨by decide,by decide⟩
  have hat9 : cl9.slots[((2 : Int32)).toNatClampNeg]? = some (.int d2) := Has.at Hs9 hin9 rfl
  refine gv T6 13 #[sR ya,sI 2,sR yb,sI 2,sI 7,sI 2,sI d1] [(.int d2)] (fun t k => X6.caload hx (j := (2 : Int32)) (v := (.int d2)) (by rw [e6]; exact Ar9.1) (State.isArrayOf_alike hZ.alike Ar9.2.1) Ar9.2.2 hin9 hat9 (g := (mkF m 12 #[sR ya,sI 2,sR yb,sI 2,sI 7,sI 2,sI d1] [(.int 2),(.ref ya)])) rfl rfl (hb hby d14_12) _ k) ?_
  refine gv T6 15 #[sR ya,sI 2,sR yb,sI 2,sI 7,sI 2,sI d2] [] (fun t k => XS.istore X6.here hx rfl (hb hby d14_13) rfl (l' := #[sR ya,sI 2,sR yb,sI 2,sI 7,sI 2,sI d2]) rfl k) ?_
  refine gv T6 17 #[sR ya,sI 2,sR yb,sI 2,sI 7,sI 2,sI d2] [(.int d2)] (fun t k => XS.iload X6.here hx rfl (hb hby d14_15) rfl k) ?_
  refine gv T6 20 #[sR ya,sI 2,sR yb,sI 2,sI 7,sI 2,sI d2] [(.int 255),(.int d2)] (fun t k => XS.sipush X6.here hx rfl (hb hby d14_17) k) ?_
  refine gv T6 26 #[sR ya,sI 2,sR yb,sI 2,sI 7,sI 2,sI d2] [] (fun t k => XS.icmpYes X6.here hx rfl (pc0 := 20) (pc' := 26) rfl (hb hby d14_20) rfl (flt hd2).2.2.2 (by decide) (by decide) k) ?_
  refine gv T6 27 #[sR ya,sI 2,sR yb,sI 2,sI 7,sI 2,sI d2] [(.ref yb)] (fun t k => XS.aloadN X6.here hx rfl (hb hby d14_26) rfl rfl k) ?_
  refine gv T6 28 #[sR ya,sI 2,sR yb,sI 2,sI 7,sI 2,sI d2] [(.int 2),(.ref yb)] (fun t k => XS.iloadN X6.here hx rfl (hb hby d14_27) rfl k) ?_
  refine gv T6 30 #[sR ya,sI 2,sR yb,sI 2,sI 7,sI 2,sI d2] [(.int d2),(.int 2),(.ref yb)] (fun t k => XS.iload X6.here hx rfl (hb hby d14_28) rfl k) ?_
  refine gv T6 31 #[sR ya,sI 2,sR yb,sI 2,sI 7,sI 2,sI d2] [(.int (d2.toInt8.toInt32)),(.int 2),(.ref yb)] (fun t k => XS.i2b X6.here hx rfl (hb hby d14_30) rfl k) ?_
  obtain ⟨cl10,Ar10,q10,S10,M10,Hs10,G10⟩ := id f8
  have hin10 : ¬ ((2 : Int32) < 0 ∨ cl10.slots.size ≤ ((2 : Int32)).toNatClampNeg) := inb_of S10 ⟨by decide,by decide⟩
  obtain ⟨T10,h10,X10,e10,W10,st10⟩ := stB X6 hx hZ e6 Ar10 (j := (2 : Int32)) hin10 (g := (mkF m 31 #[sR ya,sI 2,sR yb,sI 2,sI 7,sI 2,sI d2] [(.int (d2.toInt8.toInt32)),(.int 2),(.ref yb)])) rfl rfl (hb hby d14_31)
  have f11 := f7.other W10 ne_ya_yb
  have f12 : Arv Z h10 yb kb .byte (7 : Int32) [(.int (nar .byte (d0.toInt8.toInt32))),(.int (nar .byte (d1.toInt8.toInt32))),(.int (nar .byte (d2.toInt8.toInt32))),(.int 0),(.int 0),(.int 0),(.int 0)] (.int 0) := Arv.set Ar10 q10 S10 M10 Hs10 G10 (fits_nar_byte _) W10 2 rfl (Nat.le_of_ble_eq_true rfl)
  have K10 := Keep.wr K6 W10 (Or.inl (List.mem_of_getElem? (i := 0) rfl))
  have Z10 := Nat.le_trans Z0 K10.1
  have N10 := Fr.snoc X10 N6 g_yb
  refine gv T10 32 #[sR ya,sI 2,sR yb,sI 2,sI 7,sI 2,sI d2] [] (fun t k => st10 _ k) ?_
  refine gv T10 35 #[sR ya,sI 3,sR yb,sI 2,sI 7,sI 2,sI d2] [] (fun t k => XS.iinc X10.here hx rfl (hb hby d14_32) rfl (l' := #[sR ya,sI 3,sR yb,sI 2,sI 7,sI 2,sI d2]) rfl k) ?_
  refine gv T10 38 #[sR ya,sI 3,sR yb,sI 3,sI 7,sI 2,sI d2] [] (fun t k => XS.iinc X10.here hx rfl (hb hby d14_35) rfl (l' := #[sR ya,sI 3,sR yb,sI 3,sI 7,sI 2,sI d2]) rfl k) ?_
  refine gv T10 41 #[sR ya,sI 3,sR yb,sI 3,sI 7,sI 3,sI d2] [] (fun t k => XS.iinc X10.here hx rfl (hb hby d14_38) rfl (l' := #[sR ya,sI 3,sR yb,sI 3,sI 7,sI 3,sI d2]) rfl k) ?_
  refine gv T10 3 #[sR ya,sI 3,sR yb,sI 3,sI 7,sI 3,sI d2] [] (fun t k => XS.goto X10.here hx rfl (pc0 := 41) (pc' := 3) rfl (hb hby d14_41) (by decide) (by decide) k) ?_
  refine gv T10 5 #[sR ya,sI 3,sR yb,sI 3,sI 7,sI 3,sI d2] [(.int 3)] (fun t k => XS.iload X10.here hx rfl (hb hby d14_3) rfl k) ?_
  refine gv T10 7 #[sR ya,sI 3,sR yb,sI 3,sI 7,sI 3,sI d2] [(.int 7),(.int 3)] (fun t k => XS.iload X10.here hx rfl (hb hby d14_5) rfl k) ?_
  refine gv T10 10 #[sR ya,sI 3,sR yb,sI 3,sI 7,sI 3,sI d2] [] (fun t k => XS.icmpNo X10.here hx rfl (hb hby d14_7) rfl (tlt (by decide : ((3 : Int32) < (7 : Int32)))).2.1 k) ?_
  refine gv T10 11 #[sR ya,sI 3,sR yb,sI 3,sI 7,sI 3,sI d2] [(.ref ya)] (fun t k => XS.aloadN X10.here hx rfl (hb hby d14_10) rfl rfl k) ?_
  refine gv T10 12 #[sR ya,sI 3,sR yb,sI 3,sI 7,sI 3,sI d2] [(.int 3),(.ref ya)] (fun t k => XS.iloadN X10.here hx rfl (hb hby d14_11) rfl k) ?_
  obtain ⟨cl13,Ar13,q13,S13,M13,Hs13,G13⟩ := id f11
  have hin13 : ¬ ((3 : Int32) < 0 ∨ cl13.slots.size ≤ ((3 : Int32)).toNatClampNeg) := inb_of S13 ⟨by decide,by decide⟩
  have hat13 : cl13.slots[((3 : Int32)).toNatClampNeg]? = some (.int d3) := Has.at Hs13 hin13 rfl
  refine gv T10 13 #[sR ya,sI 3,sR yb,sI 3,sI 7,sI 3,sI d2] [(.int d3)] (fun t k => X10.caload hx (j := (3 : Int32)) (v := (.int d3)) (by rw [e10]; exact Ar13.1) (State.isArrayOf_alike hZ.alike Ar13.2.1) Ar13.2.2 hin13 hat13 (g := (mkF m 12 #[sR ya,sI 3,sR yb,sI 3,sI 7,sI 3,sI d2] [(.int 3),(.ref ya)])) rfl rfl (hb hby d14_12) _ k) ?_
  refine gv T10 15 #[sR ya,sI 3,sR yb,sI 3,sI 7,sI 3,sI d3] [] (fun t k => XS.istore X10.here hx rfl (hb hby d14_13) rfl (l' := #[sR ya,sI 3,sR yb,sI 3,sI 7,sI 3,sI d3]) rfl k) ?_
  refine gv T10 17 #[sR ya,sI 3,sR yb,sI 3,sI 7,sI 3,sI d3] [(.int d3)] (fun t k => XS.iload X10.here hx rfl (hb hby d14_15) rfl k) ?_
  refine gv T10 20 #[sR ya,sI 3,sR yb,sI 3,sI 7,sI 3,sI d3] [(.int 255),(.int d3)] (fun t k => XS.sipush X10.here hx rfl (hb hby d14_17) k) ?_
  refine gv T10 26 #[sR ya,sI 3,sR yb,sI 3,sI 7,sI 3,sI d3] [] (fun t k => XS.icmpYes X10.here hx rfl (pc0 := 20) (pc' := 26) rfl (hb hby d14_20) rfl (flt hd3).2.2.2 (by decide) (by decide) k) ?_
  refine gv T10 27 #[sR ya,sI 3,sR yb,sI 3,sI 7,sI 3,sI d3] [(.ref yb)] (fun t k => XS.aloadN X10.here hx rfl (hb hby d14_26) rfl rfl k) ?_
  refine gv T10 28 #[sR ya,sI 3,sR yb,sI 3,sI 7,sI 3,sI d3] [(.int 3),(.ref yb)] (fun t k => XS.iloadN X10.here hx rfl (hb hby d14_27) rfl k) ?_
  refine gv T10 30 #[sR ya,sI 3,sR yb,sI 3,sI 7,sI 3,sI d3] [(.int d3),(.int 3),(.ref yb)] (fun t k => XS.iload X10.here hx rfl (hb hby d14_28) rfl k) ?_
  refine gv T10 31 #[sR ya,sI 3,sR yb,sI 3,sI 7,sI 3,sI d3] [(.int (d3.toInt8.toInt32)),(.int 3),(.ref yb)] (fun t k => XS.i2b X10.here hx rfl (hb hby d14_30) rfl k) ?_
  obtain ⟨cl14,Ar14,q14,S14,M14,Hs14,G14⟩ := id f12
  have hin14 : ¬ ((3 : Int32) < 0 ∨ cl14.slots.size ≤ ((3 : Int32)).toNatClampNeg) := inb_of S14 ⟨by decide,by decide⟩
  obtain ⟨T14,h14,X14,e14,W14,st14⟩ := stB X10 hx hZ e10 Ar14 (j := (3 : Int32)) hin14 (g := (mkF m 31 #[sR ya,sI 3,sR yb,sI 3,sI 7,sI 3,sI d3] [(.int (d3.toInt8.toInt32)),(.int 3),(.ref yb)])) rfl rfl (hb hby d14_31)
  have f15 := f11.other W14 ne_ya_yb
  have f16 : Arv Z h14 yb kb .byte (7 : Int32) [(.int (nar .byte (d0.toInt8.toInt32))),(.int (nar .byte (d1.toInt8.toInt32))),(.int (nar .byte (d2.toInt8.toInt32))),(.int (nar .byte (d3.toInt8.toInt32))),(.int 0),(.int 0),(.int 0)] (.int 0) := Arv.set Ar14 q14 S14 M14 Hs14 G14 (fits_nar_byte _) W14 3 rfl (Nat.le_of_ble_eq_true rfl)
  have K14 := Keep.wr K10 W14 (Or.inl (List.mem_of_getElem? (i := 0) rfl))
  have Z14 := Nat.le_trans Z0 K14.1
  have N14 := Fr.snoc X14 N10 g_yb
  refine gv T14 32 #[sR ya,sI 3,sR yb,sI 3,sI 7,sI 3,sI d3] [] (fun t k => st14 _ k) ?_
  refine gv T14 35 #[sR ya,sI 4,sR yb,sI 3,sI 7,sI 3,sI d3] [] (fun t k => XS.iinc X14.here hx rfl (hb hby d14_32) rfl (l' := #[sR ya,sI 4,sR yb,sI 3,sI 7,sI 3,sI d3]) rfl k) ?_
  refine gv T14 38 #[sR ya,sI 4,sR yb,sI 4,sI 7,sI 3,sI d3] [] (fun t k => XS.iinc X14.here hx rfl (hb hby d14_35) rfl (l' := #[sR ya,sI 4,sR yb,sI 4,sI 7,sI 3,sI d3]) rfl k) ?_
  refine gv T14 41 #[sR ya,sI 4,sR yb,sI 4,sI 7,sI 4,sI d3] [] (fun t k => XS.iinc X14.here hx rfl (hb hby d14_38) rfl (l' := #[sR ya,sI 4,sR yb,sI 4,sI 7,sI 4,sI d3]) rfl k) ?_
  refine gv T14 3 #[sR ya,sI 4,sR yb,sI 4,sI 7,sI 4,sI d3] [] (fun t k => XS.goto X14.here hx rfl (pc0 := 41) (pc' := 3) rfl (hb hby d14_41) (by decide) (by decide) k) ?_
  refine gv T14 5 #[sR ya,sI 4,sR yb,sI 4,sI 7,sI 4,sI d3] [(.int 4)] (fun t k => XS.iload X14.here hx rfl (hb hby d14_3) rfl k) ?_
  refine gv T14 7 #[sR ya,sI 4,sR yb,sI 4,sI 7,sI 4,sI d3] [(.int 7),(.int 4)] (fun t k => XS.iload X14.here hx rfl (hb hby d14_5) rfl k) ?_
  refine gv T14 10 #[sR ya,sI 4,sR yb,sI 4,sI 7,sI 4,sI d3] [] (fun t k => XS.icmpNo X14.here hx rfl (hb hby d14_7) rfl (tlt (by decide : ((4 : Int32) < (7 : Int32)))).2.1 k) ?_
  refine gv T14 11 #[sR ya,sI 4,sR yb,sI 4,sI 7,sI 4,sI d3] [(.ref ya)] (fun t k => XS.aloadN X14.here hx rfl (hb hby d14_10) rfl rfl k) ?_
  refine gv T14 12 #[sR ya,sI 4,sR yb,sI 4,sI 7,sI 4,sI d3] [(.int 4),(.ref ya)] (fun t k => XS.iloadN X14.here hx rfl (hb hby d14_11) rfl k) ?_
  obtain ⟨cl17,Ar17,q17,S17,M17,Hs17,G17⟩ := id f15
  have hin17 : ¬ ((4 : Int32) < 0 ∨ cl17.slots.size ≤ ((4 : Int32)).toNatClampNeg) := inb_of S17 ⟨by decide,by decide⟩
  have hat17 : cl17.slots[((4 : Int32)).toNatClampNeg]? = some (.int d4) := Has.at Hs17 hin17 rfl
  refine gv T14 13 #[sR ya,sI 4,sR yb,sI 4,sI 7,sI 4,sI d3] [(.int d4)] (fun t k => X14.caload hx (j := (4 : Int32)) (v := (.int d4)) (by rw [e14]; exact Ar17.1) (State.isArrayOf_alike hZ.alike Ar17.2.1) Ar17.2.2 hin17 hat17 (g := (mkF m 12 #[sR ya,sI 4,sR yb,sI 4,sI 7,sI 4,sI d3] [(.int 4),(.ref ya)])) rfl rfl (hb hby d14_12) _ k) ?_
  refine gv T14 15 #[sR ya,sI 4,sR yb,sI 4,sI 7,sI 4,sI d4] [] (fun t k => XS.istore X14.here hx rfl (hb hby d14_13) rfl (l' := #[sR ya,sI 4,sR yb,sI 4,sI 7,sI 4,sI d4]) rfl k) ?_
  refine gv T14 17 #[sR ya,sI 4,sR yb,sI 4,sI 7,sI 4,sI d4] [(.int d4)] (fun t k => XS.iload X14.here hx rfl (hb hby d14_15) rfl k) ?_
  refine gv T14 20 #[sR ya,sI 4,sR yb,sI 4,sI 7,sI 4,sI d4] [(.int 255),(.int d4)] (fun t k => XS.sipush X14.here hx rfl (hb hby d14_17) k) ?_
  refine gv T14 26 #[sR ya,sI 4,sR yb,sI 4,sI 7,sI 4,sI d4] [] (fun t k => XS.icmpYes X14.here hx rfl (pc0 := 20) (pc' := 26) rfl (hb hby d14_20) rfl (flt hd4).2.2.2 (by decide) (by decide) k) ?_
  refine gv T14 27 #[sR ya,sI 4,sR yb,sI 4,sI 7,sI 4,sI d4] [(.ref yb)] (fun t k => XS.aloadN X14.here hx rfl (hb hby d14_26) rfl rfl k) ?_
  refine gv T14 28 #[sR ya,sI 4,sR yb,sI 4,sI 7,sI 4,sI d4] [(.int 4),(.ref yb)] (fun t k => XS.iloadN X14.here hx rfl (hb hby d14_27) rfl k) ?_
  refine gv T14 30 #[sR ya,sI 4,sR yb,sI 4,sI 7,sI 4,sI d4] [(.int d4),(.int 4),(.ref yb)] (fun t k => XS.iload X14.here hx rfl (hb hby d14_28) rfl k) ?_
  refine gv T14 31 #[sR ya,sI 4,sR yb,sI 4,sI 7,sI 4,sI d4] [(.int (d4.toInt8.toInt32)),(.int 4),(.ref yb)] (fun t k => XS.i2b X14.here hx rfl (hb hby d14_30) rfl k) ?_
  obtain ⟨cl18,Ar18,q18,S18,M18,Hs18,G18⟩ := id f16
  have hin18 : ¬ ((4 : Int32) < 0 ∨ cl18.slots.size ≤ ((4 : Int32)).toNatClampNeg) := inb_of S18 ⟨by decide,by decide⟩
  obtain ⟨T18,h18,X18,e18,W18,st18⟩ := stB X14 hx hZ e14 Ar18 (j := (4 : Int32)) hin18 (g := (mkF m 31 #[sR ya,sI 4,sR yb,sI 4,sI 7,sI 4,sI d4] [(.int (d4.toInt8.toInt32)),(.int 4),(.ref yb)])) rfl rfl (hb hby d14_31)
  have f19 := f15.other W18 ne_ya_yb
  have f20 : Arv Z h18 yb kb .byte (7 : Int32) [(.int (nar .byte (d0.toInt8.toInt32))),(.int (nar .byte (d1.toInt8.toInt32))),(.int (nar .byte (d2.toInt8.toInt32))),(.int (nar .byte (d3.toInt8.toInt32))),(.int (nar .byte (d4.toInt8.toInt32))),(.int 0),(.int 0)] (.int 0) := Arv.set Ar18 q18 S18 M18 Hs18 G18 (fits_nar_byte _) W18 4 rfl (Nat.le_of_ble_eq_true rfl)
  have K18 := Keep.wr K14 W18 (Or.inl (List.mem_of_getElem? (i := 0) rfl))
  have Z18 := Nat.le_trans Z0 K18.1
  have N18 := Fr.snoc X18 N14 g_yb
  refine gv T18 32 #[sR ya,sI 4,sR yb,sI 4,sI 7,sI 4,sI d4] [] (fun t k => st18 _ k) ?_
  refine gv T18 35 #[sR ya,sI 5,sR yb,sI 4,sI 7,sI 4,sI d4] [] (fun t k => XS.iinc X18.here hx rfl (hb hby d14_32) rfl (l' := #[sR ya,sI 5,sR yb,sI 4,sI 7,sI 4,sI d4]) rfl k) ?_
  refine gv T18 38 #[sR ya,sI 5,sR yb,sI 5,sI 7,sI 4,sI d4] [] (fun t k => XS.iinc X18.here hx rfl (hb hby d14_35) rfl (l' := #[sR ya,sI 5,sR yb,sI 5,sI 7,sI 4,sI d4]) rfl k) ?_
  refine gv T18 41 #[sR ya,sI 5,sR yb,sI 5,sI 7,sI 5,sI d4] [] (fun t k => XS.iinc X18.here hx rfl (hb hby d14_38) rfl (l' := #[sR ya,sI 5,sR yb,sI 5,sI 7,sI 5,sI d4]) rfl k) ?_
  refine gv T18 3 #[sR ya,sI 5,sR yb,sI 5,sI 7,sI 5,sI d4] [] (fun t k => XS.goto X18.here hx rfl (pc0 := 41) (pc' := 3) rfl (hb hby d14_41) (by decide) (by decide) k) ?_
  refine gv T18 5 #[sR ya,sI 5,sR yb,sI 5,sI 7,sI 5,sI d4] [(.int 5)] (fun t k => XS.iload X18.here hx rfl (hb hby d14_3) rfl k) ?_
  refine gv T18 7 #[sR ya,sI 5,sR yb,sI 5,sI 7,sI 5,sI d4] [(.int 7),(.int 5)] (fun t k => XS.iload X18.here hx rfl (hb hby d14_5) rfl k) ?_
  refine gv T18 10 #[sR ya,sI 5,sR yb,sI 5,sI 7,sI 5,sI d4] [] (fun t k => XS.icmpNo X18.here hx rfl (hb hby d14_7) rfl (tlt (by decide : ((5 : Int32) < (7 : Int32)))).2.1 k) ?_
  refine gv T18 11 #[sR ya,sI 5,sR yb,sI 5,sI 7,sI 5,sI d4] [(.ref ya)] (fun t k => XS.aloadN X18.here hx rfl (hb hby d14_10) rfl rfl k) ?_
  refine gv T18 12 #[sR ya,sI 5,sR yb,sI 5,sI 7,sI 5,sI d4] [(.int 5),(.ref ya)] (fun t k => XS.iloadN X18.here hx rfl (hb hby d14_11) rfl k) ?_
  obtain ⟨cl21,Ar21,q21,S21,M21,Hs21,G21⟩ := id f19
  have hin21 : ¬ ((5 : Int32) < 0 ∨ cl21.slots.size ≤ ((5 : Int32)).toNatClampNeg) := inb_of S21 ⟨by decide,by decide⟩
  have hat21 : cl21.slots[((5 : Int32)).toNatClampNeg]? = some (.int d5) := Has.at Hs21 hin21 rfl
  refine gv T18 13 #[sR ya,sI 5,sR yb,sI 5,sI 7,sI 5,sI d4] [(.int d5)] (fun t k => X18.caload hx (j := (5 : Int32)) (v := (.int d5)) (by rw [e18]; exact Ar21.1) (State.isArrayOf_alike hZ.alike Ar21.2.1) Ar21.2.2 hin21 hat21 (g := (mkF m 12 #[sR ya,sI 5,sR yb,sI 5,sI 7,sI 5,sI d4] [(.int 5),(.ref ya)])) rfl rfl (hb hby d14_12) _ k) ?_
  refine gv T18 15 #[sR ya,sI 5,sR yb,sI 5,sI 7,sI 5,sI d5] [] (fun t k => XS.istore X18.here hx rfl (hb hby d14_13) rfl (l' := #[sR ya,sI 5,sR yb,sI 5,sI 7,sI 5,sI d5]) rfl k) ?_
  refine gv T18 17 #[sR ya,sI 5,sR yb,sI 5,sI 7,sI 5,sI d5] [(.int d5)] (fun t k => XS.iload X18.here hx rfl (hb hby d14_15) rfl k) ?_
  refine gv T18 20 #[sR ya,sI 5,sR yb,sI 5,sI 7,sI 5,sI d5] [(.int 255),(.int d5)] (fun t k => XS.sipush X18.here hx rfl (hb hby d14_17) k) ?_
  refine gv T18 26 #[sR ya,sI 5,sR yb,sI 5,sI 7,sI 5,sI d5] [] (fun t k => XS.icmpYes X18.here hx rfl (pc0 := 20) (pc' := 26) rfl (hb hby d14_20) rfl (flt hd5).2.2.2 (by decide) (by decide) k) ?_
  refine gv T18 27 #[sR ya,sI 5,sR yb,sI 5,sI 7,sI 5,sI d5] [(.ref yb)] (fun t k => XS.aloadN X18.here hx rfl (hb hby d14_26) rfl rfl k) ?_
  refine gv T18 28 #[sR ya,sI 5,sR yb,sI 5,sI 7,sI 5,sI d5] [(.int 5),(.ref yb)] (fun t k => XS.iloadN X18.here hx rfl (hb hby d14_27) rfl k) ?_
  refine gv T18 30 #[sR ya,sI 5,sR yb,sI 5,sI 7,sI 5,sI d5] [(.int d5),(.int 5),(.ref yb)] (fun t k => XS.iload X18.here hx rfl (hb hby d14_28) rfl k) ?_
  refine gv T18 31 #[sR ya,sI 5,sR yb,sI 5,sI 7,sI 5,sI d5] [(.int (d5.toInt8.toInt32)),(.int 5),(.ref yb)] (fun t k => XS.i2b X18.here hx rfl (hb hby d14_30) rfl k) ?_
  obtain ⟨cl22,Ar22,q22,S22,M22,Hs22,G22⟩ := id f20
  have hin22 : ¬ ((5 : Int32) < 0 ∨ cl22.slots.size ≤ ((5 : Int32)).toNatClampNeg) := inb_of S22 ⟨by decide,by decide⟩
  obtain ⟨T22,h22,X22,e22,W22,st22⟩ := stB X18 hx hZ e18 Ar22 (j := (5 : Int32)) hin22 (g := (mkF m 31 #[sR ya,sI 5,sR yb,sI 5,sI 7,sI 5,sI d5] [(.int (d5.toInt8.toInt32)),(.int 5),(.ref yb)])) rfl rfl (hb hby d14_31)
  have f23 := f19.other W22 ne_ya_yb
  have f24 : Arv Z h22 yb kb .byte (7 : Int32) [(.int (nar .byte (d0.toInt8.toInt32))),(.int (nar .byte (d1.toInt8.toInt32))),(.int (nar .byte (d2.toInt8.toInt32))),(.int (nar .byte (d3.toInt8.toInt32))),(.int (nar .byte (d4.toInt8.toInt32))),(.int (nar .byte (d5.toInt8.toInt32))),(.int 0)] (.int 0) := Arv.set Ar22 q22 S22 M22 Hs22 G22 (fits_nar_byte _) W22 5 rfl (Nat.le_of_ble_eq_true rfl)
  have K22 := Keep.wr K18 W22 (Or.inl (List.mem_of_getElem? (i := 0) rfl))
  have Z22 := Nat.le_trans Z0 K22.1
  have N22 := Fr.snoc X22 N18 g_yb
  refine gv T22 32 #[sR ya,sI 5,sR yb,sI 5,sI 7,sI 5,sI d5] [] (fun t k => st22 _ k) ?_
  refine gv T22 35 #[sR ya,sI 6,sR yb,sI 5,sI 7,sI 5,sI d5] [] (fun t k => XS.iinc X22.here hx rfl (hb hby d14_32) rfl (l' := #[sR ya,sI 6,sR yb,sI 5,sI 7,sI 5,sI d5]) rfl k) ?_
  refine gv T22 38 #[sR ya,sI 6,sR yb,sI 6,sI 7,sI 5,sI d5] [] (fun t k => XS.iinc X22.here hx rfl (hb hby d14_35) rfl (l' := #[sR ya,sI 6,sR yb,sI 6,sI 7,sI 5,sI d5]) rfl k) ?_
  refine gv T22 41 #[sR ya,sI 6,sR yb,sI 6,sI 7,sI 6,sI d5] [] (fun t k => XS.iinc X22.here hx rfl (hb hby d14_38) rfl (l' := #[sR ya,sI 6,sR yb,sI 6,sI 7,sI 6,sI d5]) rfl k) ?_
  refine gv T22 3 #[sR ya,sI 6,sR yb,sI 6,sI 7,sI 6,sI d5] [] (fun t k => XS.goto X22.here hx rfl (pc0 := 41) (pc' := 3) rfl (hb hby d14_41) (by decide) (by decide) k) ?_
  refine gv T22 5 #[sR ya,sI 6,sR yb,sI 6,sI 7,sI 6,sI d5] [(.int 6)] (fun t k => XS.iload X22.here hx rfl (hb hby d14_3) rfl k) ?_
  refine gv T22 7 #[sR ya,sI 6,sR yb,sI 6,sI 7,sI 6,sI d5] [(.int 7),(.int 6)] (fun t k => XS.iload X22.here hx rfl (hb hby d14_5) rfl k) ?_
  refine gv T22 10 #[sR ya,sI 6,sR yb,sI 6,sI 7,sI 6,sI d5] [] (fun t k => XS.icmpNo X22.here hx rfl (hb hby d14_7) rfl (tlt (by decide : ((6 : Int32) < (7 : Int32)))).2.1 k) ?_
  refine gv T22 11 #[sR ya,sI 6,sR yb,sI 6,sI 7,sI 6,sI d5] [(.ref ya)] (fun t k => XS.aloadN X22.here hx rfl (hb hby d14_10) rfl rfl k) ?_
  refine gv T22 12 #[sR ya,sI 6,sR yb,sI 6,sI 7,sI 6,sI d5] [(.int 6),(.ref ya)] (fun t k => XS.iloadN X22.here hx rfl (hb hby d14_11) rfl k) ?_
  obtain ⟨cl25,Ar25,q25,S25,M25,Hs25,G25⟩ := id f23
  have hin25 : ¬ ((6 : Int32) < 0 ∨ cl25.slots.size ≤ ((6 : Int32)).toNatClampNeg) := inb_of S25 ⟨by decide,by decide⟩
  have hat25 : cl25.slots[((6 : Int32)).toNatClampNeg]? = some (.int d6) := Has.at Hs25 hin25 rfl
  refine gv T22 13 #[sR ya,sI 6,sR yb,sI 6,sI 7,sI 6,sI d5] [(.int d6)] (fun t k => X22.caload hx (j := (6 : Int32)) (v := (.int d6)) (by rw [e22]; exact Ar25.1) (State.isArrayOf_alike hZ.alike Ar25.2.1) Ar25.2.2 hin25 hat25 (g := (mkF m 12 #[sR ya,sI 6,sR yb,sI 6,sI 7,sI 6,sI d5] [(.int 6),(.ref ya)])) rfl rfl (hb hby d14_12) _ k) ?_
  refine gv T22 15 #[sR ya,sI 6,sR yb,sI 6,sI 7,sI 6,sI d6] [] (fun t k => XS.istore X22.here hx rfl (hb hby d14_13) rfl (l' := #[sR ya,sI 6,sR yb,sI 6,sI 7,sI 6,sI d6]) rfl k) ?_
  refine gv T22 17 #[sR ya,sI 6,sR yb,sI 6,sI 7,sI 6,sI d6] [(.int d6)] (fun t k => XS.iload X22.here hx rfl (hb hby d14_15) rfl k) ?_
  refine gv T22 20 #[sR ya,sI 6,sR yb,sI 6,sI 7,sI 6,sI d6] [(.int 255),(.int d6)] (fun t k => XS.sipush X22.here hx rfl (hb hby d14_17) k) ?_
  refine gv T22 26 #[sR ya,sI 6,sR yb,sI 6,sI 7,sI 6,sI d6] [] (fun t k => XS.icmpYes X22.here hx rfl (pc0 := 20) (pc' := 26) rfl (hb hby d14_20) rfl (flt hd6).2.2.2 (by decide) (by decide) k) ?_
  refine gv T22 27 #[sR ya,sI 6,sR yb,sI 6,sI 7,sI 6,sI d6] [(.ref yb)] (fun t k => XS.aloadN X22.here hx rfl (hb hby d14_26) rfl rfl k) ?_
  refine gv T22 28 #[sR ya,sI 6,sR yb,sI 6,sI 7,sI 6,sI d6] [(.int 6),(.ref yb)] (fun t k => XS.iloadN X22.here hx rfl (hb hby d14_27) rfl k) ?_
  refine gv T22 30 #[sR ya,sI 6,sR yb,sI 6,sI 7,sI 6,sI d6] [(.int d6),(.int 6),(.ref yb)] (fun t k => XS.iload X22.here hx rfl (hb hby d14_28) rfl k) ?_
  refine gv T22 31 #[sR ya,sI 6,sR yb,sI 6,sI 7,sI 6,sI d6] [(.int (d6.toInt8.toInt32)),(.int 6),(.ref yb)] (fun t k => XS.i2b X22.here hx rfl (hb hby d14_30) rfl k) ?_
  obtain ⟨cl26,Ar26,q26,S26,M26,Hs26,G26⟩ := id f24
  have hin26 : ¬ ((6 : Int32) < 0 ∨ cl26.slots.size ≤ ((6 : Int32)).toNatClampNeg) := inb_of S26 ⟨by decide,by decide⟩
  obtain ⟨T26,h26,X26,e26,W26,st26⟩ := stB X22 hx hZ e22 Ar26 (j := (6 : Int32)) hin26 (g := (mkF m 31 #[sR ya,sI 6,sR yb,sI 6,sI 7,sI 6,sI d6] [(.int (d6.toInt8.toInt32)),(.int 6),(.ref yb)])) rfl rfl (hb hby d14_31)
  have f27 := f23.other W26 ne_ya_yb
  have f28 : Arv Z h26 yb kb .byte (7 : Int32) [(.int (nar .byte (d0.toInt8.toInt32))),(.int (nar .byte (d1.toInt8.toInt32))),(.int (nar .byte (d2.toInt8.toInt32))),(.int (nar .byte (d3.toInt8.toInt32))),(.int (nar .byte (d4.toInt8.toInt32))),(.int (nar .byte (d5.toInt8.toInt32))),(.int (nar .byte (d6.toInt8.toInt32)))] (.int 0) := Arv.set Ar26 q26 S26 M26 Hs26 G26 (fits_nar_byte _) W26 6 rfl (Nat.le_of_ble_eq_true rfl)
  have K26 := Keep.wr K22 W26 (Or.inl (List.mem_of_getElem? (i := 0) rfl))
  have Z26 := Nat.le_trans Z0 K26.1
  have N26 := Fr.snoc X26 N22 g_yb
  refine gv T26 32 #[sR ya,sI 6,sR yb,sI 6,sI 7,sI 6,sI d6] [] (fun t k => st26 _ k) ?_
  refine gv T26 35 #[sR ya,sI 7,sR yb,sI 6,sI 7,sI 6,sI d6] [] (fun t k => XS.iinc X26.here hx rfl (hb hby d14_32) rfl (l' := #[sR ya,sI 7,sR yb,sI 6,sI 7,sI 6,sI d6]) rfl k) ?_
  refine gv T26 38 #[sR ya,sI 7,sR yb,sI 7,sI 7,sI 6,sI d6] [] (fun t k => XS.iinc X26.here hx rfl (hb hby d14_35) rfl (l' := #[sR ya,sI 7,sR yb,sI 7,sI 7,sI 6,sI d6]) rfl k) ?_
  refine gv T26 41 #[sR ya,sI 7,sR yb,sI 7,sI 7,sI 7,sI d6] [] (fun t k => XS.iinc X26.here hx rfl (hb hby d14_38) rfl (l' := #[sR ya,sI 7,sR yb,sI 7,sI 7,sI 7,sI d6]) rfl k) ?_
  refine gv T26 3 #[sR ya,sI 7,sR yb,sI 7,sI 7,sI 7,sI d6] [] (fun t k => XS.goto X26.here hx rfl (pc0 := 41) (pc' := 3) rfl (hb hby d14_41) (by decide) (by decide) k) ?_
  refine gv T26 5 #[sR ya,sI 7,sR yb,sI 7,sI 7,sI 7,sI d6] [(.int 7)] (fun t k => XS.iload X26.here hx rfl (hb hby d14_3) rfl k) ?_
  refine gv T26 7 #[sR ya,sI 7,sR yb,sI 7,sI 7,sI 7,sI d6] [(.int 7),(.int 7)] (fun t k => XS.iload X26.here hx rfl (hb hby d14_5) rfl k) ?_
  refine gv T26 44 #[sR ya,sI 7,sR yb,sI 7,sI 7,sI 7,sI d6] [] (fun t k => XS.icmpYes X26.here hx rfl (pc0 := 7) (pc' := 44) rfl (hb hby d14_7) rfl (flt (by decide : ¬ ((7 : Int32) < (7 : Int32)))).2.1 (by decide) (by decide) k) ?_
  refine gv T26 46 #[sR ya,sI 7,sR yb,sI 7,sI 7,sI 7,sI d6] [(.int 7)] (fun t k => XS.iload X26.here hx rfl (hb hby d14_44) rfl k) ?_
  exact own_ret X26 hx Bd.notSynchronized Bd.returns rfl (Or.inl ⟨rfl,by simp,_,rfl⟩) (hb hby d14_46) e26 ⟨rfl,N26,K26,f28⟩ (by decide) (by decide)
theorem ef_137 (m : MethodId) (ya : Addr) : entryFrame m #[(.ref ya), (.int (0 : Int32)), (.int (7 : Int32))] 6 = mkF m 0 #[.val (.ref ya), .val (.int (0 : Int32)), .val (.int (7 : Int32)), .unset, .unset, .unset] [] := by first | (simp [entryFrame, mkF, argsToLocals, Value.category]; done) | rfl
def Q137 (Z : State) (ya : Addr) (ka : ClassId) (d0 : Int32) (d1 : Int32) (d2 : Int32) (d3 : Int32) (d4 : Int32) (d5 : Int32) (d6 : Int32) (h0 : Heap) (n0 : Nat) (v : Option Value) (h : Heap) (L : List Loc) : Prop := ∃ (yb : Addr) (kb : ClassId), v = some (.ref yb) ∧ Fr n0 L ∧ Keep h0 h [] ∧ Arv Z h yb kb .byte (7 : Int32) [(.int (nar .byte (d0.toInt8.toInt32))), (.int (nar .byte (d1.toInt8.toInt32))), (.int (nar .byte (d2.toInt8.toInt32))), (.int (nar .byte (d3.toInt8.toInt32))), (.int (nar .byte (d4.toInt8.toInt32))), (.int (nar .byte (d5.toInt8.toInt32))), (.int (nar .byte (d6.toInt8.toInt32)))] (.int (0 : Int32)) ∧ n0 ≤ yb ∧ h0.size ≤ yb
set_option maxRecDepth 65536 in
set_option maxHeartbeats 40000000 in
theorem rm137 (l : Launch) (Z : State) (a0 : Array Value) (hw : ∀ d ∈ tables_1, d.before a0 Z = true) (ws : List Jvm.Cond) (ya : Addr) (ka : ClassId) (d0 : Int32) (d1 : Int32) (d2 : Int32) (d3 : Int32) (d4 : Int32) (d5 : Int32) (d6 : Int32) (h0 : Heap) (n0 : Nat) (Z0 : n0 ≤ h0.size) (f0_ya : Arv Z h0 ya ka .char (7 : Int32) [(.int d0), (.int d1), (.int d2), (.int d3), (.int d4), (.int d5), (.int d6)] (.int (0 : Int32))) (hd0 : ¬ (255 : Int32) < d0) (hd1 : ¬ (255 : Int32) < d1) (hd2 : ¬ (255 : Int32) < d2) (hd3 : ¬ (255 : Int32) < d3) (hd4 : ¬ (255 : Int32) < d4) (hd5 : ¬ (255 : Int32) < d5) (hd6 : ¬ (255 : Int32) < d6) :
    MetFree l (⟨"java/lang/StringUTF16", "compress", "([CII)[B"⟩ : MethodName) (head1 (Jvm.Cond.code (⟨"java/lang/StringUTF16", "compress", "([CII)[B"⟩ : MethodName) jdk_52_method_16_code 6 (some (.array .byte)) :: ws) ({ frames := 1, cells := 1, slots := 7, locals := 18 } : Room)) (fun a U => a = #[(.ref ya), (.int 0), (.int 7)] ∧ Z.Warmed39 U.vm ∧ U.heap = h0) (fun _ _ _ _ _ => True) (fun _ U o U' => ∃ v L, o = .returned v ∧ Q137 Z ya ka d0 d1 d2 d3 d4 d5 d6 h0 n0 v U'.heap L ∧ FrameEnd U o U' L 1 7) := by
  refine MetFree.of_bodySF (plainFor_of_name pn_105) hisR ?_
  intro p e s m args below meth c s₁ Bd hml0 hP hK
  obtain ⟨rfl,hZ,hh⟩ := hP
  have hx := Bd.exec
  have hby := Bd.bytes
  have hml : c.maxLocals = 6 := hml0
  have hown : s.vm.findClass "java/lang/StringUTF16" = some m.cls := findClass_of_methodNamed Bd.named
  have hnm := (name_of_methodNamed Bd.named Bd.method).1
  have X0 : Stand p l e ({ frames := 1,cells := 1,slots := 7,locals := 18 } : Room) s m #[(.ref ya),(.int 0),(.int 7)] below meth c s₁ [] 0 0 := Stand.of_body Bd
  have e0 : s₁.heap = h0 := by rw [← hh,Bd.state]; rfl
  have N0 := Fr.nil n0
  refine own_start (Q := fun v h L => Q137 Z ya ka d0 d1 d2 d3 d4 d5 d6 h0 n0 v h L) ?_
  refine gv s₁ 0 #[sR ya,sI 0,sI 7,sU,sU,sU] [] (fun t k => castTop (ef_137 m ya) k) ?_
  refine gv s₁ 1 #[sR ya,sI 0,sI 7,sU,sU,sU] [(.int 7)] (fun t k => XS.iloadN X0.here hx rfl (hb hby d13_0) rfl k) ?_
  obtain ⟨T1,h1,k1,X1,e1,E1,A1,st1⟩ := newP X0 hx hZ (w_ hw 10 rfl) e0 (g := (mkF m 1 #[sR ya,sI 0,sI 7,sU,sU,sU] [(.int 7)])) rfl (hb hby d13_1) rfl (by decide) (cap := 7) (by decide) (by decide) (by decide) (by decide)
  obtain ⟨b1,g1⟩ : ∃ z,z = h0.size := ⟨_,rfl⟩
  rw [← g1] at A1 st1
  have f2 := f0_ya.ext E1
  have K1 := Keep.ext (Keep.refl h0 []) E1
  have Z1 := Nat.le_trans Z0 K1.1
  have g_b1 : n0 ≤ b1 := Nat.le_trans Z0 (Nat.le_of_eq g1.symm)
  have sz_b1 : h0.size ≤ b1 := Nat.le_trans ((Keep.refl h0 [])).1 (Nat.le_of_eq g1.symm)
  have ne_ya_b1 : ya ≠ b1 := Nat.ne_of_lt (Nat.lt_of_lt_of_le f0_ya.lt (Nat.le_of_eq g1.symm))
  have f3 : Arv Z h1 b1 k1 .byte (7 : Int32) [(.int 0),(.int 0),(.int 0),(.int 0),(.int 0),(.int 0),(.int 0)] (.int 0) := (Arv.new A1 (by decide)).pad (pad_rep [] (.int 0) 7)
  refine gv T1 3 #[sR ya,sI 0,sI 7,sU,sU,sU] [(.ref b1)] (fun t k => st1 _ k) ?_
  refine gv T1 4 #[sR ya,sI 0,sI 7,sR b1,sU,sU] [] (fun t k => XS.astoreN X1.here hx rfl (hb hby d13_3) rfl rfl (l' := #[sR ya,sI 0,sI 7,sR b1,sU,sU]) rfl k) ?_
  refine gv T1 5 #[sR ya,sI 0,sI 7,sR b1,sU,sU] [(.ref ya)] (fun t k => XS.aloadN X1.here hx rfl (hb hby d13_4) rfl rfl k) ?_
  refine gv T1 6 #[sR ya,sI 0,sI 7,sR b1,sU,sU] [(.int 0),(.ref ya)] (fun t k => XS.iloadN X1.here hx rfl (hb hby d13_5) rfl k) ?_
  refine gv T1 7 #[sR ya,sI 0,sI 7,sR b1,sU,sU] [(.ref b1),(.int 0),(.ref ya)] (fun t k => XS.aloadN X1.here hx rfl (hb hby d13_6) rfl rfl k) ?_
  refine gv T1 8 #[sR ya,sI 0,sI 7,sR b1,sU,sU] [(.int 0),(.ref b1),(.int 0),(.ref ya)] (fun t k => XS.iconst X1.here hx rfl (hb hby d13_7) k) ?_
  refine gv T1 9 #[sR ya,sI 0,sI 7,sR b1,sU,sU] [(.int 7),(.int 0),(.ref b1),(.int 0),(.ref ya)] (fun t k => XS.iloadN X1.here hx rfl (hb hby d13_8) rfl k) ?_
  obtain ⟨_,_,⟨T4,L4,k4,n4⟩,-,X4,⟨Lc4,hQ4,l4,y4,z4⟩,st4⟩ := Jvm.LawKit.callS X1 hx (y := (⟨"java/lang/StringUTF16","compress","([CI[BII)I"⟩ : MethodName)) hown (mvT hZ (w_ hw 66 rfl)) (mvT hZ (w_ hw 67 rfl)) (mvT hZ (w_ hw 64 rfl)) (mvT hZ (w_ hw 68 rfl)) (by decide) (backOf (W := 0) (rm147 l Z a0 hw [] ya b1 ka k1 d0 d1 d2 d3 d4 d5 d6 h1 n0 Z1 f2 f3 ne_ya_b1 g_b1 hd0 hd1 hd2 hd3 hd4 hd5 hd6) hZ (w_ hw 68 rfl) (w_ hw 64 rfl) (by decide) (by decide)) (g := (mkF m 9 #[sR ya,sI 0,sI 7,sR b1,sU,sU] [(.int 7),(.int 0),(.ref b1),(.int 0),(.ref ya)])) rfl (by rw [hml]; rfl) (argsL := [(.ref ya),(.int 0),(.ref b1),(.int 0),(.int 7)]) (rest := []) (lenOf pd_8 rfl) rfl (own_rm rfl) (hb hby d13_9) (fun _ _ => ⟨rfl,e1,(by decide : 1 + 0 ≤ _),(by decide : 7 + 0 ≤ _)⟩)
  dsimp only [Pt.U, Pt.locs, Pt.cells, Pt.slots] at X4 l4 y4 z4 st4 hQ4
  replace X4 := own_cast X4 l4 y4 z4
  obtain ⟨rfl,N4q,K4q,po4_0⟩ := hQ4
  have N4 := Fr.app N0 N4q
  have f5 := f2.keep K4q (ninS ne_ya_b1 nin0)
  have K4 := Keep.trans K1 K4q (allS (Or.inr sz_b1) all0)
  have Z4 := Nat.le_trans Z0 K4.1
  refine gv T4 12 #[sR ya,sI 0,sI 7,sR b1,sU,sU] [(.int 7)] (fun t k => st4 _ k) ?_
  refine gv T4 14 #[sR ya,sI 0,sI 7,sR b1,sI 7,sU] [] (fun t k => XS.istore X4.here hx rfl (hb hby d13_12) rfl (l' := #[sR ya,sI 0,sI 7,sR b1,sI 7,sU]) rfl k) ?_
  refine gv T4 16 #[sR ya,sI 0,sI 7,sR b1,sI 7,sU] [(.int 7)] (fun t k => XS.iload X4.here hx rfl (hb hby d13_14) rfl k) ?_
  refine gv T4 17 #[sR ya,sI 0,sI 7,sR b1,sI 7,sU] [(.int 7),(.int 7)] (fun t k => XS.iloadN X4.here hx rfl (hb hby d13_16) rfl k) ?_
  refine gv T4 57 #[sR ya,sI 0,sI 7,sR b1,sI 7,sU] [] (fun t k => XS.icmpYes X4.here hx rfl (pc0 := 17) (pc' := 57) rfl (hb hby d13_17) rfl (teq rfl).1 (by decide) (by decide) k) ?_
  refine gv T4 58 #[sR ya,sI 0,sI 7,sR b1,sI 7,sU] [(.ref b1)] (fun t k => XS.aloadN X4.here hx rfl (hb hby d13_57) rfl rfl k) ?_
  exact own_ret X4 hx Bd.notSynchronized Bd.returns rfl (Or.inr (Or.inr (Or.inr (Or.inr ⟨rfl,rfl,rfl⟩)))) (hb hby d13_58) rfl ⟨b1,k1,rfl,N4,K4,po4_0,g_b1,sz_b1⟩ (by decide) (by decide)
theorem ef_117 (m : MethodId) (xs : Addr) (ya : Addr) : entryFrame m #[(.ref xs), (.ref ya), (.int (0 : Int32)), (.int (7 : Int32)), .null] 6 = mkF m 0 #[.val (.ref xs), .val (.ref ya), .val (.int (0 : Int32)), .val (.int (7 : Int32)), .val .null, .unset] [] := by first | (simp [entryFrame, mkF, argsToLocals, Value.category]; done) | rfl
def Q117 (Z : State) (xs : Addr) (ya : Addr) (ka : ClassId) (wc : Int32) (u0 : Value) (u1 : Value) (d0 : Int32) (d1 : Int32) (d2 : Int32) (d3 : Int32) (d4 : Int32) (d5 : Int32) (d6 : Int32) (h0 : Heap) (n0 : Nat) (v : Option Value) (h : Heap) (L : List Loc) : Prop := ∃ (yb : Addr) (kb : ClassId), v = none ∧ Fr n0 L ∧ Keep h0 h [xs] ∧ Exa Z h xs "java/lang/String" ∧ Fld Z h xs "java/lang/String" "coder" "B" (.int (0 : Int32)) ∧ Fld Z h xs "java/lang/String" "value" "[B" (.ref yb) ∧ Arv Z h yb kb .byte (7 : Int32) [(.int (nar .byte (d0.toInt8.toInt32))), (.int (nar .byte (d1.toInt8.toInt32))), (.int (nar .byte (d2.toInt8.toInt32))), (.int (nar .byte (d3.toInt8.toInt32))), (.int (nar .byte (d4.toInt8.toInt32))), (.int (nar .byte (d5.toInt8.toInt32))), (.int (nar .byte (d6.toInt8.toInt32)))] (.int (0 : Int32)) ∧ n0 ≤ yb ∧ h0.size ≤ yb
set_option maxRecDepth 65536 in
set_option maxHeartbeats 40000000 in
theorem rm117 (l : Launch) (Z : State) (a0 : Array Value) (hw : ∀ d ∈ tables_1, d.before a0 Z = true) (ws : List Jvm.Cond) (xs : Addr) (ya : Addr) (ka : ClassId) (wc : Int32) (u0 : Value) (u1 : Value) (d0 : Int32) (d1 : Int32) (d2 : Int32) (d3 : Int32) (d4 : Int32) (d5 : Int32) (d6 : Int32) (h0 : Heap) (n0 : Nat) (Z0 : n0 ≤ h0.size) (f0_xs : Exa Z h0 xs "java/lang/String") (f1_xs_coder : Fld Z h0 xs "java/lang/String" "coder" "B" u0) (f2_xs_value : Fld Z h0 xs "java/lang/String" "value" "[B" u1) (f3_ya : Arv Z h0 ya ka .char (7 : Int32) [(.int d0), (.int d1), (.int d2), (.int d3), (.int d4), (.int d5), (.int d6)] (.int (0 : Int32))) (f4_COMPACT_STRINGS : Sta Z h0 "java/lang/String" "COMPACT_STRINGS" "Z" (.int wc)) (ne_xs_ya : xs ≠ ya) (g_xs : n0 ≤ xs) (hd0 : ¬ (255 : Int32) < d0) (hd1 : ¬ (255 : Int32) < d1) (hd2 : ¬ (255 : Int32) < d2) (hd3 : ¬ (255 : Int32) < d3) (hd4 : ¬ (255 : Int32) < d4) (hd5 : ¬ (255 : Int32) < d5) (hd6 : ¬ (255 : Int32) < d6) (hwc : ¬ wc = (0 : Int32)) :
    MetFree l (⟨"java/lang/String", "<init>", "([CIILjava/lang/Void;)V"⟩ : MethodName) (head1 (Jvm.Cond.code (⟨"java/lang/String", "<init>", "([CIILjava/lang/Void;)V"⟩ : MethodName) jdk_42_method_149_code 6 none :: ws) ({ frames := 2, cells := 1, slots := 7, locals := 35 } : Room)) (fun a U => a = #[(.ref xs), (.ref ya), (.int 0), (.int 7), .null] ∧ Z.Warmed39 U.vm ∧ U.heap = h0) (fun _ _ _ _ _ => True) (fun _ U o U' => ∃ v L, o = .returned v ∧ Q117 Z xs ya ka wc u0 u1 d0 d1 d2 d3 d4 d5 d6 h0 n0 v U'.heap L ∧ FrameEnd U o U' L 1 7) := by
  refine MetFree.of_bodySF (plainFor_of_name pn_6) hisR ?_
  intro p e s m args below meth c s₁ Bd hml0 hP hK
  obtain ⟨rfl,hZ,hh⟩ := hP
  have hx := Bd.exec
  have hby := Bd.bytes
  have hml : c.maxLocals = 6 := hml0
  have hown : s.vm.findClass "java/lang/String" = some m.cls := findClass_of_methodNamed Bd.named
  have hnm := (name_of_methodNamed Bd.named Bd.method).1
  have X0 : Stand p l e ({ frames := 2,cells := 1,slots := 7,locals := 35 } : Room) s m #[(.ref xs),(.ref ya),(.int 0),(.int 7),.null] below meth c s₁ [] 0 0 := Stand.of_body Bd
  have e0 : s₁.heap = h0 := by rw [← hh,Bd.state]; rfl
  have N0 := Fr.nil n0
  refine own_start (Q := fun v h L => Q117 Z xs ya ka wc u0 u1 d0 d1 d2 d3 d4 d5 d6 h0 n0 v h L) ?_
  refine gv s₁ 0 #[sR xs,sR ya,sI 0,sI 7,.val .null,sU] [] (fun t k => castTop (ef_117 m xs ya) k) ?_
  refine gv s₁ 1 #[sR xs,sR ya,sI 0,sI 7,.val .null,sU] [(.ref xs)] (fun t k => XS.aloadN X0.here hx rfl (hb hby d11_0) rfl rfl k) ?_
  obtain ⟨T1,X1,e1,st1⟩ := initO X0 hx hZ hown (w_ hw 59 rfl) (w_ hw 60 rfl) (w_ hw 61 rfl) e0 (g := (mkF m 1 #[sR xs,sR ya,sI 0,sI 7,.val .null,sU] [(.ref xs)])) rfl (by rw [hml]; rfl) rfl (hb hby d11_1) (by decide) (W := 0) (own_rm rfl) (by decide)
  refine gv T1 4 #[sR xs,sR ya,sI 0,sI 7,.val .null,sU] [] (fun t k => st1 _ k) ?_
  refine gv T1 5 #[sR xs,sR ya,sI 0,sI 7,.val .null,sU] [(.int 7)] (fun t k => XS.iloadN X1.here hx rfl (hb hby d11_4) rfl k) ?_
  refine gv T1 27 #[sR xs,sR ya,sI 0,sI 7,.val .null,sU] [] (fun t k => XS.ifYes X1.here hx rfl (pc0 := 5) (pc' := 27) rfl (hb hby d11_5) rfl ((if0 _ _).trans (feq (by decide : ¬ ((7 : Int32) = (0 : Int32)))).2) (by decide) (by decide) k) ?_
  obtain ⟨T2,X2,e2,st2⟩ := getS2 X1 hx hZ hown (host := "") (Or.inl (w_ hw 26 rfl)) Via.refl e1 f4_COMPACT_STRINGS (g := (mkF m 27 #[sR xs,sR ya,sI 0,sI 7,.val .null,sU] [])) rfl (hb hby d11_27)
  refine gv T2 30 #[sR xs,sR ya,sI 0,sI 7,.val .null,sU] [(.int wc)] (fun t k => st2 _ k) ?_
  refine gv T2 33 #[sR xs,sR ya,sI 0,sI 7,.val .null,sU] [] (fun t k => XS.ifNo X2.here hx rfl (hb hby d11_30) rfl ((if0 _ _).trans (feq hwc).1) k) ?_
  refine gv T2 34 #[sR xs,sR ya,sI 0,sI 7,.val .null,sU] [(.ref ya)] (fun t k => XS.aloadN X2.here hx rfl (hb hby d11_33) rfl rfl k) ?_
  refine gv T2 35 #[sR xs,sR ya,sI 0,sI 7,.val .null,sU] [(.int 0),(.ref ya)] (fun t k => XS.iloadN X2.here hx rfl (hb hby d11_34) rfl k) ?_
  refine gv T2 36 #[sR xs,sR ya,sI 0,sI 7,.val .null,sU] [(.int 7),(.int 0),(.ref ya)] (fun t k => XS.iloadN X2.here hx rfl (hb hby d11_35) rfl k) ?_
  obtain ⟨_,_,⟨T3,L3,k3,n3⟩,-,X3,⟨Lc3,hQ3,l3,y3,z3⟩,st3⟩ := Jvm.LawKit.callS X2 hx (y := (⟨"java/lang/StringUTF16","compress","([CII)[B"⟩ : MethodName)) hown (mvT hZ (w_ hw 62 rfl)) (mvT hZ (w_ hw 63 rfl)) (mvT hZ (w_ hw 64 rfl)) (mvT hZ (w_ hw 65 rfl)) (by decide) (backOf (W := 0) (rm137 l Z a0 hw [] ya ka d0 d1 d2 d3 d4 d5 d6 h0 n0 Z0 f3_ya hd0 hd1 hd2 hd3 hd4 hd5 hd6) hZ (w_ hw 65 rfl) (w_ hw 64 rfl) (by decide) (by decide)) (g := (mkF m 36 #[sR xs,sR ya,sI 0,sI 7,.val .null,sU] [(.int 7),(.int 0),(.ref ya)])) rfl (by rw [hml]; rfl) (argsL := [(.ref ya),(.int 0),(.int 7)]) (rest := []) (lenOf pd_9 rfl) rfl (own_rm rfl) (hb hby d11_36) (fun _ _ => ⟨rfl,e2,(by decide : 0 + 1 ≤ _),(by decide : 0 + 7 ≤ _)⟩)
  dsimp only [Pt.U, Pt.locs, Pt.cells, Pt.slots] at X3 l3 y3 z3 st3 hQ3
  replace X3 := own_cast X3 l3 y3 z3
  obtain ⟨yb_3,kb_3,rfl,N3q,K3q,po3_0,px3_g_yb,px3_sz_yb⟩ := hQ3
  have N3 := Fr.app N0 N3q
  have f4 := f0_xs.keep K3q
  have f5 := f1_xs_coder.keep K3q nin0
  have f6 := f2_xs_value.keep K3q nin0
  have f7 := f3_ya.keep K3q nin0
  have f8 : Sta Z T3.heap "java/lang/String" "COMPACT_STRINGS" "Z" (.int wc) := own_staKeep f4_COMPACT_STRINGS K3q all0
  have K3 := Keep.trans (Keep.refl h0 [xs]) K3q all0
  have Z3 := Nat.le_trans Z0 K3.1
  have g_yb_3 := px3_g_yb
  have sz_yb_3 : h0.size ≤ yb_3 := Nat.le_trans ((Keep.refl h0 [xs])).1 px3_sz_yb
  have ne_xs_yb_3 : xs ≠ yb_3 := Nat.ne_of_lt (Nat.lt_of_lt_of_le f0_xs.lt px3_sz_yb)
  have ne_ya_yb_3 : ya ≠ yb_3 := Nat.ne_of_lt (Nat.lt_of_lt_of_le f3_ya.lt px3_sz_yb)
  refine gv T3 39 #[sR xs,sR ya,sI 0,sI 7,.val .null,sU] [(.ref yb_3)] (fun t k => st3 _ k) ?_
  refine gv T3 41 #[sR xs,sR ya,sI 0,sI 7,.val .null,sR yb_3] [] (fun t k => XS.astore X3.here hx rfl (hb hby d11_39) rfl rfl (l' := #[sR xs,sR ya,sI 0,sI 7,.val .null,sR yb_3]) rfl k) ?_
  refine gv T3 42 #[sR xs,sR ya,sI 0,sI 7,.val .null,sR yb_3] [(.ref xs)] (fun t k => XS.aloadN X3.here hx rfl (hb hby d11_41) rfl rfl k) ?_
  refine gv T3 44 #[sR xs,sR ya,sI 0,sI 7,.val .null,sR yb_3] [(.ref yb_3),(.ref xs)] (fun t k => XS.aload X3.here hx rfl (hb hby d11_42) rfl rfl k) ?_
  refine gv T3 45 #[sR xs,sR ya,sI 0,sI 7,.val .null,sR yb_3] [(.int 7),(.ref yb_3),(.ref xs)] (fun t k => XS.iloadN X3.here hx rfl (hb hby d11_44) rfl k) ?_
  obtain ⟨_,_,⟨T9,L9,k9,n9⟩,-,X9,⟨Lc9,hQ9,l9,y9,z9⟩,st9⟩ := Jvm.LawKit.callS X3 hx (y := (⟨"java/lang/StringUTF16","coderFromArrayLen","([BI)B"⟩ : MethodName)) hown (mvT hZ (w_ hw 69 rfl)) (mvT hZ (w_ hw 70 rfl)) (mvT hZ (w_ hw 64 rfl)) (mvT hZ (w_ hw 71 rfl)) (by decide) (backOf (W := 1) (rm157 l Z a0 hw [] yb_3 kb_3 ([(.int (nar .byte (d0.toInt8.toInt32))),(.int (nar .byte (d1.toInt8.toInt32))),(.int (nar .byte (d2.toInt8.toInt32))),(.int (nar .byte (d3.toInt8.toInt32))),(.int (nar .byte (d4.toInt8.toInt32))),(.int (nar .byte (d5.toInt8.toInt32))),(.int (nar .byte (d6.toInt8.toInt32)))] : List Value) T3.heap n0 Z3 po3_0) hZ (w_ hw 71 rfl) (w_ hw 64 rfl) (by decide) (by decide)) (g := (mkF m 45 #[sR xs,sR ya,sI 0,sI 7,.val .null,sR yb_3] [(.int 7),(.ref yb_3),(.ref xs)])) rfl (by rw [hml]; rfl) (argsL := [(.ref yb_3),(.int 7)]) (rest := [(.ref xs)]) (lenOf pd_10 rfl) rfl (own_rm rfl) (hb hby d11_45) (fun _ _ => ⟨rfl,rfl,(by decide : 1 + 0 ≤ _),(by decide : 7 + 0 ≤ _)⟩)
  dsimp only [Pt.U, Pt.locs, Pt.cells, Pt.slots] at X9 l9 y9 z9 st9 hQ9
  replace X9 := own_cast X9 l9 y9 z9
  obtain ⟨rfl,N9q,eq9⟩ := hQ9
  have N9 := Fr.app N3 N9q
  refine gv T9 48 #[sR xs,sR ya,sI 0,sI 7,.val .null,sR yb_3] [(.int 0),(.ref xs)] (fun t k => st9 _ k) ?_
  obtain ⟨T10,h10,X10,e10,W10,st10⟩ := putFN X9 hx hZ hown (w_ hw 27 rfl) Via.refl eq9 f5 f4 (Or.inr ⟨(w_ hw 12 rfl),rfl,hnm⟩) (w_ hw 9 rfl) (ty := .byte) (v' := (.int 0)) (by decide) rfl rfl (g := (mkF m 48 #[sR xs,sR ya,sI 0,sI 7,.val .null,sR yb_3] [(.int 0),(.ref xs)])) rfl rfl (hb hby d11_48)
  have f11 := f4.wr W10
  have f12 := f6.other W10 (Or.inr (slot_ne (Or.inr (w_ hw 11 rfl)) (Or.inr (w_ hw 12 rfl)) (by decide) (t := (.array .byte)) (t' := .byte) (by decide) (by decide)))
  have f13 := f7.other W10 (Ne.symm ne_xs_ya)
  have f14 := f8.wr W10
  have f15 := po3_0.other W10 (Ne.symm ne_xs_yb_3)
  have f16 : Fld Z h10 xs "java/lang/String" "coder" "B" (.int 0) := f5.same W10
  have K10 := Keep.wr K3 W10 (Or.inl (List.mem_of_getElem? (i := 0) rfl))
  have Z10 := Nat.le_trans Z0 K10.1
  have N10 := Fr.snoc X10 N9 g_xs
  refine gv T10 51 #[sR xs,sR ya,sI 0,sI 7,.val .null,sR yb_3] [] (fun t k => st10 _ k) ?_
  refine gv T10 52 #[sR xs,sR ya,sI 0,sI 7,.val .null,sR yb_3] [(.ref xs)] (fun t k => XS.aloadN X10.here hx rfl (hb hby d11_51) rfl rfl k) ?_
  refine gv T10 54 #[sR xs,sR ya,sI 0,sI 7,.val .null,sR yb_3] [(.ref yb_3),(.ref xs)] (fun t k => XS.aload X10.here hx rfl (hb hby d11_52) rfl rfl k) ?_
  obtain ⟨T17,h17,X17,e17,W17,st17⟩ := putF X10 hx hZ hown (host := "") (Or.inl (w_ hw 20 rfl)) Via.refl e10 f12 f11 (Or.inr ⟨(w_ hw 11 rfl),rfl,hnm⟩) (w_ hw 9 rfl) (ty := (.array .byte)) (by decide) rfl rfl (g := (mkF m 54 #[sR xs,sR ya,sI 0,sI 7,.val .null,sR yb_3] [(.ref yb_3),(.ref xs)])) rfl rfl (hb hby d11_54)
  have f18 := f11.wr W17
  have f19 := f13.other W17 (Ne.symm ne_xs_ya)
  have f20 := f14.wr W17
  have f21 := f15.other W17 (Ne.symm ne_xs_yb_3)
  have f22 := f16.other W17 (Or.inr (slot_ne (Or.inr (w_ hw 12 rfl)) (Or.inr (w_ hw 11 rfl)) (by decide) (t := .byte) (t' := (.array .byte)) (by decide) (by decide)))
  have f23 : Fld Z h17 xs "java/lang/String" "value" "[B" (.ref yb_3) := f12.same W17
  have K17 := Keep.wr K10 W17 (Or.inl (List.mem_of_getElem? (i := 0) rfl))
  have Z17 := Nat.le_trans Z0 K17.1
  have N17 := Fr.snoc X17 N10 g_xs
  refine gv T17 57 #[sR xs,sR ya,sI 0,sI 7,.val .null,sR yb_3] [] (fun t k => st17 _ k) ?_
  exact own_retV X17 hx Bd.notSynchronized Bd.returns (hb hby d11_57) e17 ⟨yb_3,kb_3,rfl,N17,K17,f18,f22,f23,f21,g_yb_3,sz_yb_3⟩ (by decide) (by decide)
theorem ef_107 (m : MethodId) (xs : Addr) (ya : Addr) : entryFrame m #[(.ref xs), (.ref ya)] 2 = mkF m 0 #[.val (.ref xs), .val (.ref ya)] [] := by first | (simp [entryFrame, mkF, argsToLocals, Value.category]; done) | rfl
def Q107 (Z : State) (xs : Addr) (ya : Addr) (ka : ClassId) (wc : Int32) (u0 : Value) (u1 : Value) (d0 : Int32) (d1 : Int32) (d2 : Int32) (d3 : Int32) (d4 : Int32) (d5 : Int32) (d6 : Int32) (h0 : Heap) (n0 : Nat) (v : Option Value) (h : Heap) (L : List Loc) : Prop := ∃ (yb : Addr) (kb : ClassId), v = none ∧ Fr n0 L ∧ Keep h0 h [xs] ∧ Exa Z h xs "java/lang/String" ∧ Fld Z h xs "java/lang/String" "coder" "B" (.int (0 : Int32)) ∧ Fld Z h xs "java/lang/String" "value" "[B" (.ref yb) ∧ Arv Z h yb kb .byte (7 : Int32) [(.int (nar .byte (d0.toInt8.toInt32))), (.int (nar .byte (d1.toInt8.toInt32))), (.int (nar .byte (d2.toInt8.toInt32))), (.int (nar .byte (d3.toInt8.toInt32))), (.int (nar .byte (d4.toInt8.toInt32))), (.int (nar .byte (d5.toInt8.toInt32))), (.int (nar .byte (d6.toInt8.toInt32)))] (.int (0 : Int32)) ∧ n0 ≤ yb ∧ h0.size ≤ yb
set_option maxRecDepth 65536 in
set_option maxHeartbeats 40000000 in
theorem rm107 (l : Launch) (Z : State) (a0 : Array Value) (hw : ∀ d ∈ tables_1, d.before a0 Z = true) (ws : List Jvm.Cond) (xs : Addr) (ya : Addr) (ka : ClassId) (wc : Int32) (u0 : Value) (u1 : Value) (d0 : Int32) (d1 : Int32) (d2 : Int32) (d3 : Int32) (d4 : Int32) (d5 : Int32) (d6 : Int32) (h0 : Heap) (n0 : Nat) (Z0 : n0 ≤ h0.size) (f0_xs : Exa Z h0 xs "java/lang/String") (f1_xs_coder : Fld Z h0 xs "java/lang/String" "coder" "B" u0) (f2_xs_value : Fld Z h0 xs "java/lang/String" "value" "[B" u1) (f3_ya : Arv Z h0 ya ka .char (7 : Int32) [(.int d0), (.int d1), (.int d2), (.int d3), (.int d4), (.int d5), (.int d6)] (.int (0 : Int32))) (f4_COMPACT_STRINGS : Sta Z h0 "java/lang/String" "COMPACT_STRINGS" "Z" (.int wc)) (ne_xs_ya : xs ≠ ya) (g_xs : n0 ≤ xs) (hd0 : ¬ (255 : Int32) < d0) (hd1 : ¬ (255 : Int32) < d1) (hd2 : ¬ (255 : Int32) < d2) (hd3 : ¬ (255 : Int32) < d3) (hd4 : ¬ (255 : Int32) < d4) (hd5 : ¬ (255 : Int32) < d5) (hd6 : ¬ (255 : Int32) < d6) (hwc : ¬ wc = (0 : Int32)) :
    MetFree l (⟨"java/lang/String", "<init>", "([C)V"⟩ : MethodName) (head1 (Jvm.Cond.code (⟨"java/lang/String", "<init>", "([C)V"⟩ : MethodName) jdk_42_method_3_code 2 none :: ws) ({ frames := 3, cells := 1, slots := 7, locals := 52 } : Room)) (fun a U => a = #[(.ref xs), (.ref ya)] ∧ Z.Warmed39 U.vm ∧ U.heap = h0) (fun _ _ _ _ _ => True) (fun _ U o U' => ∃ v L, o = .returned v ∧ Q107 Z xs ya ka wc u0 u1 d0 d1 d2 d3 d4 d5 d6 h0 n0 v U'.heap L ∧ FrameEnd U o U' L 1 7) := by
  refine MetFree.of_bodySF (plainFor_of_name pn_6) hisR ?_
  intro p e s m args below meth c s₁ Bd hml0 hP hK
  obtain ⟨rfl,hZ,hh⟩ := hP
  have hx := Bd.exec
  have hby := Bd.bytes
  have hml : c.maxLocals = 2 := hml0
  have hown : s.vm.findClass "java/lang/String" = some m.cls := findClass_of_methodNamed Bd.named
  have hnm := (name_of_methodNamed Bd.named Bd.method).1
  have X0 : Stand p l e ({ frames := 3,cells := 1,slots := 7,locals := 52 } : Room) s m #[(.ref xs),(.ref ya)] below meth c s₁ [] 0 0 := Stand.of_body Bd
  have e0 : s₁.heap = h0 := by rw [← hh,Bd.state]; rfl
  have N0 := Fr.nil n0
  refine own_start (Q := fun v h L => Q107 Z xs ya ka wc u0 u1 d0 d1 d2 d3 d4 d5 d6 h0 n0 v h L) ?_
  refine gv s₁ 0 #[sR xs,sR ya] [] (fun t k => castTop (ef_107 m xs ya) k) ?_
  refine gv s₁ 1 #[sR xs,sR ya] [(.ref xs)] (fun t k => XS.aloadN X0.here hx rfl (hb hby d10_0) rfl rfl k) ?_
  refine gv s₁ 2 #[sR xs,sR ya] [(.ref ya),(.ref xs)] (fun t k => XS.aloadN X0.here hx rfl (hb hby d10_1) rfl rfl k) ?_
  refine gv s₁ 3 #[sR xs,sR ya] [(.int 0),(.ref ya),(.ref xs)] (fun t k => XS.iconst X0.here hx rfl (hb hby d10_2) k) ?_
  refine gv s₁ 4 #[sR xs,sR ya] [(.ref ya),(.int 0),(.ref ya),(.ref xs)] (fun t k => XS.aloadN X0.here hx rfl (hb hby d10_3) rfl rfl k) ?_
  obtain ⟨cl1,Ar1,q1,S1,M1,Hs1,G1⟩ := id f3_ya
  refine gv s₁ 5 #[sR xs,sR ya] [(.int 7),(.int 0),(.ref ya),(.ref xs)] (fun t k => X0.arraylength hx (by rw [e0]; exact Ar1.1) (State.isArrayOf_alike hZ.alike Ar1.2.1) (g := (mkF m 4 #[sR xs,sR ya] [(.ref ya),(.int 0),(.ref ya),(.ref xs)])) rfl rfl (hb hby d10_4) _ (by rw [len_of S1 M1]; exact k)) ?_
  refine gv s₁ 6 #[sR xs,sR ya] [.null,(.int 7),(.int 0),(.ref ya),(.ref xs)] (fun t k => XS.aconstNull X0.here hx rfl (hb hby d10_5) k) ?_
  obtain ⟨_,_,⟨T2,L2,k2,n2⟩,-,X2,⟨Lc2,hQ2,l2,y2,z2⟩,st2⟩ := X0.specialBack hx (y := (⟨"java/lang/String","<init>","([CIILjava/lang/Void;)V"⟩ : MethodName)) rfl hown (mvT hZ (w_ hw 55 rfl)) (mvT hZ (w_ hw 56 rfl)) (mvT hZ (w_ hw 58 rfl)) (by decide) (backOf (W := 0) (rm117 l Z a0 hw [] xs ya ka wc u0 u1 d0 d1 d2 d3 d4 d5 d6 h0 n0 Z0 f0_xs f1_xs_coder f2_xs_value f3_ya f4_COMPACT_STRINGS ne_xs_ya g_xs hd0 hd1 hd2 hd3 hd4 hd5 hd6 hwc) hZ (w_ hw 58 rfl) (w_ hw 8 rfl) (by decide) (by decide)) (g := (mkF m 6 #[sR xs,sR ya] [.null,(.int 7),(.int 0),(.ref ya),(.ref xs)])) rfl (by rw [hml]; rfl) (Steps.refl _) (a := xs) (argsL := [(.ref ya),(.int 0),(.int 7),.null]) (rest := []) (lenOf pd_11 rfl) rfl (own_rm rfl) (hb hby d10_6) (fun _ _ => ⟨rfl,e0,(by decide : 0 + 1 ≤ _),(by decide : 0 + 7 ≤ _)⟩)
  dsimp only [Pt.U, Pt.locs, Pt.cells, Pt.slots] at X2 l2 y2 z2 st2 hQ2
  replace X2 := own_cast X2 l2 y2 z2
  obtain ⟨yb_2,kb_2,rfl,N2q,K2q,po2_0,po2_1,po2_2,po2_3,px2_g_yb,px2_sz_yb⟩ := hQ2
  have N2 := Fr.app N0 N2q
  have f3 := f0_xs.keep K2q
  have f4 := f3_ya.keep K2q (ninS (Ne.symm ne_xs_ya) nin0)
  have f5 : Sta Z T2.heap "java/lang/String" "COMPACT_STRINGS" "Z" (.int wc) := own_staKeep f4_COMPACT_STRINGS K2q (allS (own_nst f0_xs) all0)
  have K2 := Keep.trans (Keep.refl h0 [xs]) K2q (allS (Or.inl (List.mem_of_getElem? (i := 0) rfl)) all0)
  have Z2 := Nat.le_trans Z0 K2.1
  have g_yb_2 := px2_g_yb
  have sz_yb_2 : h0.size ≤ yb_2 := Nat.le_trans ((Keep.refl h0 [xs])).1 px2_sz_yb
  have ne_xs_yb_2 : xs ≠ yb_2 := Nat.ne_of_lt (Nat.lt_of_lt_of_le f0_xs.lt px2_sz_yb)
  have ne_ya_yb_2 : ya ≠ yb_2 := Nat.ne_of_lt (Nat.lt_of_lt_of_le f3_ya.lt px2_sz_yb)
  refine gv T2 9 #[sR xs,sR ya] [] (fun t k => st2.trans k) ?_
  exact own_retV X2 hx Bd.notSynchronized Bd.returns (hb hby d10_9) rfl ⟨yb_2,kb_2,rfl,N2,K2,po2_0,po2_1,po2_2,po2_3,g_yb_2,sz_yb_2⟩ (by decide) (by decide)
theorem d11_8 : decode jdk_42_method_149_code 8 = .ok (.aload_n 0, 1) := by decide +kernel
theorem d11_9 : decode jdk_42_method_149_code 9 = .ok (.ldc 7, 2) := by decide +kernel
theorem d11_11 : decode jdk_42_method_149_code 11 = .ok (.getfield 9, 3) := by decide +kernel
theorem d11_14 : decode jdk_42_method_149_code 14 = .ok (.putfield 9, 3) := by decide +kernel
theorem d11_17 : decode jdk_42_method_149_code 17 = .ok (.aload_n 0, 1) := by decide +kernel
theorem d11_18 : decode jdk_42_method_149_code 18 = .ok (.ldc 7, 2) := by decide +kernel
theorem d11_20 : decode jdk_42_method_149_code 20 = .ok (.getfield 15, 3) := by decide +kernel
theorem d11_23 : decode jdk_42_method_149_code 23 = .ok (.putfield 15, 3) := by decide +kernel
theorem d11_26 : decode jdk_42_method_149_code 26 = .ok (.return_, 1) := by decide +kernel
theorem ef_110 (m : MethodId) (xs : Addr) (ya : Addr) : entryFrame m #[(.ref xs), (.ref ya), (.int (0 : Int32)), (.int (0 : Int32)), .null] 6 = mkF m 0 #[.val (.ref xs), .val (.ref ya), .val (.int (0 : Int32)), .val (.int (0 : Int32)), .val .null, .unset] [] := by first | (simp [entryFrame, mkF, argsToLocals, Value.category]; done) | rfl
def Q110 (Z : State) (xs : Addr) (ya : Addr) (u0 : Value) (h0 : Heap) (n0 : Nat) (v : Option Value) (h : Heap) (L : List Loc) : Prop := ∃ (yb : Addr) (kb : ClassId), v = none ∧ Fr n0 L ∧ Keep h0 h [xs] ∧ Exa Z h xs "java/lang/String" ∧ Fld Z h xs "java/lang/String" "coder" "B" (.int (0 : Int32)) ∧ Fld Z h xs "java/lang/String" "value" "[B" (.ref yb) ∧ Arv Z h yb kb .byte (0 : Int32) [] (.int (0 : Int32))
set_option maxRecDepth 65536 in
set_option maxHeartbeats 40000000 in
theorem rm110 (l : Launch) (Z : State) (a0 : Array Value) (hw : ∀ d ∈ tables_1, d.before a0 Z = true) (ws : List Jvm.Cond) (xs : Addr) (ya : Addr) (u0 : Value) (h0 : Heap) (n0 : Nat) (Z0 : n0 ≤ h0.size) (f0_xs : Exa Z h0 xs "java/lang/String") (f1_xs_coder : Fld Z h0 xs "java/lang/String" "coder" "B" u0) (f2_xs_value : Fld Z h0 xs "java/lang/String" "value" "[B" .null) (g_xs : n0 ≤ xs) :
    MetFree l (⟨"java/lang/String", "<init>", "([CIILjava/lang/Void;)V"⟩ : MethodName) (head1 (Jvm.Cond.code (⟨"java/lang/String", "<init>", "([CIILjava/lang/Void;)V"⟩ : MethodName) jdk_42_method_149_code 6 none :: ws) ({ frames := 1, cells := 2, slots := 4, locals := 12 } : Room)) (fun a U => a = #[(.ref xs), (.ref ya), (.int 0), (.int 0), .null] ∧ Z.Warmed39 U.vm ∧ U.heap = h0 ∧ CHv Z own_EL U.vm h0) (fun _ _ _ _ _ => True) (fun _ U o U' => ∃ v L, o = .returned v ∧ Q110 Z xs ya u0 h0 n0 v U'.heap L ∧ CHr Z own_EL U.vm U.heap U'.vm U'.heap ∧ ReturnedEndW U o U' L 2 4) := by
  refine MetFree.of_bodySF (plainFor_of_name pn_6) hisR ?_
  intro p e s m args below meth c s₁ Bd hml0 hP hK
  obtain ⟨rfl,hZ,hh,CH0⟩ := hP
  have hx := Bd.exec
  have hby := Bd.bytes
  have hml : c.maxLocals = 6 := hml0
  have hown : s.vm.findClass "java/lang/String" = some m.cls := findClass_of_methodNamed Bd.named
  have hnm := (name_of_methodNamed Bd.named Bd.method).1
  have X0 : Stand p l e ({ frames := 1,cells := 2,slots := 4,locals := 12 } : Room) (s.setVm s.vm) m #[(.ref xs),(.ref ya),(.int 0),(.int 0),.null] below meth c s₁ [] 0 0 := own_x0 (Stand.of_body Bd)
  have e0 : s₁.heap = h0 := by rw [← hh,Bd.state]; rfl
  have N0 := Fr.nil n0
  have hS0 : s.Since s.vm h0.size := (State.WarmedH.refl s).since _
  have hk0 : h0.size ≤ h0.size := Nat.le_refl _
  have CR0 : CHr Z own_EL s.vm h0 s.vm h0 := CHr.refl CH0
  refine own_startW (Z := Z) (EL := own_EL) (Q := fun v h L => Q110 Z xs ya u0 h0 n0 v h L) ?_
  refine gv s₁ 0 #[sR xs,sR ya,sI 0,sI 0,.val .null,sU] [] (fun t k => castTop (ef_110 m xs ya) k) ?_
  have fY : Safe Z own_EL s.vm h0 xs := own_safeNull hZ.alike f0_xs f2_xs_value
  refine gv s₁ 1 #[sR xs,sR ya,sI 0,sI 0,.val .null,sU] [(.ref xs)] (fun t k => XS.aloadN X0.here hx rfl (hb hby d11_0) rfl rfl k) ?_
  obtain ⟨T1,X1,e1,st1⟩ := initO X0 hx hZ hown (w_ hw 59 rfl) (w_ hw 60 rfl) (w_ hw 61 rfl) e0 (g := (mkF m 1 #[sR xs,sR ya,sI 0,sI 0,.val .null,sU] [(.ref xs)])) rfl (by rw [hml]; rfl) rfl (hb hby d11_1) (by decide) (W := 0) (own_rm rfl) (by decide)
  refine gv T1 4 #[sR xs,sR ya,sI 0,sI 0,.val .null,sU] [] (fun t k => st1 _ k) ?_
  refine gv T1 5 #[sR xs,sR ya,sI 0,sI 0,.val .null,sU] [(.int 0)] (fun t k => XS.iloadN X1.here hx rfl (hb hby d11_4) rfl k) ?_
  refine gv T1 8 #[sR xs,sR ya,sI 0,sI 0,.val .null,sU] [] (fun t k => XS.ifNo X1.here hx rfl (hb hby d11_5) rfl ((if0 _ _).trans (teq rfl).2) k) ?_
  refine gv T1 9 #[sR xs,sR ya,sI 0,sI 0,.val .null,sU] [(.ref xs)] (fun t k => XS.aloadN X1.here hx rfl (hb hby d11_8) rfl rfl k) ?_
  obtain ⟨b2,T2,h2,kz2,d2,k2,X2,e2,E2,hS2,hk2,hZ,hown,A2,C2,V2,R2,lta2,ltb2,cr2,Lt2,Nn2,st2⟩ := ldcCH X1 hx hZ hown (w_ hw 135 rfl) (own_wS hw) e1 hS0 hk0 (own_EW hw) (own_mem (by decide)) CH0 (vs := []) (z := (0 : Int32)) ⟨by decide,rfl⟩ (by decide) rfl (g := (mkF m 9 #[sR xs,sR ya,sI 0,sI 0,.val .null,sU] [(.ref xs)])) rfl (hb hby d11_9) (n := 0) (by decide) (by decide) (by decide) (by decide)
  have f3 := f0_xs.ext E2
  have f4 := f1_xs_coder.ext E2
  have f5 := f2_xs_value.ext E2
  have CR2 := CR0.trans cr2
  have CH2 := cr2.1
  have f6 := CHr.safe cr2 f0_xs.lt fY
  have K2 := Keep.ext (Keep.refl h0 [xs]) E2
  have Z2 := Nat.le_trans Z0 K2.1
  have f7 : Exa Z h2 b2 "java/lang/String" := A2
  have f8 : Fld Z h2 b2 "java/lang/String" "coder" "B" (.int 0) := C2
  have f9 : Fld Z h2 b2 "java/lang/String" "value" "[B" (.ref d2) := V2
  have f10 : Arv Z h2 d2 k2 .byte (0 : Int32) [] (.int 0) := R2
  refine gv T2 11 #[sR xs,sR ya,sI 0,sI 0,.val .null,sU] [(.ref b2),(.ref xs)] (fun t k => st2 _ k) ?_
  obtain ⟨T11,X11,e11,st11⟩ := getF X2 hx hZ hown (host := "") (Or.inl (w_ hw 20 rfl)) Via.refl e2 f9 (g := (mkF m 11 #[sR xs,sR ya,sI 0,sI 0,.val .null,sU] [(.ref b2),(.ref xs)])) rfl rfl (hb hby d11_11)
  refine gv T11 14 #[sR xs,sR ya,sI 0,sI 0,.val .null,sU] [(.ref d2),(.ref xs)] (fun t k => st11 _ k) ?_
  obtain ⟨T12,h12,X12,e12,W12,st12⟩ := putF X11 hx hZ hown (host := "") (Or.inl (w_ hw 20 rfl)) Via.refl e11 f5 f3 (Or.inr ⟨(w_ hw 11 rfl),rfl,hnm⟩) (w_ hw 9 rfl) (ty := (.array .byte)) (by decide) rfl rfl (g := (mkF m 14 #[sR xs,sR ya,sI 0,sI 0,.val .null,sU] [(.ref d2),(.ref xs)])) rfl rfl (hb hby d11_14)
  have f13 := f3.wr W12
  have f14 := f4.other W12 (Or.inr (slot_ne (Or.inr (w_ hw 12 rfl)) (Or.inr (w_ hw 11 rfl)) (by decide) (t := .byte) (t' := (.array .byte)) (by decide) (by decide)))
  have f15 := Safe.wr W12 f6 CH2 f6
  have f16 := f7.wr W12
  have f17 := f8.other W12 (Or.inl (Ne.symm (Nn2 _ f6).1))
  have f18 := f9.other W12 (Or.inl (Ne.symm (Nn2 _ f6).1))
  have f19 := f10.other W12 (Ne.symm (Nn2 _ f6).2)
  have f20 : Fld Z h12 xs "java/lang/String" "value" "[B" (.ref d2) := f5.same W12
  have cr12 := CHr.wr W12 f6 CH2
  have CR12 := CR2.trans cr12
  have CH12 := cr12.1
  have hk12 := Nat.le_trans hk2 cr12.2.1
  have K12 := Keep.wr K2 W12 (Or.inl (List.mem_of_getElem? (i := 0) rfl))
  have Z12 := Nat.le_trans Z0 K12.1
  have N12 := Fr.snoc X12 N0 g_xs
  refine gv T12 17 #[sR xs,sR ya,sI 0,sI 0,.val .null,sU] [] (fun t k => st12 _ k) ?_
  refine gv T12 18 #[sR xs,sR ya,sI 0,sI 0,.val .null,sU] [(.ref xs)] (fun t k => XS.aloadN X12.here hx rfl (hb hby d11_17) rfl rfl k) ?_
  refine gv T12 20 #[sR xs,sR ya,sI 0,sI 0,.val .null,sU] [(.ref b2),(.ref xs)] (fun t k => ldcAgain X12 hx hZ hown (w_ hw 135 rfl) Lt2 (g := (mkF m 18 #[sR xs,sR ya,sI 0,sI 0,.val .null,sU] [(.ref xs)])) rfl (hb hby d11_18) _ k) ?_
  obtain ⟨T21,X21,e21,st21⟩ := getF X12 hx hZ hown (host := "") (Or.inl (w_ hw 27 rfl)) Via.refl e12 f17 (g := (mkF m 20 #[sR xs,sR ya,sI 0,sI 0,.val .null,sU] [(.ref b2),(.ref xs)])) rfl rfl (hb hby d11_20)
  refine gv T21 23 #[sR xs,sR ya,sI 0,sI 0,.val .null,sU] [(.int 0),(.ref xs)] (fun t k => st21 _ k) ?_
  obtain ⟨T22,h22,X22,e22,W22,st22⟩ := putFN X21 hx hZ hown (w_ hw 27 rfl) Via.refl e21 f14 f13 (Or.inr ⟨(w_ hw 12 rfl),rfl,hnm⟩) (w_ hw 9 rfl) (ty := .byte) (v' := (.int 0)) (by decide) rfl rfl (g := (mkF m 23 #[sR xs,sR ya,sI 0,sI 0,.val .null,sU] [(.int 0),(.ref xs)])) rfl rfl (hb hby d11_23)
  have f23 := f13.wr W22
  have f24 := Safe.wr W22 f15 CH12 f15
  have f25 := f16.wr W22
  have f26 := f17.other W22 (Or.inl (Ne.symm (Nn2 _ f6).1))
  have f27 := f18.other W22 (Or.inl (Ne.symm (Nn2 _ f6).1))
  have f28 := f19.other W22 (Ne.symm (Nn2 _ f6).2)
  have f29 := f20.other W22 (Or.inr (slot_ne (Or.inr (w_ hw 11 rfl)) (Or.inr (w_ hw 12 rfl)) (by decide) (t := (.array .byte)) (t' := .byte) (by decide) (by decide)))
  have f30 : Fld Z h22 xs "java/lang/String" "coder" "B" (.int 0) := f14.same W22
  have cr22 := CHr.wr W22 f15 CH12
  have CR22 := CR12.trans cr22
  have CH22 := cr22.1
  have hk22 := Nat.le_trans hk12 cr22.2.1
  have K22 := Keep.wr K12 W22 (Or.inl (List.mem_of_getElem? (i := 0) rfl))
  have Z22 := Nat.le_trans Z0 K22.1
  have N22 := Fr.snoc X22 N12 g_xs
  refine gv T22 26 #[sR xs,sR ya,sI 0,sI 0,.val .null,sU] [] (fun t k => st22 _ k) ?_
  exact own_retVW X22 hx Bd.notSynchronized Bd.returns (hb hby d11_26) e22 hS2 hk22 hZ (own_EW hw) CR22 hh ⟨d2,k2,rfl,N22,K22,f23,f30,f29,f28⟩ (by decide) (by decide)
theorem ef_100 (m : MethodId) (xs : Addr) (ya : Addr) : entryFrame m #[(.ref xs), (.ref ya)] 2 = mkF m 0 #[.val (.ref xs), .val (.ref ya)] [] := by first | (simp [entryFrame, mkF, argsToLocals, Value.category]; done) | rfl
def Q100 (Z : State) (xs : Addr) (ya : Addr) (ka : ClassId) (u0 : Value) (h0 : Heap) (n0 : Nat) (v : Option Value) (h : Heap) (L : List Loc) : Prop := ∃ (yb : Addr) (kb : ClassId), v = none ∧ Fr n0 L ∧ Keep h0 h [xs] ∧ Exa Z h xs "java/lang/String" ∧ Fld Z h xs "java/lang/String" "coder" "B" (.int (0 : Int32)) ∧ Fld Z h xs "java/lang/String" "value" "[B" (.ref yb) ∧ Arv Z h yb kb .byte (0 : Int32) [] (.int (0 : Int32))
set_option maxRecDepth 65536 in
set_option maxHeartbeats 40000000 in
theorem rm100 (l : Launch) (Z : State) (a0 : Array Value) (hw : ∀ d ∈ tables_1, d.before a0 Z = true) (ws : List Jvm.Cond) (xs : Addr) (ya : Addr) (ka : ClassId) (u0 : Value) (h0 : Heap) (n0 : Nat) (Z0 : n0 ≤ h0.size) (f0_xs : Exa Z h0 xs "java/lang/String") (f1_xs_coder : Fld Z h0 xs "java/lang/String" "coder" "B" u0) (f2_xs_value : Fld Z h0 xs "java/lang/String" "value" "[B" .null) (f3_ya : Arv Z h0 ya ka .char (0 : Int32) [] (.int (0 : Int32))) (ne_xs_ya : xs ≠ ya) (g_xs : n0 ≤ xs) :
    MetFree l (⟨"java/lang/String", "<init>", "([C)V"⟩ : MethodName) (head1 (Jvm.Cond.code (⟨"java/lang/String", "<init>", "([C)V"⟩ : MethodName) jdk_42_method_3_code 2 none :: ws) ({ frames := 2, cells := 2, slots := 4, locals := 29 } : Room)) (fun a U => a = #[(.ref xs), (.ref ya)] ∧ Z.Warmed39 U.vm ∧ U.heap = h0 ∧ CHv Z own_EL U.vm h0) (fun _ _ _ _ _ => True) (fun _ U o U' => ∃ v L, o = .returned v ∧ Q100 Z xs ya ka u0 h0 n0 v U'.heap L ∧ CHr Z own_EL U.vm U.heap U'.vm U'.heap ∧ ReturnedEndW U o U' L 2 4) := by
  refine MetFree.of_bodySF (plainFor_of_name pn_6) hisR ?_
  intro p e s m args below meth c s₁ Bd hml0 hP hK
  obtain ⟨rfl,hZ,hh,CH0⟩ := hP
  have hx := Bd.exec
  have hby := Bd.bytes
  have hml : c.maxLocals = 2 := hml0
  have hown : s.vm.findClass "java/lang/String" = some m.cls := findClass_of_methodNamed Bd.named
  have hnm := (name_of_methodNamed Bd.named Bd.method).1
  have X0 : Stand p l e ({ frames := 2,cells := 2,slots := 4,locals := 29 } : Room) (s.setVm s.vm) m #[(.ref xs),(.ref ya)] below meth c s₁ [] 0 0 := own_x0 (Stand.of_body Bd)
  have e0 : s₁.heap = h0 := by rw [← hh,Bd.state]; rfl
  have N0 := Fr.nil n0
  have hS0 : s.Since s.vm h0.size := (State.WarmedH.refl s).since _
  have hk0 : h0.size ≤ h0.size := Nat.le_refl _
  have CR0 : CHr Z own_EL s.vm h0 s.vm h0 := CHr.refl CH0
  refine own_startW (Z := Z) (EL := own_EL) (Q := fun v h L => Q100 Z xs ya ka u0 h0 n0 v h L) ?_
  refine gv s₁ 0 #[sR xs,sR ya] [] (fun t k => castTop (ef_100 m xs ya) k) ?_
  have fY : Safe Z own_EL s.vm h0 xs := own_safeNull hZ.alike f0_xs f2_xs_value
  refine gv s₁ 1 #[sR xs,sR ya] [(.ref xs)] (fun t k => XS.aloadN X0.here hx rfl (hb hby d10_0) rfl rfl k) ?_
  refine gv s₁ 2 #[sR xs,sR ya] [(.ref ya),(.ref xs)] (fun t k => XS.aloadN X0.here hx rfl (hb hby d10_1) rfl rfl k) ?_
  refine gv s₁ 3 #[sR xs,sR ya] [(.int 0),(.ref ya),(.ref xs)] (fun t k => XS.iconst X0.here hx rfl (hb hby d10_2) k) ?_
  refine gv s₁ 4 #[sR xs,sR ya] [(.ref ya),(.int 0),(.ref ya),(.ref xs)] (fun t k => XS.aloadN X0.here hx rfl (hb hby d10_3) rfl rfl k) ?_
  obtain ⟨cl1,Ar1,q1,S1,M1,Hs1,G1⟩ := id f3_ya
  refine gv s₁ 5 #[sR xs,sR ya] [(.int 0),(.int 0),(.ref ya),(.ref xs)] (fun t k => X0.arraylength hx (by rw [e0]; exact Ar1.1) (State.isArrayOf_alike hZ.alike Ar1.2.1) (g := (mkF m 4 #[sR xs,sR ya] [(.ref ya),(.int 0),(.ref ya),(.ref xs)])) rfl rfl (hb hby d10_4) _ (by rw [len_of S1 M1]; exact k)) ?_
  refine gv s₁ 6 #[sR xs,sR ya] [.null,(.int 0),(.int 0),(.ref ya),(.ref xs)] (fun t k => XS.aconstNull X0.here hx rfl (hb hby d10_5) k) ?_
  obtain ⟨_,_,⟨T2,L2,k2,n2⟩,-,X2,sn2,ge2,⟨Lc2,hQ2,l2,y2,z2,cr2⟩,st2⟩ := X0.specialBackS hx (y := (⟨"java/lang/String","<init>","([CIILjava/lang/Void;)V"⟩ : MethodName)) rfl hown (mvT hZ (w_ hw 55 rfl)) (mvT hZ (w_ hw 56 rfl)) (mvT hZ (w_ hw 58 rfl)) (by decide) (backOfSH (s := s) (vm0 := s.vm) (W := 0) (rm110 l Z a0 hw [] xs ya u0 h0 n0 Z0 f0_xs f1_xs_coder f2_xs_value g_xs) hZ (w_ hw 58 rfl) (w_ hw 8 rfl) (by decide) (by decide) (own_EW hw) CH0) (g := (mkF m 6 #[sR xs,sR ya] [.null,(.int 0),(.int 0),(.ref ya),(.ref xs)])) rfl (by rw [hml]; rfl) (Steps.refl _) (a := xs) (argsL := [(.ref ya),(.int 0),(.int 0),.null]) (rest := []) (lenOf pd_11 rfl) rfl (own_rm rfl) (hb hby d10_6) (fun _ _ => ⟨rfl,e0,(by decide : 0 + 2 ≤ _),(by decide : 0 + 4 ≤ _)⟩)
  dsimp only [Pt.U, Pt.locs, Pt.cells, Pt.slots] at X2 l2 y2 z2 st2 hQ2 sn2 ge2 cr2
  obtain ⟨X2,hS2,hZ,hown⟩ := rebS hS0 (n1 := s₁.heap.size) (by rw [e0]; exact hk0) X2 sn2 ge2 hZ hown
  have hk2 : T2.heap.size ≤ T2.heap.size := Nat.le_refl _
  replace X2 := own_cast X2 l2 y2 z2
  obtain ⟨yb_2,kb_2,rfl,N2q,K2q,po2_0,po2_1,po2_2,po2_3⟩ := hQ2
  have N2 := Fr.app N0 N2q
  have f3 := f0_xs.keep K2q
  have f4 := f3_ya.keep K2q (ninS (Ne.symm ne_xs_ya) nin0)
  have CR2 := CR0.trans cr2
  have CH2 := cr2.1
  have f5 := CHr.safe cr2 f0_xs.lt fY
  have K2 := Keep.trans (Keep.refl h0 [xs]) K2q (allS (Or.inl (List.mem_of_getElem? (i := 0) rfl)) all0)
  have Z2 := Nat.le_trans Z0 K2.1
  refine gv T2 9 #[sR xs,sR ya] [] (fun t k => st2.trans k) ?_
  exact own_retVW X2 hx Bd.notSynchronized Bd.returns (hb hby d10_9) rfl hS2 hk2 hZ (own_EW hw) CR2 hh ⟨yb_2,kb_2,rfl,N2,K2,po2_0,po2_1,po2_2,po2_3⟩ (by decide) (by decide)
theorem d17_0 : decode jdk_43_method_13_code 0 = .ok (.aload_n 0, 1) := by decide +kernel
theorem d17_1 : decode jdk_43_method_13_code 1 = .ok (.arraylength, 1) := by decide +kernel
theorem d17_2 : decode jdk_43_method_13_code 2 = .ok (.aload_n 1, 1) := by decide +kernel
theorem d17_3 : decode jdk_43_method_13_code 3 = .ok (.arraylength, 1) := by decide +kernel
theorem d17_4 : decode jdk_43_method_13_code 4 = .ok (.if_icmp .ne 30, 3) := by decide +kernel
theorem d17_34 : decode jdk_43_method_13_code 34 = .ok (.iconst 0, 1) := by decide +kernel
theorem d17_35 : decode jdk_43_method_13_code 35 = .ok (.ireturn, 1) := by decide +kernel
theorem ef_17x (m : MethodId) (ya : Addr) (yb : Addr) : entryFrame m #[(.ref ya), (.ref yb)] 3 = mkF m 0 #[.val (.ref ya), .val (.ref yb), .unset] [] := by first | (simp [entryFrame, mkF, argsToLocals, Value.category]; done) | rfl
def Q17x (Z : State) (ya : Addr) (yb : Addr) (ka : ClassId) (kb : ClassId) (za : Int32) (zb : Int32) (va : List Value) (vb : List Value) (h0 : Heap) (n0 : Nat) (v : Option Value) (h : Heap) (L : List Loc) : Prop := v = some (.int (0 : Int32)) ∧ Fr n0 L ∧ h = h0
set_option maxRecDepth 65536 in
set_option maxHeartbeats 40000000 in
theorem rm17x (l : Launch) (Z : State) (a0 : Array Value) (hw : ∀ d ∈ tables_1, d.before a0 Z = true) (ws : List Jvm.Cond) (ya : Addr) (yb : Addr) (ka : ClassId) (kb : ClassId) (za : Int32) (zb : Int32) (va : List Value) (vb : List Value) (h0 : Heap) (n0 : Nat) (Z0 : n0 ≤ h0.size) (f0_ya : Arv Z h0 ya ka .byte za va (.int (0 : Int32))) (f1_yb : Arv Z h0 yb kb .byte zb vb (.int (0 : Int32))) (hz : ¬ za = zb) :
    MetFree l (⟨"java/lang/StringLatin1", "equals", "([B[B)Z"⟩ : MethodName) (head1 (Jvm.Cond.code (⟨"java/lang/StringLatin1", "equals", "([B[B)Z"⟩ : MethodName) jdk_43_method_13_code 3 (some .boolean) :: ws) ({ frames := 0, cells := 0, slots := 0, locals := 0 } : Room)) (fun a U => a = #[(.ref ya), (.ref yb)] ∧ Z.Warmed39 U.vm ∧ U.heap = h0) (fun _ _ _ _ _ => True) (fun _ U o U' => ∃ v L, o = .returned v ∧ Q17x Z ya yb ka kb za zb va vb h0 n0 v U'.heap L ∧ FrameEnd U o U' L 0 0) := by
  refine MetFree.of_bodySF (plainFor_of_name pn_47) hisR ?_
  intro p e s m args below meth c s₁ Bd hml0 hP hK
  obtain ⟨rfl,hZ,hh⟩ := hP
  have hx := Bd.exec
  have hby := Bd.bytes
  have hml : c.maxLocals = 3 := hml0
  have hown : s.vm.findClass "java/lang/StringLatin1" = some m.cls := findClass_of_methodNamed Bd.named
  have hnm := (name_of_methodNamed Bd.named Bd.method).1
  have X0 : Stand p l e ({ frames := 0,cells := 0,slots := 0,locals := 0 } : Room) s m #[(.ref ya),(.ref yb)] below meth c s₁ [] 0 0 := Stand.of_body Bd
  have e0 : s₁.heap = h0 := by rw [← hh,Bd.state]; rfl
  have N0 := Fr.nil n0
  refine own_start (Q := fun v h L => Q17x Z ya yb ka kb za zb va vb h0 n0 v h L) ?_
  refine gv s₁ 0 #[sR ya,sR yb,sU] [] (fun t k => castTop (ef_17x m ya yb) k) ?_
  refine gv s₁ 1 #[sR ya,sR yb,sU] [(.ref ya)] (fun t k => XS.aloadN X0.here hx rfl (hb hby d17_0) rfl rfl k) ?_
  obtain ⟨cl1,Ar1,q1,S1,M1,Hs1,G1⟩ := id f0_ya
  refine gv s₁ 2 #[sR ya,sR yb,sU] [(.int za)] (fun t k => X0.arraylength hx (by rw [e0]; exact Ar1.1) (State.isArrayOf_alike hZ.alike Ar1.2.1) (g := (mkF m 1 #[sR ya,sR yb,sU] [(.ref ya)])) rfl rfl (hb hby d17_1) _ (by rw [len_of S1 M1]; exact k)) ?_
  refine gv s₁ 3 #[sR ya,sR yb,sU] [(.ref yb),(.int za)] (fun t k => XS.aloadN X0.here hx rfl (hb hby d17_2) rfl rfl k) ?_
  obtain ⟨cl2,Ar2,q2,S2,M2,Hs2,G2⟩ := id f1_yb
  refine gv s₁ 4 #[sR ya,sR yb,sU] [(.int zb),(.int za)] (fun t k => X0.arraylength hx (by rw [e0]; exact Ar2.1) (State.isArrayOf_alike hZ.alike Ar2.2.1) (g := (mkF m 3 #[sR ya,sR yb,sU] [(.ref yb),(.int za)])) rfl rfl (hb hby d17_3) _ (by rw [len_of S2 M2]; exact k)) ?_
  refine gv s₁ 34 #[sR ya,sR yb,sU] [] (fun t k => XS.icmpYes X0.here hx rfl (pc0 := 4) (pc' := 34) rfl (hb hby d17_4) rfl (feq hz).2 (by decide) (by decide) k) ?_
  refine gv s₁ 35 #[sR ya,sR yb,sU] [(.int 0)] (fun t k => XS.iconst X0.here hx rfl (hb hby d17_34) k) ?_
  exact own_ret X0 hx Bd.notSynchronized Bd.returns rfl (Or.inl ⟨rfl,by simp,_,rfl⟩) (hb hby d17_35) e0 ⟨rfl,N0,rfl⟩ (by decide) (by decide)
theorem d16_0 : decode jdk_42_method_66_code 0 = .ok (.aload_n 0, 1) := by decide +kernel
theorem d16_1 : decode jdk_42_method_66_code 1 = .ok (.aload_n 1, 1) := by decide +kernel
theorem d16_2 : decode jdk_42_method_66_code 2 = .ok (.if_acmp .ne 5, 3) := by decide +kernel
theorem d16_7 : decode jdk_42_method_66_code 7 = .ok (.aload_n 1, 1) := by decide +kernel
theorem d16_8 : decode jdk_42_method_66_code 8 = .ok (.instanceof 10, 3) := by decide +kernel
theorem d16_11 : decode jdk_42_method_66_code 11 = .ok (.ifCond .eq 43, 3) := by decide +kernel
theorem d16_14 : decode jdk_42_method_66_code 14 = .ok (.aload_n 1, 1) := by decide +kernel
theorem d16_15 : decode jdk_42_method_66_code 15 = .ok (.checkcast 10, 3) := by decide +kernel
theorem d16_18 : decode jdk_42_method_66_code 18 = .ok (.astore_n 2, 1) := by decide +kernel
theorem d16_19 : decode jdk_42_method_66_code 19 = .ok (.getstatic 38, 3) := by decide +kernel
theorem d16_22 : decode jdk_42_method_66_code 22 = .ok (.ifCond .eq 14, 3) := by decide +kernel
theorem d16_25 : decode jdk_42_method_66_code 25 = .ok (.aload_n 0, 1) := by decide +kernel
theorem d16_26 : decode jdk_42_method_66_code 26 = .ok (.getfield 15, 3) := by decide +kernel
theorem d16_29 : decode jdk_42_method_66_code 29 = .ok (.aload_n 2, 1) := by decide +kernel
theorem d16_30 : decode jdk_42_method_66_code 30 = .ok (.getfield 15, 3) := by decide +kernel
theorem d16_33 : decode jdk_42_method_66_code 33 = .ok (.if_icmp .ne 21, 3) := by decide +kernel
theorem d16_36 : decode jdk_42_method_66_code 36 = .ok (.aload_n 0, 1) := by decide +kernel
theorem d16_37 : decode jdk_42_method_66_code 37 = .ok (.getfield 9, 3) := by decide +kernel
theorem d16_40 : decode jdk_42_method_66_code 40 = .ok (.aload_n 2, 1) := by decide +kernel
theorem d16_41 : decode jdk_42_method_66_code 41 = .ok (.getfield 9, 3) := by decide +kernel
theorem d16_44 : decode jdk_42_method_66_code 44 = .ok (.invokestatic 541, 3) := by decide +kernel
theorem d16_47 : decode jdk_42_method_66_code 47 = .ok (.ifCond .eq 7, 3) := by decide +kernel
theorem d16_54 : decode jdk_42_method_66_code 54 = .ok (.iconst 0, 1) := by decide +kernel
theorem d16_55 : decode jdk_42_method_66_code 55 = .ok (.ireturn, 1) := by decide +kernel
theorem ef_16x (m : MethodId) (xa : Addr) (xb : Addr) : entryFrame m #[(.ref xa), (.ref xb)] 3 = mkF m 0 #[.val (.ref xa), .val (.ref xb), .unset] [] := by first | (simp [entryFrame, mkF, argsToLocals, Value.category]; done) | rfl
def Q16x (Z : State) (xa : Addr) (xb : Addr) (ya : Addr) (yb : Addr) (ka : ClassId) (kb : ClassId) (za : Int32) (zb : Int32) (va : List Value) (vb : List Value) (wc : Int32) (h0 : Heap) (n0 : Nat) (v : Option Value) (h : Heap) (L : List Loc) : Prop := v = some (.int (0 : Int32)) ∧ Fr n0 L ∧ h = h0
set_option maxRecDepth 65536 in
set_option maxHeartbeats 40000000 in
theorem rm16x (l : Launch) (Z : State) (a0 : Array Value) (hw : ∀ d ∈ tables_1, d.before a0 Z = true) (ws : List Jvm.Cond) (xa : Addr) (xb : Addr) (ya : Addr) (yb : Addr) (ka : ClassId) (kb : ClassId) (za : Int32) (zb : Int32) (va : List Value) (vb : List Value) (wc : Int32) (h0 : Heap) (n0 : Nat) (Z0 : n0 ≤ h0.size) (f0_xa : Exa Z h0 xa "java/lang/String") (f1_xa_coder : Fld Z h0 xa "java/lang/String" "coder" "B" (.int (0 : Int32))) (f2_xa_value : Fld Z h0 xa "java/lang/String" "value" "[B" (.ref ya)) (f3_ya : Arv Z h0 ya ka .byte za va (.int (0 : Int32))) (f4_xb : Exa Z h0 xb "java/lang/String") (f5_xb_coder : Fld Z h0 xb "java/lang/String" "coder" "B" (.int (0 : Int32))) (f6_xb_value : Fld Z h0 xb "java/lang/String" "value" "[B" (.ref yb)) (f7_yb : Arv Z h0 yb kb .byte zb vb (.int (0 : Int32))) (f8_COMPACT_STRINGS : Sta Z h0 "java/lang/String" "COMPACT_STRINGS" "Z" (.int wc)) (ne_xa_xb : xa ≠ xb) (hz : ¬ za = zb) (hwc : ¬ wc = (0 : Int32)) :
    MetFree l (⟨"java/lang/String", "equals", "(Ljava/lang/Object;)Z"⟩ : MethodName) (head1 (Jvm.Cond.code (⟨"java/lang/String", "equals", "(Ljava/lang/Object;)Z"⟩ : MethodName) jdk_42_method_66_code 3 (some .boolean) :: ws) ({ frames := 1, cells := 0, slots := 0, locals := 14 } : Room)) (fun a U => a = #[(.ref xa), (.ref xb)] ∧ Z.Warmed39 U.vm ∧ U.heap = h0) (fun _ _ _ _ _ => True) (fun _ U o U' => ∃ v L, o = .returned v ∧ Q16x Z xa xb ya yb ka kb za zb va vb wc h0 n0 v U'.heap L ∧ FrameEnd U o U' L 0 0) := by
  refine MetFree.of_bodySF (plainFor_of_name pn_6) hisR ?_
  intro p e s m args below meth c s₁ Bd hml0 hP hK
  obtain ⟨rfl,hZ,hh⟩ := hP
  have hx := Bd.exec
  have hby := Bd.bytes
  have hml : c.maxLocals = 3 := hml0
  have hown : s.vm.findClass "java/lang/String" = some m.cls := findClass_of_methodNamed Bd.named
  have hnm := (name_of_methodNamed Bd.named Bd.method).1
  have X0 : Stand p l e ({ frames := 1,cells := 0,slots := 0,locals := 14 } : Room) s m #[(.ref xa),(.ref xb)] below meth c s₁ [] 0 0 := Stand.of_body Bd
  have e0 : s₁.heap = h0 := by rw [← hh,Bd.state]; rfl
  have N0 := Fr.nil n0
  refine own_start (Q := fun v h L => Q16x Z xa xb ya yb ka kb za zb va vb wc h0 n0 v h L) ?_
  refine gv s₁ 0 #[sR xa,sR xb,sU] [] (fun t k => castTop (ef_16x m xa xb) k) ?_
  refine gv s₁ 1 #[sR xa,sR xb,sU] [(.ref xa)] (fun t k => XS.aloadN X0.here hx rfl (hb hby d16_0) rfl rfl k) ?_
  refine gv s₁ 2 #[sR xa,sR xb,sU] [(.ref xb),(.ref xa)] (fun t k => XS.aloadN X0.here hx rfl (hb hby d16_1) rfl rfl k) ?_
  refine gv s₁ 7 #[sR xa,sR xb,sU] [] (fun t k => Jvm.RoadKit.acmp (g := (mkF m 2 #[sR xa,sR xb,sU] [(.ref xb),(.ref xa)])) X0 hx rfl rfl rfl (pc0 := 2) (pc' := 7) (same := false) rfl (hb hby d16_2) rfl (decide_eq_false fun q => ne_xa_xb (Value.ref.inj q)) (by decide) (by decide) k) ?_
  refine gv s₁ 8 #[sR xa,sR xb,sU] [(.ref xb)] (fun t k => XS.aloadN X0.here hx rfl (hb hby d16_7) rfl rfl k) ?_
  obtain ⟨T1,X1,e1,st1⟩ := instY X0 hx hZ hown (w_ hw 77 rfl) e0 (Ins.self f4_xb) (g := (mkF m 8 #[sR xa,sR xb,sU] [(.ref xb)])) rfl rfl (hb hby d16_8)
  refine gv T1 11 #[sR xa,sR xb,sU] [(.int 1)] (fun t k => st1 _ k) ?_
  refine gv T1 14 #[sR xa,sR xb,sU] [] (fun t k => XS.ifNo X1.here hx rfl (hb hby d16_11) rfl ((if0 _ _).trans (feq (by decide : ¬ ((1 : Int32) = (0 : Int32)))).1) k) ?_
  refine gv T1 15 #[sR xa,sR xb,sU] [(.ref xb)] (fun t k => XS.aloadN X1.here hx rfl (hb hby d16_14) rfl rfl k) ?_
  obtain ⟨T2,X2,e2,st2⟩ := castY X1 hx hZ hown (w_ hw 77 rfl) e1 (Ins.self f4_xb) (g := (mkF m 15 #[sR xa,sR xb,sU] [(.ref xb)])) rfl rfl (hb hby d16_15)
  refine gv T2 18 #[sR xa,sR xb,sU] [(.ref xb)] (fun t k => st2 _ k) ?_
  refine gv T2 19 #[sR xa,sR xb,sR xb] [] (fun t k => XS.astoreN X2.here hx rfl (hb hby d16_18) rfl rfl (l' := #[sR xa,sR xb,sR xb]) rfl k) ?_
  obtain ⟨T3,X3,e3,st3⟩ := getS2 X2 hx hZ hown (host := "") (Or.inl (w_ hw 26 rfl)) Via.refl e2 f8_COMPACT_STRINGS (g := (mkF m 19 #[sR xa,sR xb,sR xb] [])) rfl (hb hby d16_19)
  refine gv T3 22 #[sR xa,sR xb,sR xb] [(.int wc)] (fun t k => st3 _ k) ?_
  refine gv T3 25 #[sR xa,sR xb,sR xb] [] (fun t k => XS.ifNo X3.here hx rfl (hb hby d16_22) rfl ((if0 _ _).trans (feq hwc).1) k) ?_
  refine gv T3 26 #[sR xa,sR xb,sR xb] [(.ref xa)] (fun t k => XS.aloadN X3.here hx rfl (hb hby d16_25) rfl rfl k) ?_
  obtain ⟨T4,X4,e4,st4⟩ := getF X3 hx hZ hown (host := "") (Or.inl (w_ hw 27 rfl)) Via.refl e3 f1_xa_coder (g := (mkF m 26 #[sR xa,sR xb,sR xb] [(.ref xa)])) rfl rfl (hb hby d16_26)
  refine gv T4 29 #[sR xa,sR xb,sR xb] [(.int 0)] (fun t k => st4 _ k) ?_
  refine gv T4 30 #[sR xa,sR xb,sR xb] [(.ref xb),(.int 0)] (fun t k => XS.aloadN X4.here hx rfl (hb hby d16_29) rfl rfl k) ?_
  obtain ⟨T5,X5,e5,st5⟩ := getF X4 hx hZ hown (host := "") (Or.inl (w_ hw 27 rfl)) Via.refl e4 f5_xb_coder (g := (mkF m 30 #[sR xa,sR xb,sR xb] [(.ref xb),(.int 0)])) rfl rfl (hb hby d16_30)
  refine gv T5 33 #[sR xa,sR xb,sR xb] [(.int 0),(.int 0)] (fun t k => st5 _ k) ?_
  refine gv T5 36 #[sR xa,sR xb,sR xb] [] (fun t k => XS.icmpNo X5.here hx rfl (hb hby d16_33) rfl (teq rfl).2 k) ?_
  refine gv T5 37 #[sR xa,sR xb,sR xb] [(.ref xa)] (fun t k => XS.aloadN X5.here hx rfl (hb hby d16_36) rfl rfl k) ?_
  obtain ⟨T6,X6,e6,st6⟩ := getF X5 hx hZ hown (host := "") (Or.inl (w_ hw 20 rfl)) Via.refl e5 f2_xa_value (g := (mkF m 37 #[sR xa,sR xb,sR xb] [(.ref xa)])) rfl rfl (hb hby d16_37)
  refine gv T6 40 #[sR xa,sR xb,sR xb] [(.ref ya)] (fun t k => st6 _ k) ?_
  refine gv T6 41 #[sR xa,sR xb,sR xb] [(.ref xb),(.ref ya)] (fun t k => XS.aloadN X6.here hx rfl (hb hby d16_40) rfl rfl k) ?_
  obtain ⟨T7,X7,e7,st7⟩ := getF X6 hx hZ hown (host := "") (Or.inl (w_ hw 20 rfl)) Via.refl e6 f6_xb_value (g := (mkF m 41 #[sR xa,sR xb,sR xb] [(.ref xb),(.ref ya)])) rfl rfl (hb hby d16_41)
  refine gv T7 44 #[sR xa,sR xb,sR xb] [(.ref yb),(.ref ya)] (fun t k => st7 _ k) ?_
  obtain ⟨_,_,⟨T8,L8,k8,n8⟩,-,X8,⟨Lc8,hQ8,l8,y8,z8⟩,st8⟩ := Jvm.LawKit.callS X7 hx (y := (⟨"java/lang/StringLatin1","equals","([B[B)Z"⟩ : MethodName)) hown (mvT hZ (w_ hw 78 rfl)) (mvT hZ (w_ hw 79 rfl)) (mvT hZ (w_ hw 40 rfl)) (mvT hZ (w_ hw 80 rfl)) (by decide) (backOf (W := 0) (rm17x l Z a0 hw [] ya yb ka kb za zb va vb h0 n0 Z0 f3_ya f7_yb hz) hZ (w_ hw 80 rfl) (w_ hw 40 rfl) (by decide) (by decide)) (g := (mkF m 44 #[sR xa,sR xb,sR xb] [(.ref yb),(.ref ya)])) rfl (by rw [hml]; rfl) (argsL := [(.ref ya),(.ref yb)]) (rest := []) (lenOf pd_12 rfl) rfl (own_rm rfl) (hb hby d16_44) (fun _ _ => ⟨rfl,e7,(by decide : 0 + 0 ≤ _),(by decide : 0 + 0 ≤ _)⟩)
  dsimp only [Pt.U, Pt.locs, Pt.cells, Pt.slots] at X8 l8 y8 z8 st8 hQ8
  replace X8 := own_cast X8 l8 y8 z8
  obtain ⟨rfl,N8q,eq8⟩ := hQ8
  have N8 := Fr.app N0 N8q
  refine gv T8 47 #[sR xa,sR xb,sR xb] [(.int 0)] (fun t k => st8 _ k) ?_
  refine gv T8 54 #[sR xa,sR xb,sR xb] [] (fun t k => XS.ifYes X8.here hx rfl (pc0 := 47) (pc' := 54) rfl (hb hby d16_47) rfl ((if0 _ _).trans (teq rfl).1) (by decide) (by decide) k) ?_
  refine gv T8 55 #[sR xa,sR xb,sR xb] [(.int 0)] (fun t k => XS.iconst X8.here hx rfl (hb hby d16_54) k) ?_
  exact own_ret X8 hx Bd.notSynchronized Bd.returns rfl (Or.inl ⟨rfl,by simp,_,rfl⟩) (hb hby d16_55) eq8 ⟨rfl,N8,rfl⟩ (by decide) (by decide)
theorem d17_7 : decode jdk_43_method_13_code 7 = .ok (.iconst 0, 1) := by decide +kernel
theorem d17_8 : decode jdk_43_method_13_code 8 = .ok (.istore_n 2, 1) := by decide +kernel
theorem d17_9 : decode jdk_43_method_13_code 9 = .ok (.iload_n 2, 1) := by decide +kernel
theorem d17_10 : decode jdk_43_method_13_code 10 = .ok (.aload_n 0, 1) := by decide +kernel
theorem d17_11 : decode jdk_43_method_13_code 11 = .ok (.arraylength, 1) := by decide +kernel
theorem d17_12 : decode jdk_43_method_13_code 12 = .ok (.if_icmp .ge 20, 3) := by decide +kernel
theorem d17_15 : decode jdk_43_method_13_code 15 = .ok (.aload_n 0, 1) := by decide +kernel
theorem d17_16 : decode jdk_43_method_13_code 16 = .ok (.iload_n 2, 1) := by decide +kernel
theorem d17_17 : decode jdk_43_method_13_code 17 = .ok (.baload, 1) := by decide +kernel
theorem d17_18 : decode jdk_43_method_13_code 18 = .ok (.aload_n 1, 1) := by decide +kernel
theorem d17_19 : decode jdk_43_method_13_code 19 = .ok (.iload_n 2, 1) := by decide +kernel
theorem d17_20 : decode jdk_43_method_13_code 20 = .ok (.baload, 1) := by decide +kernel
theorem d17_21 : decode jdk_43_method_13_code 21 = .ok (.if_icmp .eq 5, 3) := by decide +kernel
theorem d17_24 : decode jdk_43_method_13_code 24 = .ok (.iconst 0, 1) := by decide +kernel
theorem d17_25 : decode jdk_43_method_13_code 25 = .ok (.ireturn, 1) := by decide +kernel
theorem d17_26 : decode jdk_43_method_13_code 26 = .ok (.iinc 2 1, 3) := by decide +kernel
theorem d17_29 : decode jdk_43_method_13_code 29 = .ok (.goto (-20), 3) := by decide +kernel
theorem d17_32 : decode jdk_43_method_13_code 32 = .ok (.iconst 1, 1) := by decide +kernel
theorem d17_33 : decode jdk_43_method_13_code 33 = .ok (.ireturn, 1) := by decide +kernel
theorem ef_173 (m : MethodId) (ya : Addr) (yb : Addr) : entryFrame m #[(.ref ya), (.ref yb)] 3 = mkF m 0 #[.val (.ref ya), .val (.ref yb), .unset] [] := by first | (simp [entryFrame, mkF, argsToLocals, Value.category]; done) | rfl
def Q173 (Z : State) (ya : Addr) (yb : Addr) (ka : ClassId) (kb : ClassId) (ax0 : Int32) (ax1 : Int32) (ax2 : Int32) (bx0 : Int32) (bx1 : Int32) (bx2 : Int32) (h0 : Heap) (n0 : Nat) (v : Option Value) (h : Heap) (L : List Loc) : Prop := ∃ r : Int32, v = some (.int r) ∧ r = (if ((ax0 = bx0) ∧ ((ax1 = bx1) ∧ (ax2 = bx2))) then (1 : Int32) else 0) ∧ Fr n0 L ∧ h = h0
set_option maxRecDepth 65536 in
set_option maxHeartbeats 40000000 in
theorem rm173 (l : Launch) (Z : State) (a0 : Array Value) (hw : ∀ d ∈ tables_1, d.before a0 Z = true) (ws : List Jvm.Cond) (ya : Addr) (yb : Addr) (ka : ClassId) (kb : ClassId) (ax0 : Int32) (ax1 : Int32) (ax2 : Int32) (bx0 : Int32) (bx1 : Int32) (bx2 : Int32) (h0 : Heap) (n0 : Nat) (Z0 : n0 ≤ h0.size) (f0_ya : Arv Z h0 ya ka .byte (3 : Int32) [(.int ax0), (.int ax1), (.int ax2)] (.int (0 : Int32))) (f1_yb : Arv Z h0 yb kb .byte (3 : Int32) [(.int bx0), (.int bx1), (.int bx2)] (.int (0 : Int32))) :
    MetFree l (⟨"java/lang/StringLatin1", "equals", "([B[B)Z"⟩ : MethodName) (head1 (Jvm.Cond.code (⟨"java/lang/StringLatin1", "equals", "([B[B)Z"⟩ : MethodName) jdk_43_method_13_code 3 (some .boolean) :: ws) ({ frames := 0, cells := 0, slots := 0, locals := 0 } : Room)) (fun a U => a = #[(.ref ya), (.ref yb)] ∧ Z.Warmed39 U.vm ∧ U.heap = h0) (fun _ _ _ _ _ => True) (fun _ U o U' => ∃ v L, o = .returned v ∧ Q173 Z ya yb ka kb ax0 ax1 ax2 bx0 bx1 bx2 h0 n0 v U'.heap L ∧ FrameEnd U o U' L 0 0) := by
  refine MetFree.of_bodySF (plainFor_of_name pn_47) hisR ?_
  intro p e s m args below meth c s₁ Bd hml0 hP hK
  obtain ⟨rfl,hZ,hh⟩ := hP
  have hx := Bd.exec
  have hby := Bd.bytes
  have hml : c.maxLocals = 3 := hml0
  have hown : s.vm.findClass "java/lang/StringLatin1" = some m.cls := findClass_of_methodNamed Bd.named
  have hnm := (name_of_methodNamed Bd.named Bd.method).1
  have X0 : Stand p l e ({ frames := 0,cells := 0,slots := 0,locals := 0 } : Room) s m #[(.ref ya),(.ref yb)] below meth c s₁ [] 0 0 := Stand.of_body Bd
  have e0 : s₁.heap = h0 := by rw [← hh,Bd.state]; rfl
  have N0 := Fr.nil n0
  refine own_start (Q := fun v h L => Q173 Z ya yb ka kb ax0 ax1 ax2 bx0 bx1 bx2 h0 n0 v h L) ?_
  refine gv s₁ 0 #[sR ya,sR yb,sU] [] (fun t k => castTop (ef_173 m ya yb) k) ?_
  refine gv s₁ 1 #[sR ya,sR yb,sU] [(.ref ya)] (fun t k => XS.aloadN X0.here hx rfl (hb hby d17_0) rfl rfl k) ?_
  obtain ⟨cl1,Ar1,q1,S1,M1,Hs1,G1⟩ := id f0_ya
  refine gv s₁ 2 #[sR ya,sR yb,sU] [(.int 3)] (fun t k => X0.arraylength hx (by rw [e0]; exact Ar1.1) (State.isArrayOf_alike hZ.alike Ar1.2.1) (g := (mkF m 1 #[sR ya,sR yb,sU] [(.ref ya)])) rfl rfl (hb hby d17_1) _ (by rw [len_of S1 M1]; exact k)) ?_
  refine gv s₁ 3 #[sR ya,sR yb,sU] [(.ref yb),(.int 3)] (fun t k => XS.aloadN X0.here hx rfl (hb hby d17_2) rfl rfl k) ?_
  obtain ⟨cl2,Ar2,q2,S2,M2,Hs2,G2⟩ := id f1_yb
  refine gv s₁ 4 #[sR ya,sR yb,sU] [(.int 3),(.int 3)] (fun t k => X0.arraylength hx (by rw [e0]; exact Ar2.1) (State.isArrayOf_alike hZ.alike Ar2.2.1) (g := (mkF m 3 #[sR ya,sR yb,sU] [(.ref yb),(.int 3)])) rfl rfl (hb hby d17_3) _ (by rw [len_of S2 M2]; exact k)) ?_
  refine gv s₁ 7 #[sR ya,sR yb,sU] [] (fun t k => XS.icmpNo X0.here hx rfl (hb hby d17_4) rfl (teq rfl).2 k) ?_
  refine gv s₁ 8 #[sR ya,sR yb,sU] [(.int 0)] (fun t k => XS.iconst X0.here hx rfl (hb hby d17_7) k) ?_
  refine gv s₁ 9 #[sR ya,sR yb,sI 0] [] (fun t k => XS.istoreN X0.here hx rfl (hb hby d17_8) rfl (l' := #[sR ya,sR yb,sI 0]) rfl k) ?_
  refine gv s₁ 10 #[sR ya,sR yb,sI 0] [(.int 0)] (fun t k => XS.iloadN X0.here hx rfl (hb hby d17_9) rfl k) ?_
  refine gv s₁ 11 #[sR ya,sR yb,sI 0] [(.ref ya),(.int 0)] (fun t k => XS.aloadN X0.here hx rfl (hb hby d17_10) rfl rfl k) ?_
  obtain ⟨cl3,Ar3,q3,S3,M3,Hs3,G3⟩ := id f0_ya
  refine gv s₁ 12 #[sR ya,sR yb,sI 0] [(.int 3),(.int 0)] (fun t k => X0.arraylength hx (by rw [e0]; exact Ar3.1) (State.isArrayOf_alike hZ.alike Ar3.2.1) (g := (mkF m 11 #[sR ya,sR yb,sI 0] [(.ref ya),(.int 0)])) rfl rfl (hb hby d17_11) _ (by rw [len_of S3 M3]; exact k)) ?_
  refine gv s₁ 15 #[sR ya,sR yb,sI 0] [] (fun t k => XS.icmpNo X0.here hx rfl (hb hby d17_12) rfl (tlt (by decide : ((0 : Int32) < (3 : Int32)))).2.1 k) ?_
  refine gv s₁ 16 #[sR ya,sR yb,sI 0] [(.ref ya)] (fun t k => XS.aloadN X0.here hx rfl (hb hby d17_15) rfl rfl k) ?_
  refine gv s₁ 17 #[sR ya,sR yb,sI 0] [(.int 0),(.ref ya)] (fun t k => XS.iloadN X0.here hx rfl (hb hby d17_16) rfl k) ?_
  obtain ⟨cl4,Ar4,q4,S4,M4,Hs4,G4⟩ := id f0_ya
  have hin4 : ¬ ((0 : Int32) < 0 ∨ cl4.slots.size ≤ ((0 : Int32)).toNatClampNeg) := inb_of S4 ⟨by decide,by decide⟩
  have hat4 : cl4.slots[((0 : Int32)).toNatClampNeg]? = some (.int ax0) := Has.at Hs4 hin4 rfl
  refine gv s₁ 18 #[sR ya,sR yb,sI 0] [(.int ax0)] (fun t k => X0.baloadBytes hx (j := (0 : Int32)) (v := (.int ax0)) (by rw [e0]; exact Ar4.1) (State.isArrayOf_alike hZ.alike Ar4.2.1) Ar4.2.2 hin4 hat4 (g := (mkF m 17 #[sR ya,sR yb,sI 0] [(.int 0),(.ref ya)])) rfl rfl (hb hby d17_17) _ k) ?_
  refine gv s₁ 19 #[sR ya,sR yb,sI 0] [(.ref yb),(.int ax0)] (fun t k => XS.aloadN X0.here hx rfl (hb hby d17_18) rfl rfl k) ?_
  refine gv s₁ 20 #[sR ya,sR yb,sI 0] [(.int 0),(.ref yb),(.int ax0)] (fun t k => XS.iloadN X0.here hx rfl (hb hby d17_19) rfl k) ?_
  obtain ⟨cl5,Ar5,q5,S5,M5,Hs5,G5⟩ := id f1_yb
  have hin5 : ¬ ((0 : Int32) < 0 ∨ cl5.slots.size ≤ ((0 : Int32)).toNatClampNeg) := inb_of S5 ⟨by decide,by decide⟩
  have hat5 : cl5.slots[((0 : Int32)).toNatClampNeg]? = some (.int bx0) := Has.at Hs5 hin5 rfl
  refine gv s₁ 21 #[sR ya,sR yb,sI 0] [(.int bx0),(.int ax0)] (fun t k => X0.baloadBytes hx (j := (0 : Int32)) (v := (.int bx0)) (by rw [e0]; exact Ar5.1) (State.isArrayOf_alike hZ.alike Ar5.2.1) Ar5.2.2 hin5 hat5 (g := (mkF m 20 #[sR ya,sR yb,sI 0] [(.int 0),(.ref yb),(.int ax0)])) rfl rfl (hb hby d17_20) _ k) ?_
  by_cases hc6 : (ax0 = bx0)
  · refine gv s₁ 26 #[sR ya,sR yb,sI 0] [] (fun t k => XS.icmpYes X0.here hx rfl (pc0 := 21) (pc' := 26) rfl (hb hby d17_21) rfl (teq hc6).1 (by decide) (by decide) k) ?_
    refine gv s₁ 29 #[sR ya,sR yb,sI 1] [] (fun t k => XS.iinc X0.here hx rfl (hb hby d17_26) rfl (l' := #[sR ya,sR yb,sI 1]) rfl k) ?_
    refine gv s₁ 9 #[sR ya,sR yb,sI 1] [] (fun t k => XS.goto X0.here hx rfl (pc0 := 29) (pc' := 9) rfl (hb hby d17_29) (by decide) (by decide) k) ?_
    refine gv s₁ 10 #[sR ya,sR yb,sI 1] [(.int 1)] (fun t k => XS.iloadN X0.here hx rfl (hb hby d17_9) rfl k) ?_
    refine gv s₁ 11 #[sR ya,sR yb,sI 1] [(.ref ya),(.int 1)] (fun t k => XS.aloadN X0.here hx rfl (hb hby d17_10) rfl rfl k) ?_
    obtain ⟨cl7,Ar7,q7,S7,M7,Hs7,G7⟩ := id f0_ya
    refine gv s₁ 12 #[sR ya,sR yb,sI 1] [(.int 3),(.int 1)] (fun t k => X0.arraylength hx (by rw [e0]; exact Ar7.1) (State.isArrayOf_alike hZ.alike Ar7.2.1) (g := (mkF m 11 #[sR ya,sR yb,sI 1] [(.ref ya),(.int 1)])) rfl rfl (hb hby d17_11) _ (by rw [len_of S7 M7]; exact k)) ?_
    refine gv s₁ 15 #[sR ya,sR yb,sI 1] [] (fun t k => XS.icmpNo X0.here hx rfl (hb hby d17_12) rfl (tlt (by decide : ((1 : Int32) < (3 : Int32)))).2.1 k) ?_
    refine gv s₁ 16 #[sR ya,sR yb,sI 1] [(.ref ya)] (fun t k => XS.aloadN X0.here hx rfl (hb hby d17_15) rfl rfl k) ?_
    refine gv s₁ 17 #[sR ya,sR yb,sI 1] [(.int 1),(.ref ya)] (fun t k => XS.iloadN X0.here hx rfl (hb hby d17_16) rfl k) ?_
    obtain ⟨cl8,Ar8,q8,S8,M8,Hs8,G8⟩ := id f0_ya
    have hin8 : ¬ ((1 : Int32) < 0 ∨ cl8.slots.size ≤ ((1 : Int32)).toNatClampNeg) := inb_of S8 ⟨by decide,by decide⟩
    have hat8 : cl8.slots[((1 : Int32)).toNatClampNeg]? = some (.int ax1) := Has.at Hs8 hin8 rfl
    refine gv s₁ 18 #[sR ya,sR yb,sI 1] [(.int ax1)] (fun t k => X0.baloadBytes hx (j := (1 : Int32)) (v := (.int ax1)) (by rw [e0]; exact Ar8.1) (State.isArrayOf_alike hZ.alike Ar8.2.1) Ar8.2.2 hin8 hat8 (g := (mkF m 17 #[sR ya,sR yb,sI 1] [(.int 1),(.ref ya)])) rfl rfl (hb hby d17_17) _ k) ?_
    refine gv s₁ 19 #[sR ya,sR yb,sI 1] [(.ref yb),(.int ax1)] (fun t k => XS.aloadN X0.here hx rfl (hb hby d17_18) rfl rfl k) ?_
    refine gv s₁ 20 #[sR ya,sR yb,sI 1] [(.int 1),(.ref yb),(.int ax1)] (fun t k => XS.iloadN X0.here hx rfl (hb hby d17_19) rfl k) ?_
    obtain ⟨cl9,Ar9,q9,S9,M9,Hs9,G9⟩ := id f1_yb
    have hin9 : ¬ ((1 : Int32) < 0 ∨ cl9.slots.size ≤ ((1 : Int32)).toNatClampNeg) := inb_of S9 ⟨by decide,by decide⟩
    have hat9 : cl9.slots[((1 : Int32)).toNatClampNeg]? = some (.int bx1) := Has.at Hs9 hin9 rfl
    refine gv s₁ 21 #[sR ya,sR yb,sI 1] [(.int bx1),(.int ax1)] (fun t k => X0.baloadBytes hx (j := (1 : Int32)) (v := (.int bx1)) (by rw [e0]; exact Ar9.1) (State.isArrayOf_alike hZ.alike Ar9.2.1) Ar9.2.2 hin9 hat9 (g := (mkF m 20 #[sR ya,sR yb,sI 1] [(.int 1),(.ref yb),(.int ax1)])) rfl rfl (hb hby d17_20) _ k) ?_
    by_cases hc10 : (ax1 = bx1)
    · refine gv s₁ 26 #[sR ya,sR yb,sI 1] [] (fun t k => XS.icmpYes X0.here hx rfl (pc0 := 21) (pc' := 26) rfl (hb hby d17_21) rfl (teq hc10).1 (by decide) (by decide) k) ?_
      refine gv s₁ 29 #[sR ya,sR yb,sI 2] [] (fun t k => XS.iinc X0.here hx rfl (hb hby d17_26) rfl (l' := #[sR ya,sR yb,sI 2]) rfl k) ?_
      refine gv s₁ 9 #[sR ya,sR yb,sI 2] [] (fun t k => XS.goto X0.here hx rfl (pc0 := 29) (pc' := 9) rfl (hb hby d17_29) (by decide) (by decide) k) ?_
      refine gv s₁ 10 #[sR ya,sR yb,sI 2] [(.int 2)] (fun t k => XS.iloadN X0.here hx rfl (hb hby d17_9) rfl k) ?_
      refine gv s₁ 11 #[sR ya,sR yb,sI 2] [(.ref ya),(.int 2)] (fun t k => XS.aloadN X0.here hx rfl (hb hby d17_10) rfl rfl k) ?_
      obtain ⟨cl11,Ar11,q11,S11,M11,Hs11,G11⟩ := id f0_ya
      refine gv s₁ 12 #[sR ya,sR yb,sI 2] [(.int 3),(.int 2)] (fun t k => X0.arraylength hx (by rw [e0]; exact Ar11.1) (State.isArrayOf_alike hZ.alike Ar11.2.1) (g := (mkF m 11 #[sR ya,sR yb,sI 2] [(.ref ya),(.int 2)])) rfl rfl (hb hby d17_11) _ (by rw [len_of S11 M11]; exact k)) ?_
      refine gv s₁ 15 #[sR ya,sR yb,sI 2] [] (fun t k => XS.icmpNo X0.here hx rfl (hb hby d17_12) rfl (tlt (by decide : ((2 : Int32) < (3 : Int32)))).2.1 k) ?_
      refine gv s₁ 16 #[sR ya,sR yb,sI 2] [(.ref ya)] (fun t k => XS.aloadN X0.here hx rfl (hb hby d17_15) rfl rfl k) ?_
      refine gv s₁ 17 #[sR ya,sR yb,sI 2] [(.int 2),(.ref ya)] (fun t k => XS.iloadN X0.here hx rfl (hb hby d17_16) rfl k) ?_
      obtain ⟨cl12,Ar12,q12,S12,M12,Hs12,G12⟩ := id f0_ya
      have hin12 : ¬ ((2 : Int32) < 0 ∨ cl12.slots.size ≤ ((2 : Int32)).toNatClampNeg) := inb_of S12 ⟨by decide,by decide⟩
      have hat12 : cl12.slots[((2 : Int32)).toNatClampNeg]? = some (.int ax2) := Has.at Hs12 hin12 rfl
      refine gv s₁ 18 #[sR ya,sR yb,sI 2] [(.int ax2)] (fun t k => X0.baloadBytes hx (j := (2 : Int32)) (v := (.int ax2)) (by rw [e0]; exact Ar12.1) (State.isArrayOf_alike hZ.alike Ar12.2.1) Ar12.2.2 hin12 hat12 (g := (mkF m 17 #[sR ya,sR yb,sI 2] [(.int 2),(.ref ya)])) rfl rfl (hb hby d17_17) _ k) ?_
      refine gv s₁ 19 #[sR ya,sR yb,sI 2] [(.ref yb),(.int ax2)] (fun t k => XS.aloadN X0.here hx rfl (hb hby d17_18) rfl rfl k) ?_
      refine gv s₁ 20 #[sR ya,sR yb,sI 2] [(.int 2),(.ref yb),(.int ax2)] (fun t k => XS.iloadN X0.here hx rfl (hb hby d17_19) rfl k) ?_
      obtain ⟨cl13,Ar13,q13,S13,M13,Hs13,G13⟩ := id f1_yb
      have hin13 : ¬ ((2 : Int32) < 0 ∨ cl13.slots.size ≤ ((2 : Int32)).toNatClampNeg) := inb_of S13 ⟨by decide,by decide⟩
      have hat13 : cl13.slots[((2 : Int32)).toNatClampNeg]? = some (.int bx2) := Has.at Hs13 hin13 rfl
      refine gv s₁ 21 #[sR ya,sR yb,sI 2] [(.int bx2),(.int ax2)] (fun t k => X0.baloadBytes hx (j := (2 : Int32)) (v := (.int bx2)) (by rw [e0]; exact Ar13.1) (State.isArrayOf_alike hZ.alike Ar13.2.1) Ar13.2.2 hin13 hat13 (g := (mkF m 20 #[sR ya,sR yb,sI 2] [(.int 2),(.ref yb),(.int ax2)])) rfl rfl (hb hby d17_20) _ k) ?_
      by_cases hc14 : (ax2 = bx2)
      · refine gv s₁ 26 #[sR ya,sR yb,sI 2] [] (fun t k => XS.icmpYes X0.here hx rfl (pc0 := 21) (pc' := 26) rfl (hb hby d17_21) rfl (teq hc14).1 (by decide) (by decide) k) ?_
        refine gv s₁ 29 #[sR ya,sR yb,sI 3] [] (fun t k => XS.iinc X0.here hx rfl (hb hby d17_26) rfl (l' := #[sR ya,sR yb,sI 3]) rfl k) ?_
        refine gv s₁ 9 #[sR ya,sR yb,sI 3] [] (fun t k => XS.goto X0.here hx rfl (pc0 := 29) (pc' := 9) rfl (hb hby d17_29) (by decide) (by decide) k) ?_
        refine gv s₁ 10 #[sR ya,sR yb,sI 3] [(.int 3)] (fun t k => XS.iloadN X0.here hx rfl (hb hby d17_9) rfl k) ?_
        refine gv s₁ 11 #[sR ya,sR yb,sI 3] [(.ref ya),(.int 3)] (fun t k => XS.aloadN X0.here hx rfl (hb hby d17_10) rfl rfl k) ?_
        obtain ⟨cl15,Ar15,q15,S15,M15,Hs15,G15⟩ := id f0_ya
        refine gv s₁ 12 #[sR ya,sR yb,sI 3] [(.int 3),(.int 3)] (fun t k => X0.arraylength hx (by rw [e0]; exact Ar15.1) (State.isArrayOf_alike hZ.alike Ar15.2.1) (g := (mkF m 11 #[sR ya,sR yb,sI 3] [(.ref ya),(.int 3)])) rfl rfl (hb hby d17_11) _ (by rw [len_of S15 M15]; exact k)) ?_
        refine gv s₁ 32 #[sR ya,sR yb,sI 3] [] (fun t k => XS.icmpYes X0.here hx rfl (pc0 := 12) (pc' := 32) rfl (hb hby d17_12) rfl (flt (by decide : ¬ ((3 : Int32) < (3 : Int32)))).2.1 (by decide) (by decide) k) ?_
        refine gv s₁ 33 #[sR ya,sR yb,sI 3] [(.int 1)] (fun t k => XS.iconst X0.here hx rfl (hb hby d17_32) k) ?_
        exact own_ret X0 hx Bd.notSynchronized Bd.returns rfl (Or.inl ⟨rfl,by simp,_,rfl⟩) (hb hby d17_33) e0 ⟨(1 : Int32),rfl,(if_pos ⟨hc6,⟨hc10,hc14⟩⟩).symm,N0,rfl⟩ (by decide) (by decide)
      · refine gv s₁ 24 #[sR ya,sR yb,sI 2] [] (fun t k => XS.icmpNo X0.here hx rfl (hb hby d17_21) rfl (feq hc14).1 k) ?_
        refine gv s₁ 25 #[sR ya,sR yb,sI 2] [(.int 0)] (fun t k => XS.iconst X0.here hx rfl (hb hby d17_24) k) ?_
        exact own_ret X0 hx Bd.notSynchronized Bd.returns rfl (Or.inl ⟨rfl,by simp,_,rfl⟩) (hb hby d17_25) e0 ⟨(0 : Int32),rfl,(if_neg (fun q => (fun q => hc14 q.2) q.2)).symm,N0,rfl⟩ (by decide) (by decide)
    · refine gv s₁ 24 #[sR ya,sR yb,sI 1] [] (fun t k => XS.icmpNo X0.here hx rfl (hb hby d17_21) rfl (feq hc10).1 k) ?_
      refine gv s₁ 25 #[sR ya,sR yb,sI 1] [(.int 0)] (fun t k => XS.iconst X0.here hx rfl (hb hby d17_24) k) ?_
      exact own_ret X0 hx Bd.notSynchronized Bd.returns rfl (Or.inl ⟨rfl,by simp,_,rfl⟩) (hb hby d17_25) e0 ⟨(0 : Int32),rfl,(if_neg (fun q => (fun q => hc10 q.1) q.2)).symm,N0,rfl⟩ (by decide) (by decide)
  · refine gv s₁ 24 #[sR ya,sR yb,sI 0] [] (fun t k => XS.icmpNo X0.here hx rfl (hb hby d17_21) rfl (feq hc6).1 k) ?_
    refine gv s₁ 25 #[sR ya,sR yb,sI 0] [(.int 0)] (fun t k => XS.iconst X0.here hx rfl (hb hby d17_24) k) ?_
    exact own_ret X0 hx Bd.notSynchronized Bd.returns rfl (Or.inl ⟨rfl,by simp,_,rfl⟩) (hb hby d17_25) e0 ⟨(0 : Int32),rfl,(if_neg (fun q => hc6 q.1)).symm,N0,rfl⟩ (by decide) (by decide)
theorem d16_50 : decode jdk_42_method_66_code 50 = .ok (.iconst 1, 1) := by decide +kernel
theorem d16_51 : decode jdk_42_method_66_code 51 = .ok (.goto 4, 3) := by decide +kernel
theorem ef_163 (m : MethodId) (xa : Addr) (xb : Addr) : entryFrame m #[(.ref xa), (.ref xb)] 3 = mkF m 0 #[.val (.ref xa), .val (.ref xb), .unset] [] := by first | (simp [entryFrame, mkF, argsToLocals, Value.category]; done) | rfl
def Q163 (Z : State) (xa : Addr) (xb : Addr) (ya : Addr) (yb : Addr) (ka : ClassId) (kb : ClassId) (wc : Int32) (ax0 : Int32) (ax1 : Int32) (ax2 : Int32) (bx0 : Int32) (bx1 : Int32) (bx2 : Int32) (h0 : Heap) (n0 : Nat) (v : Option Value) (h : Heap) (L : List Loc) : Prop := ∃ r : Int32, v = some (.int r) ∧ r = (if ((ax0 = bx0) ∧ ((ax1 = bx1) ∧ (ax2 = bx2))) then (1 : Int32) else 0) ∧ Fr n0 L ∧ h = h0
set_option maxRecDepth 65536 in
set_option maxHeartbeats 40000000 in
theorem rm163 (l : Launch) (Z : State) (a0 : Array Value) (hw : ∀ d ∈ tables_1, d.before a0 Z = true) (ws : List Jvm.Cond) (xa : Addr) (xb : Addr) (ya : Addr) (yb : Addr) (ka : ClassId) (kb : ClassId) (wc : Int32) (ax0 : Int32) (ax1 : Int32) (ax2 : Int32) (bx0 : Int32) (bx1 : Int32) (bx2 : Int32) (h0 : Heap) (n0 : Nat) (Z0 : n0 ≤ h0.size) (f0_xa : Exa Z h0 xa "java/lang/String") (f1_xa_coder : Fld Z h0 xa "java/lang/String" "coder" "B" (.int (0 : Int32))) (f2_xa_value : Fld Z h0 xa "java/lang/String" "value" "[B" (.ref ya)) (f3_ya : Arv Z h0 ya ka .byte (3 : Int32) [(.int ax0), (.int ax1), (.int ax2)] (.int (0 : Int32))) (f4_xb : Exa Z h0 xb "java/lang/String") (f5_xb_coder : Fld Z h0 xb "java/lang/String" "coder" "B" (.int (0 : Int32))) (f6_xb_value : Fld Z h0 xb "java/lang/String" "value" "[B" (.ref yb)) (f7_yb : Arv Z h0 yb kb .byte (3 : Int32) [(.int bx0), (.int bx1), (.int bx2)] (.int (0 : Int32))) (f8_COMPACT_STRINGS : Sta Z h0 "java/lang/String" "COMPACT_STRINGS" "Z" (.int wc)) (ne_xa_xb : xa ≠ xb) (hwc : ¬ wc = (0 : Int32)) :
    MetFree l (⟨"java/lang/String", "equals", "(Ljava/lang/Object;)Z"⟩ : MethodName) (head1 (Jvm.Cond.code (⟨"java/lang/String", "equals", "(Ljava/lang/Object;)Z"⟩ : MethodName) jdk_42_method_66_code 3 (some .boolean) :: ws) ({ frames := 1, cells := 0, slots := 0, locals := 14 } : Room)) (fun a U => a = #[(.ref xa), (.ref xb)] ∧ Z.Warmed39 U.vm ∧ U.heap = h0) (fun _ _ _ _ _ => True) (fun _ U o U' => ∃ v L, o = .returned v ∧ Q163 Z xa xb ya yb ka kb wc ax0 ax1 ax2 bx0 bx1 bx2 h0 n0 v U'.heap L ∧ FrameEnd U o U' L 0 0) := by
  refine MetFree.of_bodySF (plainFor_of_name pn_6) hisR ?_
  intro p e s m args below meth c s₁ Bd hml0 hP hK
  obtain ⟨rfl,hZ,hh⟩ := hP
  have hx := Bd.exec
  have hby := Bd.bytes
  have hml : c.maxLocals = 3 := hml0
  have hown : s.vm.findClass "java/lang/String" = some m.cls := findClass_of_methodNamed Bd.named
  have hnm := (name_of_methodNamed Bd.named Bd.method).1
  have X0 : Stand p l e ({ frames := 1,cells := 0,slots := 0,locals := 14 } : Room) s m #[(.ref xa),(.ref xb)] below meth c s₁ [] 0 0 := Stand.of_body Bd
  have e0 : s₁.heap = h0 := by rw [← hh,Bd.state]; rfl
  have N0 := Fr.nil n0
  refine own_start (Q := fun v h L => Q163 Z xa xb ya yb ka kb wc ax0 ax1 ax2 bx0 bx1 bx2 h0 n0 v h L) ?_
  refine gv s₁ 0 #[sR xa,sR xb,sU] [] (fun t k => castTop (ef_163 m xa xb) k) ?_
  refine gv s₁ 1 #[sR xa,sR xb,sU] [(.ref xa)] (fun t k => XS.aloadN X0.here hx rfl (hb hby d16_0) rfl rfl k) ?_
  refine gv s₁ 2 #[sR xa,sR xb,sU] [(.ref xb),(.ref xa)] (fun t k => XS.aloadN X0.here hx rfl (hb hby d16_1) rfl rfl k) ?_
  refine gv s₁ 7 #[sR xa,sR xb,sU] [] (fun t k => Jvm.RoadKit.acmp (g := (mkF m 2 #[sR xa,sR xb,sU] [(.ref xb),(.ref xa)])) X0 hx rfl rfl rfl (pc0 := 2) (pc' := 7) (same := false) rfl (hb hby d16_2) rfl (decide_eq_false fun q => ne_xa_xb (Value.ref.inj q)) (by decide) (by decide) k) ?_
  refine gv s₁ 8 #[sR xa,sR xb,sU] [(.ref xb)] (fun t k => XS.aloadN X0.here hx rfl (hb hby d16_7) rfl rfl k) ?_
  obtain ⟨T1,X1,e1,st1⟩ := instY X0 hx hZ hown (w_ hw 77 rfl) e0 (Ins.self f4_xb) (g := (mkF m 8 #[sR xa,sR xb,sU] [(.ref xb)])) rfl rfl (hb hby d16_8)
  refine gv T1 11 #[sR xa,sR xb,sU] [(.int 1)] (fun t k => st1 _ k) ?_
  refine gv T1 14 #[sR xa,sR xb,sU] [] (fun t k => XS.ifNo X1.here hx rfl (hb hby d16_11) rfl ((if0 _ _).trans (feq (by decide : ¬ ((1 : Int32) = (0 : Int32)))).1) k) ?_
  refine gv T1 15 #[sR xa,sR xb,sU] [(.ref xb)] (fun t k => XS.aloadN X1.here hx rfl (hb hby d16_14) rfl rfl k) ?_
  obtain ⟨T2,X2,e2,st2⟩ := castY X1 hx hZ hown (w_ hw 77 rfl) e1 (Ins.self f4_xb) (g := (mkF m 15 #[sR xa,sR xb,sU] [(.ref xb)])) rfl rfl (hb hby d16_15)
  refine gv T2 18 #[sR xa,sR xb,sU] [(.ref xb)] (fun t k => st2 _ k) ?_
  refine gv T2 19 #[sR xa,sR xb,sR xb] [] (fun t k => XS.astoreN X2.here hx rfl (hb hby d16_18) rfl rfl (l' := #[sR xa,sR xb,sR xb]) rfl k) ?_
  obtain ⟨T3,X3,e3,st3⟩ := getS2 X2 hx hZ hown (host := "") (Or.inl (w_ hw 26 rfl)) Via.refl e2 f8_COMPACT_STRINGS (g := (mkF m 19 #[sR xa,sR xb,sR xb] [])) rfl (hb hby d16_19)
  refine gv T3 22 #[sR xa,sR xb,sR xb] [(.int wc)] (fun t k => st3 _ k) ?_
  refine gv T3 25 #[sR xa,sR xb,sR xb] [] (fun t k => XS.ifNo X3.here hx rfl (hb hby d16_22) rfl ((if0 _ _).trans (feq hwc).1) k) ?_
  refine gv T3 26 #[sR xa,sR xb,sR xb] [(.ref xa)] (fun t k => XS.aloadN X3.here hx rfl (hb hby d16_25) rfl rfl k) ?_
  obtain ⟨T4,X4,e4,st4⟩ := getF X3 hx hZ hown (host := "") (Or.inl (w_ hw 27 rfl)) Via.refl e3 f1_xa_coder (g := (mkF m 26 #[sR xa,sR xb,sR xb] [(.ref xa)])) rfl rfl (hb hby d16_26)
  refine gv T4 29 #[sR xa,sR xb,sR xb] [(.int 0)] (fun t k => st4 _ k) ?_
  refine gv T4 30 #[sR xa,sR xb,sR xb] [(.ref xb),(.int 0)] (fun t k => XS.aloadN X4.here hx rfl (hb hby d16_29) rfl rfl k) ?_
  obtain ⟨T5,X5,e5,st5⟩ := getF X4 hx hZ hown (host := "") (Or.inl (w_ hw 27 rfl)) Via.refl e4 f5_xb_coder (g := (mkF m 30 #[sR xa,sR xb,sR xb] [(.ref xb),(.int 0)])) rfl rfl (hb hby d16_30)
  refine gv T5 33 #[sR xa,sR xb,sR xb] [(.int 0),(.int 0)] (fun t k => st5 _ k) ?_
  refine gv T5 36 #[sR xa,sR xb,sR xb] [] (fun t k => XS.icmpNo X5.here hx rfl (hb hby d16_33) rfl (teq rfl).2 k) ?_
  refine gv T5 37 #[sR xa,sR xb,sR xb] [(.ref xa)] (fun t k => XS.aloadN X5.here hx rfl (hb hby d16_36) rfl rfl k) ?_
  obtain ⟨T6,X6,e6,st6⟩ := getF X5 hx hZ hown (host := "") (Or.inl (w_ hw 20 rfl)) Via.refl e5 f2_xa_value (g := (mkF m 37 #[sR xa,sR xb,sR xb] [(.ref xa)])) rfl rfl (hb hby d16_37)
  refine gv T6 40 #[sR xa,sR xb,sR xb] [(.ref ya)] (fun t k => st6 _ k) ?_
  refine gv T6 41 #[sR xa,sR xb,sR xb] [(.ref xb),(.ref ya)] (fun t k => XS.aloadN X6.here hx rfl (hb hby d16_40) rfl rfl k) ?_
  obtain ⟨T7,X7,e7,st7⟩ := getF X6 hx hZ hown (host := "") (Or.inl (w_ hw 20 rfl)) Via.refl e6 f6_xb_value (g := (mkF m 41 #[sR xa,sR xb,sR xb] [(.ref xb),(.ref ya)])) rfl rfl (hb hby d16_41)
  refine gv T7 44 #[sR xa,sR xb,sR xb] [(.ref yb),(.ref ya)] (fun t k => st7 _ k) ?_
  obtain ⟨_,_,⟨T8,L8,k8,n8⟩,-,X8,⟨Lc8,hQ8,l8,y8,z8⟩,st8⟩ := Jvm.LawKit.callS X7 hx (y := (⟨"java/lang/StringLatin1","equals","([B[B)Z"⟩ : MethodName)) hown (mvT hZ (w_ hw 78 rfl)) (mvT hZ (w_ hw 79 rfl)) (mvT hZ (w_ hw 40 rfl)) (mvT hZ (w_ hw 80 rfl)) (by decide) (backOf (W := 0) (rm173 l Z a0 hw [] ya yb ka kb ax0 ax1 ax2 bx0 bx1 bx2 h0 n0 Z0 f3_ya f7_yb) hZ (w_ hw 80 rfl) (w_ hw 40 rfl) (by decide) (by decide)) (g := (mkF m 44 #[sR xa,sR xb,sR xb] [(.ref yb),(.ref ya)])) rfl (by rw [hml]; rfl) (argsL := [(.ref ya),(.ref yb)]) (rest := []) (lenOf pd_12 rfl) rfl (own_rm rfl) (hb hby d16_44) (fun _ _ => ⟨rfl,e7,(by decide : 0 + 0 ≤ _),(by decide : 0 + 0 ≤ _)⟩)
  dsimp only [Pt.U, Pt.locs, Pt.cells, Pt.slots] at X8 l8 y8 z8 st8 hQ8
  replace X8 := own_cast X8 l8 y8 z8
  obtain ⟨r8,rfl,hr8,N8q,eq8⟩ := hQ8
  have N8 := Fr.app N0 N8q
  refine gv T8 47 #[sR xa,sR xb,sR xb] [(.int r8)] (fun t k => st8 _ k) ?_
  obtain ⟨v10,hv10⟩ : ∃ z : Int32,z = (if ((ax0 = bx0) ∧ ((ax1 = bx1) ∧ (ax2 = bx2))) then (1 : Int32) else 0) := ⟨_,rfl⟩
  refine Goes.via (S' := (T8.setTop (mkF m 55 #[sR xa,sR xb,sR xb] [(.int v10)]))) (fun t k => ?_) ?_
  · by_cases hc9 : ((ax0 = bx0) ∧ ((ax1 = bx1) ∧ (ax2 = bx2)))
    · refine XS.ifNo X8.here hx rfl (hb hby d16_47) rfl ((if0 _ _).trans (feq (own_b1 hr8 hc9)).1) ?_
      show Steps p.tables e below (T8.setTop (mkF m 50 #[sR xa,sR xb,sR xb] [])) _
      refine XS.iconst X8.here hx rfl (hb hby d16_50) ?_
      show Steps p.tables e below (T8.setTop (mkF m 51 #[sR xa,sR xb,sR xb] [(.int 1)])) _
      refine XS.goto X8.here hx rfl (pc0 := 51) (pc' := 55) rfl (hb hby d16_51) (by decide) (by decide) ?_
      show Steps p.tables e below (T8.setTop (mkF m 55 #[sR xa,sR xb,sR xb] [(.int 1)])) _
      have q_v10 : v10 = (1 : Int32) := hv10.trans (if_pos hc9)
      rw [q_v10] at k
      exact k
    · refine XS.ifYes X8.here hx rfl (pc0 := 47) (pc' := 54) rfl (hb hby d16_47) rfl ((if0 _ _).trans (teq (own_b0 hr8 hc9)).1) (by decide) (by decide) ?_
      show Steps p.tables e below (T8.setTop (mkF m 54 #[sR xa,sR xb,sR xb] [])) _
      refine XS.iconst X8.here hx rfl (hb hby d16_54) ?_
      show Steps p.tables e below (T8.setTop (mkF m 55 #[sR xa,sR xb,sR xb] [(.int 0)])) _
      have q_v10 : v10 = (0 : Int32) := hv10.trans (if_neg hc9)
      rw [q_v10] at k
      exact k
  exact own_ret X8 hx Bd.notSynchronized Bd.returns (own_nb hv10) (Or.inl ⟨rfl,by simp,_,rfl⟩) (hb hby d16_55) eq8 ⟨v10,rfl,hv10,N8,rfl⟩ (by decide) (by decide)
theorem ef_175 (m : MethodId) (ya : Addr) (yb : Addr) : entryFrame m #[(.ref ya), (.ref yb)] 3 = mkF m 0 #[.val (.ref ya), .val (.ref yb), .unset] [] := by first | (simp [entryFrame, mkF, argsToLocals, Value.category]; done) | rfl
def Q175 (Z : State) (ya : Addr) (yb : Addr) (ka : ClassId) (kb : ClassId) (ax0 : Int32) (ax1 : Int32) (ax2 : Int32) (ax3 : Int32) (ax4 : Int32) (bx0 : Int32) (bx1 : Int32) (bx2 : Int32) (bx3 : Int32) (bx4 : Int32) (h0 : Heap) (n0 : Nat) (v : Option Value) (h : Heap) (L : List Loc) : Prop := ∃ r : Int32, v = some (.int r) ∧ r = (if ((ax0 = bx0) ∧ ((ax1 = bx1) ∧ ((ax2 = bx2) ∧ ((ax3 = bx3) ∧ (ax4 = bx4))))) then (1 : Int32) else 0) ∧ Fr n0 L ∧ h = h0
set_option maxRecDepth 65536 in
set_option maxHeartbeats 40000000 in
theorem rm175 (l : Launch) (Z : State) (a0 : Array Value) (hw : ∀ d ∈ tables_1, d.before a0 Z = true) (ws : List Jvm.Cond) (ya : Addr) (yb : Addr) (ka : ClassId) (kb : ClassId) (ax0 : Int32) (ax1 : Int32) (ax2 : Int32) (ax3 : Int32) (ax4 : Int32) (bx0 : Int32) (bx1 : Int32) (bx2 : Int32) (bx3 : Int32) (bx4 : Int32) (h0 : Heap) (n0 : Nat) (Z0 : n0 ≤ h0.size) (f0_ya : Arv Z h0 ya ka .byte (5 : Int32) [(.int ax0), (.int ax1), (.int ax2), (.int ax3), (.int ax4)] (.int (0 : Int32))) (f1_yb : Arv Z h0 yb kb .byte (5 : Int32) [(.int bx0), (.int bx1), (.int bx2), (.int bx3), (.int bx4)] (.int (0 : Int32))) :
    MetFree l (⟨"java/lang/StringLatin1", "equals", "([B[B)Z"⟩ : MethodName) (head1 (Jvm.Cond.code (⟨"java/lang/StringLatin1", "equals", "([B[B)Z"⟩ : MethodName) jdk_43_method_13_code 3 (some .boolean) :: ws) ({ frames := 0, cells := 0, slots := 0, locals := 0 } : Room)) (fun a U => a = #[(.ref ya), (.ref yb)] ∧ Z.Warmed39 U.vm ∧ U.heap = h0) (fun _ _ _ _ _ => True) (fun _ U o U' => ∃ v L, o = .returned v ∧ Q175 Z ya yb ka kb ax0 ax1 ax2 ax3 ax4 bx0 bx1 bx2 bx3 bx4 h0 n0 v U'.heap L ∧ FrameEnd U o U' L 0 0) := by
  refine MetFree.of_bodySF (plainFor_of_name pn_47) hisR ?_
  intro p e s m args below meth c s₁ Bd hml0 hP hK
  obtain ⟨rfl,hZ,hh⟩ := hP
  have hx := Bd.exec
  have hby := Bd.bytes
  have hml : c.maxLocals = 3 := hml0
  have hown : s.vm.findClass "java/lang/StringLatin1" = some m.cls := findClass_of_methodNamed Bd.named
  have hnm := (name_of_methodNamed Bd.named Bd.method).1
  have X0 : Stand p l e ({ frames := 0,cells := 0,slots := 0,locals := 0 } : Room) s m #[(.ref ya),(.ref yb)] below meth c s₁ [] 0 0 := Stand.of_body Bd
  have e0 : s₁.heap = h0 := by rw [← hh,Bd.state]; rfl
  have N0 := Fr.nil n0
  refine own_start (Q := fun v h L => Q175 Z ya yb ka kb ax0 ax1 ax2 ax3 ax4 bx0 bx1 bx2 bx3 bx4 h0 n0 v h L) ?_
  refine gv s₁ 0 #[sR ya,sR yb,sU] [] (fun t k => castTop (ef_175 m ya yb) k) ?_
  refine gv s₁ 1 #[sR ya,sR yb,sU] [(.ref ya)] (fun t k => XS.aloadN X0.here hx rfl (hb hby d17_0) rfl rfl k) ?_
  obtain ⟨cl1,Ar1,q1,S1,M1,Hs1,G1⟩ := id f0_ya
  refine gv s₁ 2 #[sR ya,sR yb,sU] [(.int 5)] (fun t k => X0.arraylength hx (by rw [e0]; exact Ar1.1) (State.isArrayOf_alike hZ.alike Ar1.2.1) (g := (mkF m 1 #[sR ya,sR yb,sU] [(.ref ya)])) rfl rfl (hb hby d17_1) _ (by rw [len_of S1 M1]; exact k)) ?_
  refine gv s₁ 3 #[sR ya,sR yb,sU] [(.ref yb),(.int 5)] (fun t k => XS.aloadN X0.here hx rfl (hb hby d17_2) rfl rfl k) ?_
  obtain ⟨cl2,Ar2,q2,S2,M2,Hs2,G2⟩ := id f1_yb
  refine gv s₁ 4 #[sR ya,sR yb,sU] [(.int 5),(.int 5)] (fun t k => X0.arraylength hx (by rw [e0]; exact Ar2.1) (State.isArrayOf_alike hZ.alike Ar2.2.1) (g := (mkF m 3 #[sR ya,sR yb,sU] [(.ref yb),(.int 5)])) rfl rfl (hb hby d17_3) _ (by rw [len_of S2 M2]; exact k)) ?_
  refine gv s₁ 7 #[sR ya,sR yb,sU] [] (fun t k => XS.icmpNo X0.here hx rfl (hb hby d17_4) rfl (teq rfl).2 k) ?_
  refine gv s₁ 8 #[sR ya,sR yb,sU] [(.int 0)] (fun t k => XS.iconst X0.here hx rfl (hb hby d17_7) k) ?_
  refine gv s₁ 9 #[sR ya,sR yb,sI 0] [] (fun t k => XS.istoreN X0.here hx rfl (hb hby d17_8) rfl (l' := #[sR ya,sR yb,sI 0]) rfl k) ?_
  refine gv s₁ 10 #[sR ya,sR yb,sI 0] [(.int 0)] (fun t k => XS.iloadN X0.here hx rfl (hb hby d17_9) rfl k) ?_
  refine gv s₁ 11 #[sR ya,sR yb,sI 0] [(.ref ya),(.int 0)] (fun t k => XS.aloadN X0.here hx rfl (hb hby d17_10) rfl rfl k) ?_
  obtain ⟨cl3,Ar3,q3,S3,M3,Hs3,G3⟩ := id f0_ya
  refine gv s₁ 12 #[sR ya,sR yb,sI 0] [(.int 5),(.int 0)] (fun t k => X0.arraylength hx (by rw [e0]; exact Ar3.1) (State.isArrayOf_alike hZ.alike Ar3.2.1) (g := (mkF m 11 #[sR ya,sR yb,sI 0] [(.ref ya),(.int 0)])) rfl rfl (hb hby d17_11) _ (by rw [len_of S3 M3]; exact k)) ?_
  refine gv s₁ 15 #[sR ya,sR yb,sI 0] [] (fun t k => XS.icmpNo X0.here hx rfl (hb hby d17_12) rfl (tlt (by decide : ((0 : Int32) < (5 : Int32)))).2.1 k) ?_
  refine gv s₁ 16 #[sR ya,sR yb,sI 0] [(.ref ya)] (fun t k => XS.aloadN X0.here hx rfl (hb hby d17_15) rfl rfl k) ?_
  refine gv s₁ 17 #[sR ya,sR yb,sI 0] [(.int 0),(.ref ya)] (fun t k => XS.iloadN X0.here hx rfl (hb hby d17_16) rfl k) ?_
  obtain ⟨cl4,Ar4,q4,S4,M4,Hs4,G4⟩ := id f0_ya
  have hin4 : ¬ ((0 : Int32) < 0 ∨ cl4.slots.size ≤ ((0 : Int32)).toNatClampNeg) := inb_of S4 ⟨by decide,by decide⟩
  have hat4 : cl4.slots[((0 : Int32)).toNatClampNeg]? = some (.int ax0) := Has.at Hs4 hin4 rfl
  refine gv s₁ 18 #[sR ya,sR yb,sI 0] [(.int ax0)] (fun t k => X0.baloadBytes hx (j := (0 : Int32)) (v := (.int ax0)) (by rw [e0]; exact Ar4.1) (State.isArrayOf_alike hZ.alike Ar4.2.1) Ar4.2.2 hin4 hat4 (g := (mkF m 17 #[sR ya,sR yb,sI 0] [(.int 0),(.ref ya)])) rfl rfl (hb hby d17_17) _ k) ?_
  refine gv s₁ 19 #[sR ya,sR yb,sI 0] [(.ref yb),(.int ax0)] (fun t k => XS.aloadN X0.here hx rfl (hb hby d17_18) rfl rfl k) ?_
  refine gv s₁ 20 #[sR ya,sR yb,sI 0] [(.int 0),(.ref yb),(.int ax0)] (fun t k => XS.iloadN X0.here hx rfl (hb hby d17_19) rfl k) ?_
  obtain ⟨cl5,Ar5,q5,S5,M5,Hs5,G5⟩ := id f1_yb
  have hin5 : ¬ ((0 : Int32) < 0 ∨ cl5.slots.size ≤ ((0 : Int32)).toNatClampNeg) := inb_of S5 ⟨by decide,by decide⟩
  have hat5 : cl5.slots[((0 : Int32)).toNatClampNeg]? = some (.int bx0) := Has.at Hs5 hin5 rfl
  refine gv s₁ 21 #[sR ya,sR yb,sI 0] [(.int bx0),(.int ax0)] (fun t k => X0.baloadBytes hx (j := (0 : Int32)) (v := (.int bx0)) (by rw [e0]; exact Ar5.1) (State.isArrayOf_alike hZ.alike Ar5.2.1) Ar5.2.2 hin5 hat5 (g := (mkF m 20 #[sR ya,sR yb,sI 0] [(.int 0),(.ref yb),(.int ax0)])) rfl rfl (hb hby d17_20) _ k) ?_
  by_cases hc6 : (ax0 = bx0)
  · refine gv s₁ 26 #[sR ya,sR yb,sI 0] [] (fun t k => XS.icmpYes X0.here hx rfl (pc0 := 21) (pc' := 26) rfl (hb hby d17_21) rfl (teq hc6).1 (by decide) (by decide) k) ?_
    refine gv s₁ 29 #[sR ya,sR yb,sI 1] [] (fun t k => XS.iinc X0.here hx rfl (hb hby d17_26) rfl (l' := #[sR ya,sR yb,sI 1]) rfl k) ?_
    refine gv s₁ 9 #[sR ya,sR yb,sI 1] [] (fun t k => XS.goto X0.here hx rfl (pc0 := 29) (pc' := 9) rfl (hb hby d17_29) (by decide) (by decide) k) ?_
    refine gv s₁ 10 #[sR ya,sR yb,sI 1] [(.int 1)] (fun t k => XS.iloadN X0.here hx rfl (hb hby d17_9) rfl k) ?_
    refine gv s₁ 11 #[sR ya,sR yb,sI 1] [(.ref ya),(.int 1)] (fun t k => XS.aloadN X0.here hx rfl (hb hby d17_10) rfl rfl k) ?_
    obtain ⟨cl7,Ar7,q7,S7,M7,Hs7,G7⟩ := id f0_ya
    refine gv s₁ 12 #[sR ya,sR yb,sI 1] [(.int 5),(.int 1)] (fun t k => X0.arraylength hx (by rw [e0]; exact Ar7.1) (State.isArrayOf_alike hZ.alike Ar7.2.1) (g := (mkF m 11 #[sR ya,sR yb,sI 1] [(.ref ya),(.int 1)])) rfl rfl (hb hby d17_11) _ (by rw [len_of S7 M7]; exact k)) ?_
    refine gv s₁ 15 #[sR ya,sR yb,sI 1] [] (fun t k => XS.icmpNo X0.here hx rfl (hb hby d17_12) rfl (tlt (by decide : ((1 : Int32) < (5 : Int32)))).2.1 k) ?_
    refine gv s₁ 16 #[sR ya,sR yb,sI 1] [(.ref ya)] (fun t k => XS.aloadN X0.here hx rfl (hb hby d17_15) rfl rfl k) ?_
    refine gv s₁ 17 #[sR ya,sR yb,sI 1] [(.int 1),(.ref ya)] (fun t k => XS.iloadN X0.here hx rfl (hb hby d17_16) rfl k) ?_
    obtain ⟨cl8,Ar8,q8,S8,M8,Hs8,G8⟩ := id f0_ya
    have hin8 : ¬ ((1 : Int32) < 0 ∨ cl8.slots.size ≤ ((1 : Int32)).toNatClampNeg) := inb_of S8 ⟨by decide,by decide⟩
    have hat8 : cl8.slots[((1 : Int32)).toNatClampNeg]? = some (.int ax1) := Has.at Hs8 hin8 rfl
    refine gv s₁ 18 #[sR ya,sR yb,sI 1] [(.int ax1)] (fun t k => X0.baloadBytes hx (j := (1 : Int32)) (v := (.int ax1)) (by rw [e0]; exact Ar8.1) (State.isArrayOf_alike hZ.alike Ar8.2.1) Ar8.2.2 hin8 hat8 (g := (mkF m 17 #[sR ya,sR yb,sI 1] [(.int 1),(.ref ya)])) rfl rfl (hb hby d17_17) _ k) ?_
    refine gv s₁ 19 #[sR ya,sR yb,sI 1] [(.ref yb),(.int ax1)] (fun t k => XS.aloadN X0.here hx rfl (hb hby d17_18) rfl rfl k) ?_
    refine gv s₁ 20 #[sR ya,sR yb,sI 1] [(.int 1),(.ref yb),(.int ax1)] (fun t k => XS.iloadN X0.here hx rfl (hb hby d17_19) rfl k) ?_
    obtain ⟨cl9,Ar9,q9,S9,M9,Hs9,G9⟩ := id f1_yb
    have hin9 : ¬ ((1 : Int32) < 0 ∨ cl9.slots.size ≤ ((1 : Int32)).toNatClampNeg) := inb_of S9 ⟨by decide,by decide⟩
    have hat9 : cl9.slots[((1 : Int32)).toNatClampNeg]? = some (.int bx1) := Has.at Hs9 hin9 rfl
    refine gv s₁ 21 #[sR ya,sR yb,sI 1] [(.int bx1),(.int ax1)] (fun t k => X0.baloadBytes hx (j := (1 : Int32)) (v := (.int bx1)) (by rw [e0]; exact Ar9.1) (State.isArrayOf_alike hZ.alike Ar9.2.1) Ar9.2.2 hin9 hat9 (g := (mkF m 20 #[sR ya,sR yb,sI 1] [(.int 1),(.ref yb),(.int ax1)])) rfl rfl (hb hby d17_20) _ k) ?_
    by_cases hc10 : (ax1 = bx1)
    · refine gv s₁ 26 #[sR ya,sR yb,sI 1] [] (fun t k => XS.icmpYes X0.here hx rfl (pc0 := 21) (pc' := 26) rfl (hb hby d17_21) rfl (teq hc10).1 (by decide) (by decide) k) ?_
      refine gv s₁ 29 #[sR ya,sR yb,sI 2] [] (fun t k => XS.iinc X0.here hx rfl (hb hby d17_26) rfl (l' := #[sR ya,sR yb,sI 2]) rfl k) ?_
      refine gv s₁ 9 #[sR ya,sR yb,sI 2] [] (fun t k => XS.goto X0.here hx rfl (pc0 := 29) (pc' := 9) rfl (hb hby d17_29) (by decide) (by decide) k) ?_
      refine gv s₁ 10 #[sR ya,sR yb,sI 2] [(.int 2)] (fun t k => XS.iloadN X0.here hx rfl (hb hby d17_9) rfl k) ?_
      refine gv s₁ 11 #[sR ya,sR yb,sI 2] [(.ref ya),(.int 2)] (fun t k => XS.aloadN X0.here hx rfl (hb hby d17_10) rfl rfl k) ?_
      obtain ⟨cl11,Ar11,q11,S11,M11,Hs11,G11⟩ := id f0_ya
      refine gv s₁ 12 #[sR ya,sR yb,sI 2] [(.int 5),(.int 2)] (fun t k => X0.arraylength hx (by rw [e0]; exact Ar11.1) (State.isArrayOf_alike hZ.alike Ar11.2.1) (g := (mkF m 11 #[sR ya,sR yb,sI 2] [(.ref ya),(.int 2)])) rfl rfl (hb hby d17_11) _ (by rw [len_of S11 M11]; exact k)) ?_
      refine gv s₁ 15 #[sR ya,sR yb,sI 2] [] (fun t k => XS.icmpNo X0.here hx rfl (hb hby d17_12) rfl (tlt (by decide : ((2 : Int32) < (5 : Int32)))).2.1 k) ?_
      refine gv s₁ 16 #[sR ya,sR yb,sI 2] [(.ref ya)] (fun t k => XS.aloadN X0.here hx rfl (hb hby d17_15) rfl rfl k) ?_
      refine gv s₁ 17 #[sR ya,sR yb,sI 2] [(.int 2),(.ref ya)] (fun t k => XS.iloadN X0.here hx rfl (hb hby d17_16) rfl k) ?_
      obtain ⟨cl12,Ar12,q12,S12,M12,Hs12,G12⟩ := id f0_ya
      have hin12 : ¬ ((2 : Int32) < 0 ∨ cl12.slots.size ≤ ((2 : Int32)).toNatClampNeg) := inb_of S12 ⟨by decide,by decide⟩
      have hat12 : cl12.slots[((2 : Int32)).toNatClampNeg]? = some (.int ax2) := Has.at Hs12 hin12 rfl
      refine gv s₁ 18 #[sR ya,sR yb,sI 2] [(.int ax2)] (fun t k => X0.baloadBytes hx (j := (2 : Int32)) (v := (.int ax2)) (by rw [e0]; exact Ar12.1) (State.isArrayOf_alike hZ.alike Ar12.2.1) Ar12.2.2 hin12 hat12 (g := (mkF m 17 #[sR ya,sR yb,sI 2] [(.int 2),(.ref ya)])) rfl rfl (hb hby d17_17) _ k) ?_
      refine gv s₁ 19 #[sR ya,sR yb,sI 2] [(.ref yb),(.int ax2)] (fun t k => XS.aloadN X0.here hx rfl (hb hby d17_18) rfl rfl k) ?_
      refine gv s₁ 20 #[sR ya,sR yb,sI 2] [(.int 2),(.ref yb),(.int ax2)] (fun t k => XS.iloadN X0.here hx rfl (hb hby d17_19) rfl k) ?_
      obtain ⟨cl13,Ar13,q13,S13,M13,Hs13,G13⟩ := id f1_yb
      have hin13 : ¬ ((2 : Int32) < 0 ∨ cl13.slots.size ≤ ((2 : Int32)).toNatClampNeg) := inb_of S13 ⟨by decide,by decide⟩
      have hat13 : cl13.slots[((2 : Int32)).toNatClampNeg]? = some (.int bx2) := Has.at Hs13 hin13 rfl
      refine gv s₁ 21 #[sR ya,sR yb,sI 2] [(.int bx2),(.int ax2)] (fun t k => X0.baloadBytes hx (j := (2 : Int32)) (v := (.int bx2)) (by rw [e0]; exact Ar13.1) (State.isArrayOf_alike hZ.alike Ar13.2.1) Ar13.2.2 hin13 hat13 (g := (mkF m 20 #[sR ya,sR yb,sI 2] [(.int 2),(.ref yb),(.int ax2)])) rfl rfl (hb hby d17_20) _ k) ?_
      by_cases hc14 : (ax2 = bx2)
      · refine gv s₁ 26 #[sR ya,sR yb,sI 2] [] (fun t k => XS.icmpYes X0.here hx rfl (pc0 := 21) (pc' := 26) rfl (hb hby d17_21) rfl (teq hc14).1 (by decide) (by decide) k) ?_
        refine gv s₁ 29 #[sR ya,sR yb,sI 3] [] (fun t k => XS.iinc X0.here hx rfl (hb hby d17_26) rfl (l' := #[sR ya,sR yb,sI 3]) rfl k) ?_
        refine gv s₁ 9 #[sR ya,sR yb,sI 3] [] (fun t k => XS.goto X0.here hx rfl (pc0 := 29) (pc' := 9) rfl (hb hby d17_29) (by decide) (by decide) k) ?_
        refine gv s₁ 10 #[sR ya,sR yb,sI 3] [(.int 3)] (fun t k => XS.iloadN X0.here hx rfl (hb hby d17_9) rfl k) ?_
        refine gv s₁ 11 #[sR ya,sR yb,sI 3] [(.ref ya),(.int 3)] (fun t k => XS.aloadN X0.here hx rfl (hb hby d17_10) rfl rfl k) ?_
        obtain ⟨cl15,Ar15,q15,S15,M15,Hs15,G15⟩ := id f0_ya
        refine gv s₁ 12 #[sR ya,sR yb,sI 3] [(.int 5),(.int 3)] (fun t k => X0.arraylength hx (by rw [e0]; exact Ar15.1) (State.isArrayOf_alike hZ.alike Ar15.2.1) (g := (mkF m 11 #[sR ya,sR yb,sI 3] [(.ref ya),(.int 3)])) rfl rfl (hb hby d17_11) _ (by rw [len_of S15 M15]; exact k)) ?_
        refine gv s₁ 15 #[sR ya,sR yb,sI 3] [] (fun t k => XS.icmpNo X0.here hx rfl (hb hby d17_12) rfl (tlt (by decide : ((3 : Int32) < (5 : Int32)))).2.1 k) ?_
        refine gv s₁ 16 #[sR ya,sR yb,sI 3] [(.ref ya)] (fun t k => XS.aloadN X0.here hx rfl (hb hby d17_15) rfl rfl k) ?_
        refine gv s₁ 17 #[sR ya,sR yb,sI 3] [(.int 3),(.ref ya)] (fun t k => XS.iloadN X0.here hx rfl (hb hby d17_16) rfl k) ?_
        obtain ⟨cl16,Ar16,q16,S16,M16,Hs16,G16⟩ := id f0_ya
        have hin16 : ¬ ((3 : Int32) < 0 ∨ cl16.slots.size ≤ ((3 : Int32)).toNatClampNeg) := inb_of S16 ⟨by decide,by decide⟩
        have hat16 : cl16.slots[((3 : Int32)).toNatClampNeg]? = some (.int ax3) := Has.at Hs16 hin16 rfl
        refine gv s₁ 18 #[sR ya,sR yb,sI 3] [(.int ax3)] (fun t k => X0.baloadBytes hx (j := (3 : Int32)) (v := (.int ax3)) (by rw [e0]; exact Ar16.1) (State.isArrayOf_alike hZ.alike Ar16.2.1) Ar16.2.2 hin16 hat16 (g := (mkF m 17 #[sR ya,sR yb,sI 3] [(.int 3),(.ref ya)])) rfl rfl (hb hby d17_17) _ k) ?_
        refine gv s₁ 19 #[sR ya,sR yb,sI 3] [(.ref yb),(.int ax3)] (fun t k => XS.aloadN X0.here hx rfl (hb hby d17_18) rfl rfl k) ?_
        refine gv s₁ 20 #[sR ya,sR yb,sI 3] [(.int 3),(.ref yb),(.int ax3)] (fun t k => XS.iloadN X0.here hx rfl (hb hby d17_19) rfl k) ?_
        obtain ⟨cl17,Ar17,q17,S17,M17,Hs17,G17⟩ := id f1_yb
        have hin17 : ¬ ((3 : Int32) < 0 ∨ cl17.slots.size ≤ ((3 : Int32)).toNatClampNeg) := inb_of S17 ⟨by decide,by decide⟩
        have hat17 : cl17.slots[((3 : Int32)).toNatClampNeg]? = some (.int bx3) := Has.at Hs17 hin17 rfl
        refine gv s₁ 21 #[sR ya,sR yb,sI 3] [(.int bx3),(.int ax3)] (fun t k => X0.baloadBytes hx (j := (3 : Int32)) (v := (.int bx3)) (by rw [e0]; exact Ar17.1) (State.isArrayOf_alike hZ.alike Ar17.2.1) Ar17.2.2 hin17 hat17 (g := (mkF m 20 #[sR ya,sR yb,sI 3] [(.int 3),(.ref yb),(.int ax3)])) rfl rfl (hb hby d17_20) _ k) ?_
        by_cases hc18 : (ax3 = bx3)
        · refine gv s₁ 26 #[sR ya,sR yb,sI 3] [] (fun t k => XS.icmpYes X0.here hx rfl (pc0 := 21) (pc' := 26) rfl (hb hby d17_21) rfl (teq hc18).1 (by decide) (by decide) k) ?_
          refine gv s₁ 29 #[sR ya,sR yb,sI 4] [] (fun t k => XS.iinc X0.here hx rfl (hb hby d17_26) rfl (l' := #[sR ya,sR yb,sI 4]) rfl k) ?_
          refine gv s₁ 9 #[sR ya,sR yb,sI 4] [] (fun t k => XS.goto X0.here hx rfl (pc0 := 29) (pc' := 9) rfl (hb hby d17_29) (by decide) (by decide) k) ?_
          refine gv s₁ 10 #[sR ya,sR yb,sI 4] [(.int 4)] (fun t k => XS.iloadN X0.here hx rfl (hb hby d17_9) rfl k) ?_
          refine gv s₁ 11 #[sR ya,sR yb,sI 4] [(.ref ya),(.int 4)] (fun t k => XS.aloadN X0.here hx rfl (hb hby d17_10) rfl rfl k) ?_
          obtain ⟨cl19,Ar19,q19,S19,M19,Hs19,G19⟩ := id f0_ya
          refine gv s₁ 12 #[sR ya,sR yb,sI 4] [(.int 5),(.int 4)] (fun t k => X0.arraylength hx (by rw [e0]; exact Ar19.1) (State.isArrayOf_alike hZ.alike Ar19.2.1) (g := (mkF m 11 #[sR ya,sR yb,sI 4] [(.ref ya),(.int 4)])) rfl rfl (hb hby d17_11) _ (by rw [len_of S19 M19]; exact k)) ?_
          refine gv s₁ 15 #[sR ya,sR yb,sI 4] [] (fun t k => XS.icmpNo X0.here hx rfl (hb hby d17_12) rfl (tlt (by decide : ((4 : Int32) < (5 : Int32)))).2.1 k) ?_
          refine gv s₁ 16 #[sR ya,sR yb,sI 4] [(.ref ya)] (fun t k => XS.aloadN X0.here hx rfl (hb hby d17_15) rfl rfl k) ?_
          refine gv s₁ 17 #[sR ya,sR yb,sI 4] [(.int 4),(.ref ya)] (fun t k => XS.iloadN X0.here hx rfl (hb hby d17_16) rfl k) ?_
          obtain ⟨cl20,Ar20,q20,S20,M20,Hs20,G20⟩ := id f0_ya
          have hin20 : ¬ ((4 : Int32) < 0 ∨ cl20.slots.size ≤ ((4 : Int32)).toNatClampNeg) := inb_of S20 ⟨by decide,by decide⟩
          have hat20 : cl20.slots[((4 : Int32)).toNatClampNeg]? = some (.int ax4) := Has.at Hs20 hin20 rfl
          refine gv s₁ 18 #[sR ya,sR yb,sI 4] [(.int ax4)] (fun t k => X0.baloadBytes hx (j := (4 : Int32)) (v := (.int ax4)) (by rw [e0]; exact Ar20.1) (State.isArrayOf_alike hZ.alike Ar20.2.1) Ar20.2.2 hin20 hat20 (g := (mkF m 17 #[sR ya,sR yb,sI 4] [(.int 4),(.ref ya)])) rfl rfl (hb hby d17_17) _ k) ?_
          refine gv s₁ 19 #[sR ya,sR yb,sI 4] [(.ref yb),(.int ax4)] (fun t k => XS.aloadN X0.here hx rfl (hb hby d17_18) rfl rfl k) ?_
          refine gv s₁ 20 #[sR ya,sR yb,sI 4] [(.int 4),(.ref yb),(.int ax4)] (fun t k => XS.iloadN X0.here hx rfl (hb hby d17_19) rfl k) ?_
          obtain ⟨cl21,Ar21,q21,S21,M21,Hs21,G21⟩ := id f1_yb
          have hin21 : ¬ ((4 : Int32) < 0 ∨ cl21.slots.size ≤ ((4 : Int32)).toNatClampNeg) := inb_of S21 ⟨by decide,by decide⟩
          have hat21 : cl21.slots[((4 : Int32)).toNatClampNeg]? = some (.int bx4) := Has.at Hs21 hin21 rfl
          refine gv s₁ 21 #[sR ya,sR yb,sI 4] [(.int bx4),(.int ax4)] (fun t k => X0.baloadBytes hx (j := (4 : Int32)) (v := (.int bx4)) (by rw [e0]; exact Ar21.1) (State.isArrayOf_alike hZ.alike Ar21.2.1) Ar21.2.2 hin21 hat21 (g := (mkF m 20 #[sR ya,sR yb,sI 4] [(.int 4),(.ref yb),(.int ax4)])) rfl rfl (hb hby d17_20) _ k) ?_
          by_cases hc22 : (ax4 = bx4)
          · refine gv s₁ 26 #[sR ya,sR yb,sI 4] [] (fun t k => XS.icmpYes X0.here hx rfl (pc0 := 21) (pc' := 26) rfl (hb hby d17_21) rfl (teq hc22).1 (by decide) (by decide) k) ?_
            refine gv s₁ 29 #[sR ya,sR yb,sI 5] [] (fun t k => XS.iinc X0.here hx rfl (hb hby d17_26) rfl (l' := #[sR ya,sR yb,sI 5]) rfl k) ?_
            refine gv s₁ 9 #[sR ya,sR yb,sI 5] [] (fun t k => XS.goto X0.here hx rfl (pc0 := 29) (pc' := 9) rfl (hb hby d17_29) (by decide) (by decide) k) ?_
            refine gv s₁ 10 #[sR ya,sR yb,sI 5] [(.int 5)] (fun t k => XS.iloadN X0.here hx rfl (hb hby d17_9) rfl k) ?_
            refine gv s₁ 11 #[sR ya,sR yb,sI 5] [(.ref ya),(.int 5)] (fun t k => XS.aloadN X0.here hx rfl (hb hby d17_10) rfl rfl k) ?_
            obtain ⟨cl23,Ar23,q23,S23,M23,Hs23,G23⟩ := id f0_ya
            refine gv s₁ 12 #[sR ya,sR yb,sI 5] [(.int 5),(.int 5)] (fun t k => X0.arraylength hx (by rw [e0]; exact Ar23.1) (State.isArrayOf_alike hZ.alike Ar23.2.1) (g := (mkF m 11 #[sR ya,sR yb,sI 5] [(.ref ya),(.int 5)])) rfl rfl (hb hby d17_11) _ (by rw [len_of S23 M23]; exact k)) ?_
            refine gv s₁ 32 #[sR ya,sR yb,sI 5] [] (fun t k => XS.icmpYes X0.here hx rfl (pc0 := 12) (pc' := 32) rfl (hb hby d17_12) rfl (flt (by decide : ¬ ((5 : Int32) < (5 : Int32)))).2.1 (by decide) (by decide) k) ?_
            refine gv s₁ 33 #[sR ya,sR yb,sI 5] [(.int 1)] (fun t k => XS.iconst X0.here hx rfl (hb hby d17_32) k) ?_
            exact own_ret X0 hx Bd.notSynchronized Bd.returns rfl (Or.inl ⟨rfl,by simp,_,rfl⟩) (hb hby d17_33) e0 ⟨(1 : Int32),rfl,(if_pos ⟨hc6,⟨hc10,⟨hc14,⟨hc18,hc22⟩⟩⟩⟩).symm,N0,rfl⟩ (by decide) (by decide)
          · refine gv s₁ 24 #[sR ya,sR yb,sI 4] [] (fun t k => XS.icmpNo X0.here hx rfl (hb hby d17_21) rfl (feq hc22).1 k) ?_
            refine gv s₁ 25 #[sR ya,sR yb,sI 4] [(.int 0)] (fun t k => XS.iconst X0.here hx rfl (hb hby d17_24) k) ?_
            exact own_ret X0 hx Bd.notSynchronized Bd.returns rfl (Or.inl ⟨rfl,by simp,_,rfl⟩) (hb hby d17_25) e0 ⟨(0 : Int32),rfl,(if_neg (fun q => (fun q => (fun q => (fun q => hc22 q.2) q.2) q.2) q.2)).symm,N0,rfl⟩ (by decide) (by decide)
        · refine gv s₁ 24 #[sR ya,sR yb,sI 3] [] (fun t k => XS.icmpNo X0.here hx rfl (hb hby d17_21) rfl (feq hc18).1 k) ?_
          refine gv s₁ 25 #[sR ya,sR yb,sI 3] [(.int 0)] (fun t k => XS.iconst X0.here hx rfl (hb hby d17_24) k) ?_
          exact own_ret X0 hx Bd.notSynchronized Bd.returns rfl (Or.inl ⟨rfl,by simp,_,rfl⟩) (hb hby d17_25) e0 ⟨(0 : Int32),rfl,(if_neg (fun q => (fun q => (fun q => (fun q => hc18 q.1) q.2) q.2) q.2)).symm,N0,rfl⟩ (by decide) (by decide)
      · refine gv s₁ 24 #[sR ya,sR yb,sI 2] [] (fun t k => XS.icmpNo X0.here hx rfl (hb hby d17_21) rfl (feq hc14).1 k) ?_
        refine gv s₁ 25 #[sR ya,sR yb,sI 2] [(.int 0)] (fun t k => XS.iconst X0.here hx rfl (hb hby d17_24) k) ?_
        exact own_ret X0 hx Bd.notSynchronized Bd.returns rfl (Or.inl ⟨rfl,by simp,_,rfl⟩) (hb hby d17_25) e0 ⟨(0 : Int32),rfl,(if_neg (fun q => (fun q => (fun q => hc14 q.1) q.2) q.2)).symm,N0,rfl⟩ (by decide) (by decide)
    · refine gv s₁ 24 #[sR ya,sR yb,sI 1] [] (fun t k => XS.icmpNo X0.here hx rfl (hb hby d17_21) rfl (feq hc10).1 k) ?_
      refine gv s₁ 25 #[sR ya,sR yb,sI 1] [(.int 0)] (fun t k => XS.iconst X0.here hx rfl (hb hby d17_24) k) ?_
      exact own_ret X0 hx Bd.notSynchronized Bd.returns rfl (Or.inl ⟨rfl,by simp,_,rfl⟩) (hb hby d17_25) e0 ⟨(0 : Int32),rfl,(if_neg (fun q => (fun q => hc10 q.1) q.2)).symm,N0,rfl⟩ (by decide) (by decide)
  · refine gv s₁ 24 #[sR ya,sR yb,sI 0] [] (fun t k => XS.icmpNo X0.here hx rfl (hb hby d17_21) rfl (feq hc6).1 k) ?_
    refine gv s₁ 25 #[sR ya,sR yb,sI 0] [(.int 0)] (fun t k => XS.iconst X0.here hx rfl (hb hby d17_24) k) ?_
    exact own_ret X0 hx Bd.notSynchronized Bd.returns rfl (Or.inl ⟨rfl,by simp,_,rfl⟩) (hb hby d17_25) e0 ⟨(0 : Int32),rfl,(if_neg (fun q => hc6 q.1)).symm,N0,rfl⟩ (by decide) (by decide)
theorem ef_165 (m : MethodId) (xa : Addr) (xb : Addr) : entryFrame m #[(.ref xa), (.ref xb)] 3 = mkF m 0 #[.val (.ref xa), .val (.ref xb), .unset] [] := by first | (simp [entryFrame, mkF, argsToLocals, Value.category]; done) | rfl
def Q165 (Z : State) (xa : Addr) (xb : Addr) (ya : Addr) (yb : Addr) (ka : ClassId) (kb : ClassId) (wc : Int32) (ax0 : Int32) (ax1 : Int32) (ax2 : Int32) (ax3 : Int32) (ax4 : Int32) (bx0 : Int32) (bx1 : Int32) (bx2 : Int32) (bx3 : Int32) (bx4 : Int32) (h0 : Heap) (n0 : Nat) (v : Option Value) (h : Heap) (L : List Loc) : Prop := ∃ r : Int32, v = some (.int r) ∧ r = (if ((ax0 = bx0) ∧ ((ax1 = bx1) ∧ ((ax2 = bx2) ∧ ((ax3 = bx3) ∧ (ax4 = bx4))))) then (1 : Int32) else 0) ∧ Fr n0 L ∧ h = h0
set_option maxRecDepth 65536 in
set_option maxHeartbeats 40000000 in
theorem rm165 (l : Launch) (Z : State) (a0 : Array Value) (hw : ∀ d ∈ tables_1, d.before a0 Z = true) (ws : List Jvm.Cond) (xa : Addr) (xb : Addr) (ya : Addr) (yb : Addr) (ka : ClassId) (kb : ClassId) (wc : Int32) (ax0 : Int32) (ax1 : Int32) (ax2 : Int32) (ax3 : Int32) (ax4 : Int32) (bx0 : Int32) (bx1 : Int32) (bx2 : Int32) (bx3 : Int32) (bx4 : Int32) (h0 : Heap) (n0 : Nat) (Z0 : n0 ≤ h0.size) (f0_xa : Exa Z h0 xa "java/lang/String") (f1_xa_coder : Fld Z h0 xa "java/lang/String" "coder" "B" (.int (0 : Int32))) (f2_xa_value : Fld Z h0 xa "java/lang/String" "value" "[B" (.ref ya)) (f3_ya : Arv Z h0 ya ka .byte (5 : Int32) [(.int ax0), (.int ax1), (.int ax2), (.int ax3), (.int ax4)] (.int (0 : Int32))) (f4_xb : Exa Z h0 xb "java/lang/String") (f5_xb_coder : Fld Z h0 xb "java/lang/String" "coder" "B" (.int (0 : Int32))) (f6_xb_value : Fld Z h0 xb "java/lang/String" "value" "[B" (.ref yb)) (f7_yb : Arv Z h0 yb kb .byte (5 : Int32) [(.int bx0), (.int bx1), (.int bx2), (.int bx3), (.int bx4)] (.int (0 : Int32))) (f8_COMPACT_STRINGS : Sta Z h0 "java/lang/String" "COMPACT_STRINGS" "Z" (.int wc)) (ne_xa_xb : xa ≠ xb) (hwc : ¬ wc = (0 : Int32)) :
    MetFree l (⟨"java/lang/String", "equals", "(Ljava/lang/Object;)Z"⟩ : MethodName) (head1 (Jvm.Cond.code (⟨"java/lang/String", "equals", "(Ljava/lang/Object;)Z"⟩ : MethodName) jdk_42_method_66_code 3 (some .boolean) :: ws) ({ frames := 1, cells := 0, slots := 0, locals := 14 } : Room)) (fun a U => a = #[(.ref xa), (.ref xb)] ∧ Z.Warmed39 U.vm ∧ U.heap = h0) (fun _ _ _ _ _ => True) (fun _ U o U' => ∃ v L, o = .returned v ∧ Q165 Z xa xb ya yb ka kb wc ax0 ax1 ax2 ax3 ax4 bx0 bx1 bx2 bx3 bx4 h0 n0 v U'.heap L ∧ FrameEnd U o U' L 0 0) := by
  refine MetFree.of_bodySF (plainFor_of_name pn_6) hisR ?_
  intro p e s m args below meth c s₁ Bd hml0 hP hK
  obtain ⟨rfl,hZ,hh⟩ := hP
  have hx := Bd.exec
  have hby := Bd.bytes
  have hml : c.maxLocals = 3 := hml0
  have hown : s.vm.findClass "java/lang/String" = some m.cls := findClass_of_methodNamed Bd.named
  have hnm := (name_of_methodNamed Bd.named Bd.method).1
  have X0 : Stand p l e ({ frames := 1,cells := 0,slots := 0,locals := 14 } : Room) s m #[(.ref xa),(.ref xb)] below meth c s₁ [] 0 0 := Stand.of_body Bd
  have e0 : s₁.heap = h0 := by rw [← hh,Bd.state]; rfl
  have N0 := Fr.nil n0
  refine own_start (Q := fun v h L => Q165 Z xa xb ya yb ka kb wc ax0 ax1 ax2 ax3 ax4 bx0 bx1 bx2 bx3 bx4 h0 n0 v h L) ?_
  refine gv s₁ 0 #[sR xa,sR xb,sU] [] (fun t k => castTop (ef_165 m xa xb) k) ?_
  refine gv s₁ 1 #[sR xa,sR xb,sU] [(.ref xa)] (fun t k => XS.aloadN X0.here hx rfl (hb hby d16_0) rfl rfl k) ?_
  refine gv s₁ 2 #[sR xa,sR xb,sU] [(.ref xb),(.ref xa)] (fun t k => XS.aloadN X0.here hx rfl (hb hby d16_1) rfl rfl k) ?_
  refine gv s₁ 7 #[sR xa,sR xb,sU] [] (fun t k => Jvm.RoadKit.acmp (g := (mkF m 2 #[sR xa,sR xb,sU] [(.ref xb),(.ref xa)])) X0 hx rfl rfl rfl (pc0 := 2) (pc' := 7) (same := false) rfl (hb hby d16_2) rfl (decide_eq_false fun q => ne_xa_xb (Value.ref.inj q)) (by decide) (by decide) k) ?_
  refine gv s₁ 8 #[sR xa,sR xb,sU] [(.ref xb)] (fun t k => XS.aloadN X0.here hx rfl (hb hby d16_7) rfl rfl k) ?_
  obtain ⟨T1,X1,e1,st1⟩ := instY X0 hx hZ hown (w_ hw 77 rfl) e0 (Ins.self f4_xb) (g := (mkF m 8 #[sR xa,sR xb,sU] [(.ref xb)])) rfl rfl (hb hby d16_8)
  refine gv T1 11 #[sR xa,sR xb,sU] [(.int 1)] (fun t k => st1 _ k) ?_
  refine gv T1 14 #[sR xa,sR xb,sU] [] (fun t k => XS.ifNo X1.here hx rfl (hb hby d16_11) rfl ((if0 _ _).trans (feq (by decide : ¬ ((1 : Int32) = (0 : Int32)))).1) k) ?_
  refine gv T1 15 #[sR xa,sR xb,sU] [(.ref xb)] (fun t k => XS.aloadN X1.here hx rfl (hb hby d16_14) rfl rfl k) ?_
  obtain ⟨T2,X2,e2,st2⟩ := castY X1 hx hZ hown (w_ hw 77 rfl) e1 (Ins.self f4_xb) (g := (mkF m 15 #[sR xa,sR xb,sU] [(.ref xb)])) rfl rfl (hb hby d16_15)
  refine gv T2 18 #[sR xa,sR xb,sU] [(.ref xb)] (fun t k => st2 _ k) ?_
  refine gv T2 19 #[sR xa,sR xb,sR xb] [] (fun t k => XS.astoreN X2.here hx rfl (hb hby d16_18) rfl rfl (l' := #[sR xa,sR xb,sR xb]) rfl k) ?_
  obtain ⟨T3,X3,e3,st3⟩ := getS2 X2 hx hZ hown (host := "") (Or.inl (w_ hw 26 rfl)) Via.refl e2 f8_COMPACT_STRINGS (g := (mkF m 19 #[sR xa,sR xb,sR xb] [])) rfl (hb hby d16_19)
  refine gv T3 22 #[sR xa,sR xb,sR xb] [(.int wc)] (fun t k => st3 _ k) ?_
  refine gv T3 25 #[sR xa,sR xb,sR xb] [] (fun t k => XS.ifNo X3.here hx rfl (hb hby d16_22) rfl ((if0 _ _).trans (feq hwc).1) k) ?_
  refine gv T3 26 #[sR xa,sR xb,sR xb] [(.ref xa)] (fun t k => XS.aloadN X3.here hx rfl (hb hby d16_25) rfl rfl k) ?_
  obtain ⟨T4,X4,e4,st4⟩ := getF X3 hx hZ hown (host := "") (Or.inl (w_ hw 27 rfl)) Via.refl e3 f1_xa_coder (g := (mkF m 26 #[sR xa,sR xb,sR xb] [(.ref xa)])) rfl rfl (hb hby d16_26)
  refine gv T4 29 #[sR xa,sR xb,sR xb] [(.int 0)] (fun t k => st4 _ k) ?_
  refine gv T4 30 #[sR xa,sR xb,sR xb] [(.ref xb),(.int 0)] (fun t k => XS.aloadN X4.here hx rfl (hb hby d16_29) rfl rfl k) ?_
  obtain ⟨T5,X5,e5,st5⟩ := getF X4 hx hZ hown (host := "") (Or.inl (w_ hw 27 rfl)) Via.refl e4 f5_xb_coder (g := (mkF m 30 #[sR xa,sR xb,sR xb] [(.ref xb),(.int 0)])) rfl rfl (hb hby d16_30)
  refine gv T5 33 #[sR xa,sR xb,sR xb] [(.int 0),(.int 0)] (fun t k => st5 _ k) ?_
  refine gv T5 36 #[sR xa,sR xb,sR xb] [] (fun t k => XS.icmpNo X5.here hx rfl (hb hby d16_33) rfl (teq rfl).2 k) ?_
  refine gv T5 37 #[sR xa,sR xb,sR xb] [(.ref xa)] (fun t k => XS.aloadN X5.here hx rfl (hb hby d16_36) rfl rfl k) ?_
  obtain ⟨T6,X6,e6,st6⟩ := getF X5 hx hZ hown (host := "") (Or.inl (w_ hw 20 rfl)) Via.refl e5 f2_xa_value (g := (mkF m 37 #[sR xa,sR xb,sR xb] [(.ref xa)])) rfl rfl (hb hby d16_37)
  refine gv T6 40 #[sR xa,sR xb,sR xb] [(.ref ya)] (fun t k => st6 _ k) ?_
  refine gv T6 41 #[sR xa,sR xb,sR xb] [(.ref xb),(.ref ya)] (fun t k => XS.aloadN X6.here hx rfl (hb hby d16_40) rfl rfl k) ?_
  obtain ⟨T7,X7,e7,st7⟩ := getF X6 hx hZ hown (host := "") (Or.inl (w_ hw 20 rfl)) Via.refl e6 f6_xb_value (g := (mkF m 41 #[sR xa,sR xb,sR xb] [(.ref xb),(.ref ya)])) rfl rfl (hb hby d16_41)
  refine gv T7 44 #[sR xa,sR xb,sR xb] [(.ref yb),(.ref ya)] (fun t k => st7 _ k) ?_
  obtain ⟨_,_,⟨T8,L8,k8,n8⟩,-,X8,⟨Lc8,hQ8,l8,y8,z8⟩,st8⟩ := Jvm.LawKit.callS X7 hx (y := (⟨"java/lang/StringLatin1","equals","([B[B)Z"⟩ : MethodName)) hown (mvT hZ (w_ hw 78 rfl)) (mvT hZ (w_ hw 79 rfl)) (mvT hZ (w_ hw 40 rfl)) (mvT hZ (w_ hw 80 rfl)) (by decide) (backOf (W := 0) (rm175 l Z a0 hw [] ya yb ka kb ax0 ax1 ax2 ax3 ax4 bx0 bx1 bx2 bx3 bx4 h0 n0 Z0 f3_ya f7_yb) hZ (w_ hw 80 rfl) (w_ hw 40 rfl) (by decide) (by decide)) (g := (mkF m 44 #[sR xa,sR xb,sR xb] [(.ref yb),(.ref ya)])) rfl (by rw [hml]; rfl) (argsL := [(.ref ya),(.ref yb)]) (rest := []) (lenOf pd_12 rfl) rfl (own_rm rfl) (hb hby d16_44) (fun _ _ => ⟨rfl,e7,(by decide : 0 + 0 ≤ _),(by decide : 0 + 0 ≤ _)⟩)
  dsimp only [Pt.U, Pt.locs, Pt.cells, Pt.slots] at X8 l8 y8 z8 st8 hQ8
  replace X8 := own_cast X8 l8 y8 z8
  obtain ⟨r8,rfl,hr8,N8q,eq8⟩ := hQ8
  have N8 := Fr.app N0 N8q
  refine gv T8 47 #[sR xa,sR xb,sR xb] [(.int r8)] (fun t k => st8 _ k) ?_
  obtain ⟨v10,hv10⟩ : ∃ z : Int32,z = (if ((ax0 = bx0) ∧ ((ax1 = bx1) ∧ ((ax2 = bx2) ∧ ((ax3 = bx3) ∧ (ax4 = bx4))))) then (1 : Int32) else 0) := ⟨_,rfl⟩
  refine Goes.via (S' := (T8.setTop (mkF m 55 #[sR xa,sR xb,sR xb] [(.int v10)]))) (fun t k => ?_) ?_
  · by_cases hc9 : ((ax0 = bx0) ∧ ((ax1 = bx1) ∧ ((ax2 = bx2) ∧ ((ax3 = bx3) ∧ (ax4 = bx4)))))
    · refine XS.ifNo X8.here hx rfl (hb hby d16_47) rfl ((if0 _ _).trans (feq (own_b1 hr8 hc9)).1) ?_
      show Steps p.tables e below (T8.setTop (mkF m 50 #[sR xa,sR xb,sR xb] [])) _
      refine XS.iconst X8.here hx rfl (hb hby d16_50) ?_
      show Steps p.tables e below (T8.setTop (mkF m 51 #[sR xa,sR xb,sR xb] [(.int 1)])) _
      refine XS.goto X8.here hx rfl (pc0 := 51) (pc' := 55) rfl (hb hby d16_51) (by decide) (by decide) ?_
      show Steps p.tables e below (T8.setTop (mkF m 55 #[sR xa,sR xb,sR xb] [(.int 1)])) _
      have q_v10 : v10 = (1 : Int32) := hv10.trans (if_pos hc9)
      rw [q_v10] at k
      exact k
    · refine XS.ifYes X8.here hx rfl (pc0 := 47) (pc' := 54) rfl (hb hby d16_47) rfl ((if0 _ _).trans (teq (own_b0 hr8 hc9)).1) (by decide) (by decide) ?_
      show Steps p.tables e below (T8.setTop (mkF m 54 #[sR xa,sR xb,sR xb] [])) _
      refine XS.iconst X8.here hx rfl (hb hby d16_54) ?_
      show Steps p.tables e below (T8.setTop (mkF m 55 #[sR xa,sR xb,sR xb] [(.int 0)])) _
      have q_v10 : v10 = (0 : Int32) := hv10.trans (if_neg hc9)
      rw [q_v10] at k
      exact k
  exact own_ret X8 hx Bd.notSynchronized Bd.returns (own_nb hv10) (Or.inl ⟨rfl,by simp,_,rfl⟩) (hb hby d16_55) eq8 ⟨v10,rfl,hv10,N8,rfl⟩ (by decide) (by decide)
theorem d19_0 : decode prog_14_method_1_code 0 = .ok (.getstatic 10, 3) := by decide +kernel
theorem d19_3 : decode prog_14_method_1_code 3 = .ok (.invokevirtual 14, 3) := by decide +kernel
theorem d19_6 : decode prog_14_method_1_code 6 = .ok (.checkcast 15, 3) := by decide +kernel
theorem d19_9 : decode prog_14_method_1_code 9 = .ok (.areturn, 1) := by decide +kernel
theorem ef_19 (m : MethodId)  : entryFrame m #[] 0 = mkF m 0 #[] [] := by first | (simp [entryFrame, mkF, argsToLocals, Value.category]; done) | rfl
def Q19 (Z : State) (yV : Addr) (kV : ClassId) (dd : Addr) (mm : Addr) (h0 : Heap) (n0 : Nat) (v : Option Value) (h : Heap) (L : List Loc) : Prop := ∃ (yc : Addr), v = some (.ref yc) ∧ Fr n0 L ∧ Keep h0 h [] ∧ Arv Z h yc kV (.object "com/example/tallyman/tallyman/ledger/Period") (2 : Int32) [(.ref dd), (.ref mm)] .null ∧ n0 ≤ yc ∧ h0.size ≤ yc
set_option maxRecDepth 65536 in
set_option maxHeartbeats 40000000 in
theorem rm19 (l : Launch) (Z : State) (a0 : Array Value) (hw : ∀ d ∈ tables_1, d.before a0 Z = true) (ws : List Jvm.Cond) (yV : Addr) (kV : ClassId) (dd : Addr) (mm : Addr) (h0 : Heap) (n0 : Nat) (Z0 : n0 ≤ h0.size) (f0__VALUES : Sta Z h0 "com/example/tallyman/tallyman/ledger/Period" "$VALUES" "[Lcom/example/tallyman/tallyman/ledger/Period;" (.ref yV)) (f1_yV : Arv Z h0 yV kV (.object "com/example/tallyman/tallyman/ledger/Period") (2 : Int32) [(.ref dd), (.ref mm)] .null) (f2_yV : Exa Z h0 yV "[Lcom/example/tallyman/tallyman/ledger/Period;") :
    MetFree l (⟨"com/example/tallyman/tallyman/ledger/Period", "values", "()[Lcom/example/tallyman/tallyman/ledger/Period;"⟩ : MethodName) (head1 (Jvm.Cond.code (⟨"com/example/tallyman/tallyman/ledger/Period", "values", "()[Lcom/example/tallyman/tallyman/ledger/Period;"⟩ : MethodName) prog_14_method_1_code 0 (some (.array (.object "com/example/tallyman/tallyman/ledger/Period"))) :: ws) ({ frames := 1, cells := 1, slots := 2, locals := 14 } : Room)) (fun a U => a = #[] ∧ Z.Warmed39 U.vm ∧ U.heap = h0) (fun _ _ _ _ _ => True) (fun _ U o U' => ∃ v L, o = .returned v ∧ Q19 Z yV kV dd mm h0 n0 v U'.heap L ∧ FrameEnd U o U' L 1 2) := by
  refine MetFree.of_bodySF (plainFor_of_name pn_237) hisR ?_
  intro p e s m args below meth c s₁ Bd hml0 hP hK
  obtain ⟨rfl,hZ,hh⟩ := hP
  have hx := Bd.exec
  have hby := Bd.bytes
  have hml : c.maxLocals = 0 := hml0
  have hown : s.vm.findClass "com/example/tallyman/tallyman/ledger/Period" = some m.cls := findClass_of_methodNamed Bd.named
  have hnm := (name_of_methodNamed Bd.named Bd.method).1
  have X0 : Stand p l e ({ frames := 1,cells := 1,slots := 2,locals := 14 } : Room) s m #[] below meth c s₁ [] 0 0 := Stand.of_body Bd
  have e0 : s₁.heap = h0 := by rw [← hh,Bd.state]; rfl
  have N0 := Fr.nil n0
  refine own_start (Q := fun v h L => Q19 Z yV kV dd mm h0 n0 v h L) ?_
  refine gv s₁ 0 #[] [] (fun t k => castTop (ef_19 m ) k) ?_
  obtain ⟨T1,X1,e1,st1⟩ := getS2 X0 hx hZ hown (host := "") (Or.inl (w_ hw 90 rfl)) Via.refl e0 f0__VALUES (g := (mkF m 0 #[] [])) rfl (hb hby d19_0)
  refine gv T1 3 #[] [(.ref yV)] (fun t k => st1 _ k) ?_
  obtain ⟨T2,h2,X2,e2,E2,A2,B2,st2⟩ := own_clone X1 hx hZ hown (w_ hw 92 rfl) (w_ hw 93 rfl) (w_ hw 97 rfl) (w_ hw 95 rfl) (w_ hw 96 rfl) (w_ hw 98 rfl) e1 f1_yV f2_yV (g := (mkF m 3 #[] [(.ref yV)])) rfl (by rw [hml]; rfl) rfl (hb hby d19_3) (by decide) (W := 0) (cap := 2) (own_rm rfl) (by decide) (by decide) (by decide) (by decide)
  obtain ⟨b2,g2⟩ : ∃ z,z = h0.size := ⟨_,rfl⟩
  rw [← g2] at A2 B2 st2
  have f3 := f0__VALUES.ext E2
  have f4 := f1_yV.ext E2
  have f5 := f2_yV.ext E2
  have K2 := Keep.ext (Keep.refl h0 []) E2
  have Z2 := Nat.le_trans Z0 K2.1
  have g_b2 : n0 ≤ b2 := Nat.le_trans Z0 (Nat.le_of_eq g2.symm)
  have sz_b2 : h0.size ≤ b2 := Nat.le_trans ((Keep.refl h0 [])).1 (Nat.le_of_eq g2.symm)
  have ne_yV_b2 : yV ≠ b2 := Nat.ne_of_lt (Nat.lt_of_lt_of_le f1_yV.lt (Nat.le_of_eq g2.symm))
  have f6 : Arv Z h2 b2 kV (.object "com/example/tallyman/tallyman/ledger/Period") (2 : Int32) [(.ref dd),(.ref mm)] .null := A2
  have f7 : Exa Z h2 b2 "[Lcom/example/tallyman/tallyman/ledger/Period;" := B2
  refine gv T2 6 #[] [(.ref b2)] (fun t k => st2 _ k) ?_
  obtain ⟨T8,X8,e8,st8⟩ := castY X2 hx hZ hown (w_ hw 101 rfl) e2 (Ins.self f7) (g := (mkF m 6 #[] [(.ref b2)])) rfl rfl (hb hby d19_6)
  refine gv T8 9 #[] [(.ref b2)] (fun t k => st8 _ k) ?_
  exact own_ret X8 hx Bd.notSynchronized Bd.returns rfl (Or.inr (Or.inr (Or.inr (Or.inr ⟨rfl,rfl,rfl⟩)))) (hb hby d19_9) e8 ⟨b2,rfl,N0,K2,f6,g_b2,sz_b2⟩ (by decide) (by decide)
theorem d21_0 : decode jdk_31_method_10_code 0 = .ok (.aload_n 0, 1) := by decide +kernel
theorem d21_1 : decode jdk_31_method_10_code 1 = .ok (.ifnonnull 11, 3) := by decide +kernel
theorem d21_12 : decode jdk_31_method_10_code 12 = .ok (.aload_n 0, 1) := by decide +kernel
theorem d21_13 : decode jdk_31_method_10_code 13 = .ok (.areturn, 1) := by decide +kernel
theorem ef_21 (m : MethodId) (xa : Addr) : entryFrame m #[(.ref xa)] 1 = mkF m 0 #[.val (.ref xa)] [] := by first | (simp [entryFrame, mkF, argsToLocals, Value.category]; done) | rfl
def Q21 (Z : State) (xa : Addr) (h0 : Heap) (n0 : Nat) (v : Option Value) (h : Heap) (L : List Loc) : Prop := v = some (.ref xa) ∧ Fr n0 L ∧ h = h0
set_option maxRecDepth 65536 in
set_option maxHeartbeats 40000000 in
theorem rm21 (l : Launch) (Z : State) (a0 : Array Value) (hw : ∀ d ∈ tables_1, d.before a0 Z = true) (ws : List Jvm.Cond) (xa : Addr) (h0 : Heap) (n0 : Nat) (Z0 : n0 ≤ h0.size) :
    MetFree l (⟨"java/util/Objects", "requireNonNull", "(Ljava/lang/Object;)Ljava/lang/Object;"⟩ : MethodName) (head1 (Jvm.Cond.code (⟨"java/util/Objects", "requireNonNull", "(Ljava/lang/Object;)Ljava/lang/Object;"⟩ : MethodName) jdk_31_method_10_code 1 (some (.object "java/lang/Object")) :: ws) ({ frames := 0, cells := 0, slots := 0, locals := 0 } : Room)) (fun a U => a = #[(.ref xa)] ∧ Z.Warmed39 U.vm ∧ U.heap = h0) (fun _ _ _ _ _ => True) (fun _ U o U' => ∃ v L, o = .returned v ∧ Q21 Z xa h0 n0 v U'.heap L ∧ FrameEnd U o U' L 0 0) := by
  refine MetFree.of_bodySF (plainFor_of_name pn_242) hisR ?_
  intro p e s m args below meth c s₁ Bd hml0 hP hK
  obtain ⟨rfl,hZ,hh⟩ := hP
  have hx := Bd.exec
  have hby := Bd.bytes
  have hml : c.maxLocals = 1 := hml0
  have hown : s.vm.findClass "java/util/Objects" = some m.cls := findClass_of_methodNamed Bd.named
  have hnm := (name_of_methodNamed Bd.named Bd.method).1
  have X0 : Stand p l e ({ frames := 0,cells := 0,slots := 0,locals := 0 } : Room) s m #[(.ref xa)] below meth c s₁ [] 0 0 := Stand.of_body Bd
  have e0 : s₁.heap = h0 := by rw [← hh,Bd.state]; rfl
  have N0 := Fr.nil n0
  refine own_start (Q := fun v h L => Q21 Z xa h0 n0 v h L) ?_
  refine gv s₁ 0 #[sR xa] [] (fun t k => castTop (ef_21 m xa) k) ?_
  refine gv s₁ 1 #[sR xa] [(.ref xa)] (fun t k => XS.aloadN X0.here hx rfl (hb hby d21_0) rfl rfl k) ?_
  refine gv s₁ 12 #[sR xa] [] (fun t k => XS.ifnonnullYes X0.here hx rfl (pc0 := 1) (pc' := 12) rfl (hb hby d21_1) rfl (by decide) (by decide) k) ?_
  refine gv s₁ 13 #[sR xa] [(.ref xa)] (fun t k => XS.aloadN X0.here hx rfl (hb hby d21_12) rfl rfl k) ?_
  exact own_ret X0 hx Bd.notSynchronized Bd.returns rfl (Or.inr (Or.inr (Or.inr (Or.inr ⟨rfl,rfl,rfl⟩)))) (hb hby d21_13) e0 ⟨rfl,N0,rfl⟩ (by decide) (by decide)
theorem d22_0 : decode jdk_32_method_2_code 0 = .ok (.aload_n 0, 1) := by decide +kernel
theorem d22_1 : decode jdk_32_method_2_code 1 = .ok (.invokespecial 7, 3) := by decide +kernel
theorem d22_4 : decode jdk_32_method_2_code 4 = .ok (.aload_n 0, 1) := by decide +kernel
theorem d22_5 : decode jdk_32_method_2_code 5 = .ok (.aload_n 1, 1) := by decide +kernel
theorem d22_6 : decode jdk_32_method_2_code 6 = .ok (.putfield 13, 3) := by decide +kernel
theorem d22_9 : decode jdk_32_method_2_code 9 = .ok (.return_, 1) := by decide +kernel
theorem ef_22 (m : MethodId) (xo : Addr) (xa : Addr) : entryFrame m #[(.ref xo), (.ref xa)] 2 = mkF m 0 #[.val (.ref xo), .val (.ref xa)] [] := by first | (simp [entryFrame, mkF, argsToLocals, Value.category]; done) | rfl
def Q22 (Z : State) (xo : Addr) (xa : Addr) (u0 : Value) (h0 : Heap) (n0 : Nat) (v : Option Value) (h : Heap) (L : List Loc) : Prop := v = none ∧ Fr n0 L ∧ Keep h0 h [xo] ∧ Exa Z h xo "java/util/Optional" ∧ Fld Z h xo "java/util/Optional" "value" "Ljava/lang/Object;" (.ref xa)
set_option maxRecDepth 65536 in
set_option maxHeartbeats 40000000 in
theorem rm22 (l : Launch) (Z : State) (a0 : Array Value) (hw : ∀ d ∈ tables_1, d.before a0 Z = true) (ws : List Jvm.Cond) (xo : Addr) (xa : Addr) (u0 : Value) (h0 : Heap) (n0 : Nat) (Z0 : n0 ≤ h0.size) (f0_xo : Exa Z h0 xo "java/util/Optional") (f1_xo_value : Fld Z h0 xo "java/util/Optional" "value" "Ljava/lang/Object;" u0) (g_xo : n0 ≤ xo) :
    MetFree l (⟨"java/util/Optional", "<init>", "(Ljava/lang/Object;)V"⟩ : MethodName) (head1 (Jvm.Cond.code (⟨"java/util/Optional", "<init>", "(Ljava/lang/Object;)V"⟩ : MethodName) jdk_32_method_2_code 2 none :: ws) ({ frames := 1, cells := 0, slots := 0, locals := 12 } : Room)) (fun a U => a = #[(.ref xo), (.ref xa)] ∧ Z.Warmed39 U.vm ∧ U.heap = h0) (fun _ _ _ _ _ => True) (fun _ U o U' => ∃ v L, o = .returned v ∧ Q22 Z xo xa u0 h0 n0 v U'.heap L ∧ FrameEnd U o U' L 0 0) := by
  refine MetFree.of_bodySF (plainFor_of_name pn_249) hisR ?_
  intro p e s m args below meth c s₁ Bd hml0 hP hK
  obtain ⟨rfl,hZ,hh⟩ := hP
  have hx := Bd.exec
  have hby := Bd.bytes
  have hml : c.maxLocals = 2 := hml0
  have hown : s.vm.findClass "java/util/Optional" = some m.cls := findClass_of_methodNamed Bd.named
  have hnm := (name_of_methodNamed Bd.named Bd.method).1
  have X0 : Stand p l e ({ frames := 1,cells := 0,slots := 0,locals := 12 } : Room) s m #[(.ref xo),(.ref xa)] below meth c s₁ [] 0 0 := Stand.of_body Bd
  have e0 : s₁.heap = h0 := by rw [← hh,Bd.state]; rfl
  have N0 := Fr.nil n0
  refine own_start (Q := fun v h L => Q22 Z xo xa u0 h0 n0 v h L) ?_
  refine gv s₁ 0 #[sR xo,sR xa] [] (fun t k => castTop (ef_22 m xo xa) k) ?_
  refine gv s₁ 1 #[sR xo,sR xa] [(.ref xo)] (fun t k => XS.aloadN X0.here hx rfl (hb hby d22_0) rfl rfl k) ?_
  obtain ⟨T1,X1,e1,st1⟩ := initO X0 hx hZ hown (w_ hw 120 rfl) (w_ hw 60 rfl) (w_ hw 61 rfl) e0 (g := (mkF m 1 #[sR xo,sR xa] [(.ref xo)])) rfl (by rw [hml]; rfl) rfl (hb hby d22_1) (by decide) (W := 0) (own_rm rfl) (by decide)
  refine gv T1 4 #[sR xo,sR xa] [] (fun t k => st1 _ k) ?_
  refine gv T1 5 #[sR xo,sR xa] [(.ref xo)] (fun t k => XS.aloadN X1.here hx rfl (hb hby d22_4) rfl rfl k) ?_
  refine gv T1 6 #[sR xo,sR xa] [(.ref xa),(.ref xo)] (fun t k => XS.aloadN X1.here hx rfl (hb hby d22_5) rfl rfl k) ?_
  obtain ⟨T2,h2,X2,e2,W2,st2⟩ := putF X1 hx hZ hown (host := "") (Or.inl (w_ hw 121 rfl)) Via.refl e1 f1_xo_value f0_xo (Or.inr ⟨(w_ hw 122 rfl),rfl,hnm⟩) (w_ hw 111 rfl) (ty := (.object "java/lang/Object")) (by decide) rfl rfl (g := (mkF m 6 #[sR xo,sR xa] [(.ref xa),(.ref xo)])) rfl rfl (hb hby d22_6)
  have f3 := f0_xo.wr W2
  have f4 : Fld Z h2 xo "java/util/Optional" "value" "Ljava/lang/Object;" (.ref xa) := f1_xo_value.same W2
  have K2 := Keep.wr (Keep.refl h0 [xo]) W2 (Or.inl (List.mem_of_getElem? (i := 0) rfl))
  have Z2 := Nat.le_trans Z0 K2.1
  have N2 := Fr.snoc X2 N0 g_xo
  refine gv T2 9 #[sR xo,sR xa] [] (fun t k => st2 _ k) ?_
  exact own_retV X2 hx Bd.notSynchronized Bd.returns (hb hby d22_9) e2 ⟨rfl,N2,K2,f3,f4⟩ (by decide) (by decide)
theorem d20_0 : decode jdk_32_method_3_code 0 = .ok (.new 2, 3) := by decide +kernel
theorem d20_3 : decode jdk_32_method_3_code 3 = .ok (.dup, 1) := by decide +kernel
theorem d20_4 : decode jdk_32_method_3_code 4 = .ok (.aload_n 0, 1) := by decide +kernel
theorem d20_5 : decode jdk_32_method_3_code 5 = .ok (.invokestatic 17, 3) := by decide +kernel
theorem d20_8 : decode jdk_32_method_3_code 8 = .ok (.invokespecial 23, 3) := by decide +kernel
theorem d20_11 : decode jdk_32_method_3_code 11 = .ok (.areturn, 1) := by decide +kernel
theorem ef_20 (m : MethodId) (xa : Addr) : entryFrame m #[(.ref xa)] 1 = mkF m 0 #[.val (.ref xa)] [] := by first | (simp [entryFrame, mkF, argsToLocals, Value.category]; done) | rfl
def Q20 (Z : State) (xa : Addr) (h0 : Heap) (n0 : Nat) (v : Option Value) (h : Heap) (L : List Loc) : Prop := ∃ (yo : Addr), v = some (.ref yo) ∧ Fr n0 L ∧ Keep h0 h [] ∧ Exa Z h yo "java/util/Optional" ∧ Fld Z h yo "java/util/Optional" "value" "Ljava/lang/Object;" (.ref xa) ∧ n0 ≤ yo ∧ h0.size ≤ yo
set_option maxRecDepth 65536 in
set_option maxHeartbeats 40000000 in
theorem rm20 (l : Launch) (Z : State) (a0 : Array Value) (hw : ∀ d ∈ tables_1, d.before a0 Z = true) (ws : List Jvm.Cond) (xa : Addr) (h0 : Heap) (n0 : Nat) (Z0 : n0 ≤ h0.size) :
    MetFree l (⟨"java/util/Optional", "of", "(Ljava/lang/Object;)Ljava/util/Optional;"⟩ : MethodName) (head1 (Jvm.Cond.code (⟨"java/util/Optional", "of", "(Ljava/lang/Object;)Ljava/util/Optional;"⟩ : MethodName) jdk_32_method_3_code 1 (some (.object "java/util/Optional")) :: ws) ({ frames := 2, cells := 1, slots := 1, locals := 26 } : Room)) (fun a U => a = #[(.ref xa)] ∧ Z.Warmed39 U.vm ∧ U.heap = h0) (fun _ _ _ _ _ => True) (fun _ U o U' => ∃ v L, o = .returned v ∧ Q20 Z xa h0 n0 v U'.heap L ∧ FrameEnd U o U' L 1 1) := by
  refine MetFree.of_bodySF (plainFor_of_name pn_249) hisR ?_
  intro p e s m args below meth c s₁ Bd hml0 hP hK
  obtain ⟨rfl,hZ,hh⟩ := hP
  have hx := Bd.exec
  have hby := Bd.bytes
  have hml : c.maxLocals = 1 := hml0
  have hown : s.vm.findClass "java/util/Optional" = some m.cls := findClass_of_methodNamed Bd.named
  have hnm := (name_of_methodNamed Bd.named Bd.method).1
  have X0 : Stand p l e ({ frames := 2,cells := 1,slots := 1,locals := 26 } : Room) s m #[(.ref xa)] below meth c s₁ [] 0 0 := Stand.of_body Bd
  have e0 : s₁.heap = h0 := by rw [← hh,Bd.state]; rfl
  have N0 := Fr.nil n0
  refine own_start (Q := fun v h L => Q20 Z xa h0 n0 v h L) ?_
  refine gv s₁ 0 #[sR xa] [] (fun t k => castTop (ef_20 m xa) k) ?_
  obtain ⟨T1,h1,X1,e1,E1,A1,D1,-,st1⟩ := newO X0 hx hZ hown (w_ hw 110 rfl) (w_ hw 111 rfl) (w_ hw 108 rfl) e0 (g := (mkF m 0 #[sR xa] [])) rfl (hb hby d20_0) (by decide) (by decide)
  obtain ⟨b1,g1⟩ : ∃ z,z = h0.size := ⟨_,rfl⟩
  rw [← g1] at A1 D1 st1
  have K1 := Keep.ext (Keep.refl h0 []) E1
  have Z1 := Nat.le_trans Z0 K1.1
  have g_b1 : n0 ≤ b1 := Nat.le_trans Z0 (Nat.le_of_eq g1.symm)
  have sz_b1 : h0.size ≤ b1 := Nat.le_trans ((Keep.refl h0 [])).1 (Nat.le_of_eq g1.symm)
  have f2 : Exa Z h1 b1 "java/util/Optional" := A1
  have f3 : Fld Z h1 b1 "java/util/Optional" "value" "Ljava/lang/Object;" .null := D1 (Or.inr (w_ hw 122 rfl)) (ty := (.object "java/lang/Object")) (by decide)
  refine gv T1 3 #[sR xa] [(.ref b1)] (fun t k => st1 _ k) ?_
  refine gv T1 4 #[sR xa] [(.ref b1),(.ref b1)] (fun t k => XS.dup X1.here hx rfl (hb hby d20_3) rfl rfl k) ?_
  refine gv T1 5 #[sR xa] [(.ref xa),(.ref b1),(.ref b1)] (fun t k => XS.aloadN X1.here hx rfl (hb hby d20_4) rfl rfl k) ?_
  obtain ⟨_,_,⟨T4,L4,k4,n4⟩,-,X4,⟨Lc4,hQ4,l4,y4,z4⟩,st4⟩ := Jvm.LawKit.callS X1 hx (y := (⟨"java/util/Objects","requireNonNull","(Ljava/lang/Object;)Ljava/lang/Object;"⟩ : MethodName)) hown (mvT hZ (w_ hw 112 rfl)) (mvT hZ (w_ hw 113 rfl)) (mvT hZ (w_ hw 114 rfl)) (mvT hZ (w_ hw 115 rfl)) (by decide) (backOf (W := 2) (rm21 l Z a0 hw [] xa h1 n0 Z1 ) hZ (w_ hw 115 rfl) (w_ hw 114 rfl) (by decide) (by decide)) (g := (mkF m 5 #[sR xa] [(.ref xa),(.ref b1),(.ref b1)])) rfl (by rw [hml]; rfl) (argsL := [(.ref xa)]) (rest := [(.ref b1),(.ref b1)]) (lenOf pd_13 rfl) rfl (own_rm rfl) (hb hby d20_5) (fun _ _ => ⟨rfl,e1,(by decide : 1 + 0 ≤ _),(by decide : 1 + 0 ≤ _)⟩)
  dsimp only [Pt.U, Pt.locs, Pt.cells, Pt.slots] at X4 l4 y4 z4 st4 hQ4
  replace X4 := own_cast X4 l4 y4 z4
  obtain ⟨rfl,N4q,eq4⟩ := hQ4
  have N4 := Fr.app N0 N4q
  refine gv T4 8 #[sR xa] [(.ref xa),(.ref b1),(.ref b1)] (fun t k => st4 _ k) ?_
  obtain ⟨_,_,⟨T5,L5,k5,n5⟩,-,X5,⟨Lc5,hQ5,l5,y5,z5⟩,st5⟩ := X4.specialBack hx (y := (⟨"java/util/Optional","<init>","(Ljava/lang/Object;)V"⟩ : MethodName)) rfl hown (mvT hZ (w_ hw 116 rfl)) (mvT hZ (w_ hw 117 rfl)) (mvT hZ (w_ hw 119 rfl)) (by decide) (backOf (W := 1) (rm22 l Z a0 hw [] b1 xa .null h1 n0 Z1 f2 f3 g_b1) hZ (w_ hw 119 rfl) (w_ hw 108 rfl) (by decide) (by decide)) (g := (mkF m 8 #[sR xa] [(.ref xa),(.ref b1),(.ref b1)])) rfl (by rw [hml]; rfl) (Steps.refl _) (a := b1) (argsL := [(.ref xa)]) (rest := [(.ref b1)]) (lenOf pd_14 rfl) rfl (own_rm rfl) (hb hby d20_8) (fun _ _ => ⟨rfl,eq4,(by decide : 1 + 0 ≤ _),(by decide : 1 + 0 ≤ _)⟩)
  dsimp only [Pt.U, Pt.locs, Pt.cells, Pt.slots] at X5 l5 y5 z5 st5 hQ5
  replace X5 := own_cast X5 l5 y5 z5
  obtain ⟨rfl,N5q,K5q,po5_0,po5_1⟩ := hQ5
  have N5 := Fr.app N4 N5q
  have f6 := f2.keep K5q
  have K5 := Keep.trans K1 K5q (allS (Or.inr sz_b1) all0)
  have Z5 := Nat.le_trans Z0 K5.1
  refine gv T5 11 #[sR xa] [(.ref b1)] (fun t k => st5.trans k) ?_
  exact own_ret X5 hx Bd.notSynchronized Bd.returns rfl (Or.inr (Or.inr (Or.inr (Or.inr ⟨rfl,rfl,rfl⟩)))) (hb hby d20_11) rfl ⟨b1,rfl,N5,K5,po5_0,po5_1,g_b1,sz_b1⟩ (by decide) (by decide)
theorem d24_0 : decode jdk_32_method_1_code 0 = .ok (.getstatic 1, 3) := by decide +kernel
theorem d24_3 : decode jdk_32_method_1_code 3 = .ok (.astore_n 0, 1) := by decide +kernel
theorem d24_4 : decode jdk_32_method_1_code 4 = .ok (.aload_n 0, 1) := by decide +kernel
theorem d24_5 : decode jdk_32_method_1_code 5 = .ok (.areturn, 1) := by decide +kernel
theorem ef_24 (m : MethodId)  : entryFrame m #[] 1 = mkF m 0 #[.unset] [] := by first | (simp [entryFrame, mkF, argsToLocals, Value.category]; done) | rfl
def Q24 (Z : State) (oe : Addr) (h0 : Heap) (n0 : Nat) (v : Option Value) (h : Heap) (L : List Loc) : Prop := v = some (.ref oe) ∧ Fr n0 L ∧ h = h0
set_option maxRecDepth 65536 in
set_option maxHeartbeats 40000000 in
theorem rm24 (l : Launch) (Z : State) (a0 : Array Value) (hw : ∀ d ∈ tables_1, d.before a0 Z = true) (ws : List Jvm.Cond) (oe : Addr) (h0 : Heap) (n0 : Nat) (Z0 : n0 ≤ h0.size) (f0_EMPTY : Sta Z h0 "java/util/Optional" "EMPTY" "Ljava/util/Optional;" (.ref oe)) :
    MetFree l (⟨"java/util/Optional", "empty", "()Ljava/util/Optional;"⟩ : MethodName) (head1 (Jvm.Cond.code (⟨"java/util/Optional", "empty", "()Ljava/util/Optional;"⟩ : MethodName) jdk_32_method_1_code 1 (some (.object "java/util/Optional")) :: ws) ({ frames := 0, cells := 0, slots := 0, locals := 0 } : Room)) (fun a U => a = #[] ∧ Z.Warmed39 U.vm ∧ U.heap = h0) (fun _ _ _ _ _ => True) (fun _ U o U' => ∃ v L, o = .returned v ∧ Q24 Z oe h0 n0 v U'.heap L ∧ FrameEnd U o U' L 0 0) := by
  refine MetFree.of_bodySF (plainFor_of_name pn_249) hisR ?_
  intro p e s m args below meth c s₁ Bd hml0 hP hK
  obtain ⟨rfl,hZ,hh⟩ := hP
  have hx := Bd.exec
  have hby := Bd.bytes
  have hml : c.maxLocals = 1 := hml0
  have hown : s.vm.findClass "java/util/Optional" = some m.cls := findClass_of_methodNamed Bd.named
  have hnm := (name_of_methodNamed Bd.named Bd.method).1
  have X0 : Stand p l e ({ frames := 0,cells := 0,slots := 0,locals := 0 } : Room) s m #[] below meth c s₁ [] 0 0 := Stand.of_body Bd
  have e0 : s₁.heap = h0 := by rw [← hh,Bd.state]; rfl
  have N0 := Fr.nil n0
  refine own_start (Q := fun v h L => Q24 Z oe h0 n0 v h L) ?_
  refine gv s₁ 0 #[sU] [] (fun t k => castTop (ef_24 m ) k) ?_
  obtain ⟨T1,X1,e1,st1⟩ := getS2 X0 hx hZ hown (host := "") (Or.inl (w_ hw 134 rfl)) Via.refl e0 f0_EMPTY (g := (mkF m 0 #[sU] [])) rfl (hb hby d24_0)
  refine gv T1 3 #[sU] [(.ref oe)] (fun t k => st1 _ k) ?_
  refine gv T1 4 #[sR oe] [] (fun t k => XS.astoreN X1.here hx rfl (hb hby d24_3) rfl rfl (l' := #[sR oe]) rfl k) ?_
  refine gv T1 5 #[sR oe] [(.ref oe)] (fun t k => XS.aloadN X1.here hx rfl (hb hby d24_4) rfl rfl k) ?_
  exact own_ret X1 hx Bd.notSynchronized Bd.returns rfl (Or.inr (Or.inr (Or.inr (Or.inr ⟨rfl,rfl,rfl⟩)))) (hb hby d24_5) e1 ⟨rfl,N0,rfl⟩ (by decide) (by decide)
theorem d23_0 : decode jdk_32_method_15_code 0 = .ok (.aload_n 0, 1) := by decide +kernel
theorem d23_1 : decode jdk_32_method_15_code 1 = .ok (.getfield 13, 3) := by decide +kernel
theorem d23_4 : decode jdk_32_method_15_code 4 = .ok (.ifnull 10, 3) := by decide +kernel
theorem d23_7 : decode jdk_32_method_15_code 7 = .ok (.aload_n 0, 1) := by decide +kernel
theorem d23_8 : decode jdk_32_method_15_code 8 = .ok (.getfield 13, 3) := by decide +kernel
theorem d23_11 : decode jdk_32_method_15_code 11 = .ok (.goto 4, 3) := by decide +kernel
theorem d23_15 : decode jdk_32_method_15_code 15 = .ok (.areturn, 1) := by decide +kernel
theorem ef_23v (m : MethodId) (xo : Addr) : entryFrame m #[(.ref xo), .null] 2 = mkF m 0 #[.val (.ref xo), .val .null] [] := by first | (simp [entryFrame, mkF, argsToLocals, Value.category]; done) | rfl
def Q23v (Z : State) (xo : Addr) (xv : Addr) (h0 : Heap) (n0 : Nat) (v : Option Value) (h : Heap) (L : List Loc) : Prop := v = some (.ref xv) ∧ Fr n0 L ∧ h = h0
set_option maxRecDepth 65536 in
set_option maxHeartbeats 40000000 in
theorem rm23v (l : Launch) (Z : State) (a0 : Array Value) (hw : ∀ d ∈ tables_1, d.before a0 Z = true) (ws : List Jvm.Cond) (xo : Addr) (xv : Addr) (h0 : Heap) (n0 : Nat) (Z0 : n0 ≤ h0.size) (f0_xo_value : Fld Z h0 xo "java/util/Optional" "value" "Ljava/lang/Object;" (.ref xv)) :
    MetFree l (⟨"java/util/Optional", "orElse", "(Ljava/lang/Object;)Ljava/lang/Object;"⟩ : MethodName) (head1 (Jvm.Cond.code (⟨"java/util/Optional", "orElse", "(Ljava/lang/Object;)Ljava/lang/Object;"⟩ : MethodName) jdk_32_method_15_code 2 (some (.object "java/lang/Object")) :: ws) ({ frames := 0, cells := 0, slots := 0, locals := 0 } : Room)) (fun a U => a = #[(.ref xo), .null] ∧ Z.Warmed39 U.vm ∧ U.heap = h0) (fun _ _ _ _ _ => True) (fun _ U o U' => ∃ v L, o = .returned v ∧ Q23v Z xo xv h0 n0 v U'.heap L ∧ FrameEnd U o U' L 0 0) := by
  refine MetFree.of_bodySF (plainFor_of_name pn_249) hisR ?_
  intro p e s m args below meth c s₁ Bd hml0 hP hK
  obtain ⟨rfl,hZ,hh⟩ := hP
  have hx := Bd.exec
  have hby := Bd.bytes
  have hml : c.maxLocals = 2 := hml0
  have hown : s.vm.findClass "java/util/Optional" = some m.cls := findClass_of_methodNamed Bd.named
  have hnm := (name_of_methodNamed Bd.named Bd.method).1
  have X0 : Stand p l e ({ frames := 0,cells := 0,slots := 0,locals := 0 } : Room) s m #[(.ref xo),.null] below meth c s₁ [] 0 0 := Stand.of_body Bd
  have e0 : s₁.heap = h0 := by rw [← hh,Bd.state]; rfl
  have N0 := Fr.nil n0
  refine own_start (Q := fun v h L => Q23v Z xo xv h0 n0 v h L) ?_
  refine gv s₁ 0 #[sR xo,.val .null] [] (fun t k => castTop (ef_23v m xo) k) ?_
  refine gv s₁ 1 #[sR xo,.val .null] [(.ref xo)] (fun t k => XS.aloadN X0.here hx rfl (hb hby d23_0) rfl rfl k) ?_
  obtain ⟨T1,X1,e1,st1⟩ := getF X0 hx hZ hown (host := "") (Or.inl (w_ hw 121 rfl)) Via.refl e0 f0_xo_value (g := (mkF m 1 #[sR xo,.val .null] [(.ref xo)])) rfl rfl (hb hby d23_1)
  refine gv T1 4 #[sR xo,.val .null] [(.ref xv)] (fun t k => st1 _ k) ?_
  refine gv T1 7 #[sR xo,.val .null] [] (fun t k => XS.ifnullNo X1.here hx rfl (hb hby d23_4) rfl k) ?_
  refine gv T1 8 #[sR xo,.val .null] [(.ref xo)] (fun t k => XS.aloadN X1.here hx rfl (hb hby d23_7) rfl rfl k) ?_
  obtain ⟨T2,X2,e2,st2⟩ := getF X1 hx hZ hown (host := "") (Or.inl (w_ hw 121 rfl)) Via.refl e1 f0_xo_value (g := (mkF m 8 #[sR xo,.val .null] [(.ref xo)])) rfl rfl (hb hby d23_8)
  refine gv T2 11 #[sR xo,.val .null] [(.ref xv)] (fun t k => st2 _ k) ?_
  refine gv T2 15 #[sR xo,.val .null] [(.ref xv)] (fun t k => XS.goto X2.here hx rfl (pc0 := 11) (pc' := 15) rfl (hb hby d23_11) (by decide) (by decide) k) ?_
  exact own_ret X2 hx Bd.notSynchronized Bd.returns rfl (Or.inr (Or.inr (Or.inr (Or.inr ⟨rfl,rfl,rfl⟩)))) (hb hby d23_15) e2 ⟨rfl,N0,rfl⟩ (by decide) (by decide)
theorem d23_14 : decode jdk_32_method_15_code 14 = .ok (.aload_n 1, 1) := by decide +kernel
theorem ef_23n (m : MethodId) (xo : Addr) : entryFrame m #[(.ref xo), .null] 2 = mkF m 0 #[.val (.ref xo), .val .null] [] := by first | (simp [entryFrame, mkF, argsToLocals, Value.category]; done) | rfl
def Q23n (Z : State) (xo : Addr) (h0 : Heap) (n0 : Nat) (v : Option Value) (h : Heap) (L : List Loc) : Prop := v = some .null ∧ Fr n0 L ∧ h = h0
set_option maxRecDepth 65536 in
set_option maxHeartbeats 40000000 in
theorem rm23n (l : Launch) (Z : State) (a0 : Array Value) (hw : ∀ d ∈ tables_1, d.before a0 Z = true) (ws : List Jvm.Cond) (xo : Addr) (h0 : Heap) (n0 : Nat) (Z0 : n0 ≤ h0.size) (f0_xo_value : Fld Z h0 xo "java/util/Optional" "value" "Ljava/lang/Object;" .null) :
    MetFree l (⟨"java/util/Optional", "orElse", "(Ljava/lang/Object;)Ljava/lang/Object;"⟩ : MethodName) (head1 (Jvm.Cond.code (⟨"java/util/Optional", "orElse", "(Ljava/lang/Object;)Ljava/lang/Object;"⟩ : MethodName) jdk_32_method_15_code 2 (some (.object "java/lang/Object")) :: ws) ({ frames := 0, cells := 0, slots := 0, locals := 0 } : Room)) (fun a U => a = #[(.ref xo), .null] ∧ Z.Warmed39 U.vm ∧ U.heap = h0) (fun _ _ _ _ _ => True) (fun _ U o U' => ∃ v L, o = .returned v ∧ Q23n Z xo h0 n0 v U'.heap L ∧ FrameEnd U o U' L 0 0) := by
  refine MetFree.of_bodySF (plainFor_of_name pn_249) hisR ?_
  intro p e s m args below meth c s₁ Bd hml0 hP hK
  obtain ⟨rfl,hZ,hh⟩ := hP
  have hx := Bd.exec
  have hby := Bd.bytes
  have hml : c.maxLocals = 2 := hml0
  have hown : s.vm.findClass "java/util/Optional" = some m.cls := findClass_of_methodNamed Bd.named
  have hnm := (name_of_methodNamed Bd.named Bd.method).1
  have X0 : Stand p l e ({ frames := 0,cells := 0,slots := 0,locals := 0 } : Room) s m #[(.ref xo),.null] below meth c s₁ [] 0 0 := Stand.of_body Bd
  have e0 : s₁.heap = h0 := by rw [← hh,Bd.state]; rfl
  have N0 := Fr.nil n0
  refine own_start (Q := fun v h L => Q23n Z xo h0 n0 v h L) ?_
  refine gv s₁ 0 #[sR xo,.val .null] [] (fun t k => castTop (ef_23n m xo) k) ?_
  refine gv s₁ 1 #[sR xo,.val .null] [(.ref xo)] (fun t k => XS.aloadN X0.here hx rfl (hb hby d23_0) rfl rfl k) ?_
  obtain ⟨T1,X1,e1,st1⟩ := getF X0 hx hZ hown (host := "") (Or.inl (w_ hw 121 rfl)) Via.refl e0 f0_xo_value (g := (mkF m 1 #[sR xo,.val .null] [(.ref xo)])) rfl rfl (hb hby d23_1)
  refine gv T1 4 #[sR xo,.val .null] [.null] (fun t k => st1 _ k) ?_
  refine gv T1 14 #[sR xo,.val .null] [] (fun t k => XS.ifnullYes X1.here hx rfl (pc0 := 4) (pc' := 14) rfl (hb hby d23_4) rfl (by decide) (by decide) k) ?_
  refine gv T1 15 #[sR xo,.val .null] [.null] (fun t k => XS.aloadN X1.here hx rfl (hb hby d23_14) rfl rfl k) ?_
  exact own_ret X1 hx Bd.notSynchronized Bd.returns rfl (Or.inr (Or.inr (Or.inr (Or.inr ⟨rfl,rfl,rfl⟩)))) (hb hby d23_15) e1 ⟨rfl,N0,rfl⟩ (by decide) (by decide)
theorem d18_0 : decode prog_14_method_4_code 0 = .ok (.invokestatic 41, 3) := by decide +kernel
theorem d18_3 : decode prog_14_method_4_code 3 = .ok (.astore_n 1, 1) := by decide +kernel
theorem d18_4 : decode prog_14_method_4_code 4 = .ok (.aload_n 1, 1) := by decide +kernel
theorem d18_5 : decode prog_14_method_4_code 5 = .ok (.arraylength, 1) := by decide +kernel
theorem d18_6 : decode prog_14_method_4_code 6 = .ok (.istore_n 2, 1) := by decide +kernel
theorem d18_7 : decode prog_14_method_4_code 7 = .ok (.iconst 0, 1) := by decide +kernel
theorem d18_8 : decode prog_14_method_4_code 8 = .ok (.istore_n 3, 1) := by decide +kernel
theorem d18_9 : decode prog_14_method_4_code 9 = .ok (.iload_n 3, 1) := by decide +kernel
theorem d18_10 : decode prog_14_method_4_code 10 = .ok (.iload_n 2, 1) := by decide +kernel
theorem d18_11 : decode prog_14_method_4_code 11 = .ok (.if_icmp .ge 32, 3) := by decide +kernel
theorem d18_14 : decode prog_14_method_4_code 14 = .ok (.aload_n 1, 1) := by decide +kernel
theorem d18_15 : decode prog_14_method_4_code 15 = .ok (.iload_n 3, 1) := by decide +kernel
theorem d18_16 : decode prog_14_method_4_code 16 = .ok (.aaload, 1) := by decide +kernel
theorem d18_17 : decode prog_14_method_4_code 17 = .ok (.astore 4, 2) := by decide +kernel
theorem d18_19 : decode prog_14_method_4_code 19 = .ok (.aload 4, 2) := by decide +kernel
theorem d18_21 : decode prog_14_method_4_code 21 = .ok (.getfield 29, 3) := by decide +kernel
theorem d18_24 : decode prog_14_method_4_code 24 = .ok (.aload_n 0, 1) := by decide +kernel
theorem d18_25 : decode prog_14_method_4_code 25 = .ok (.invokevirtual 45, 3) := by decide +kernel
theorem d18_28 : decode prog_14_method_4_code 28 = .ok (.ifCond .eq 9, 3) := by decide +kernel
theorem d18_37 : decode prog_14_method_4_code 37 = .ok (.iinc 3 1, 3) := by decide +kernel
theorem d18_40 : decode prog_14_method_4_code 40 = .ok (.goto (-31), 3) := by decide +kernel
theorem d18_43 : decode prog_14_method_4_code 43 = .ok (.invokestatic 57, 3) := by decide +kernel
theorem d18_46 : decode prog_14_method_4_code 46 = .ok (.areturn, 1) := by decide +kernel
theorem ef_18x (m : MethodId) (xs : Addr) : entryFrame m #[(.ref xs)] 5 = mkF m 0 #[.val (.ref xs), .unset, .unset, .unset, .unset] [] := by first | (simp [entryFrame, mkF, argsToLocals, Value.category]; done) | rfl
def Q18x (Z : State) (xs : Addr) (yV : Addr) (kV : ClassId) (dd : Addr) (mm : Addr) (td : Addr) (bd : Addr) (kd : ClassId) (tm : Addr) (bm : Addr) (km : ClassId) (oe : Addr) (wc : Int32) (yb : Addr) (kb : ClassId) (zb : Int32) (vb : List Value) (h0 : Heap) (n0 : Nat) (v : Option Value) (h : Heap) (L : List Loc) : Prop := v = some (.ref oe) ∧ Fr n0 L ∧ Keep h0 h []
set_option maxRecDepth 65536 in
set_option maxHeartbeats 40000000 in
theorem rm18x (l : Launch) (Z : State) (a0 : Array Value) (hw : ∀ d ∈ tables_1, d.before a0 Z = true) (ws : List Jvm.Cond) (xs : Addr) (yV : Addr) (kV : ClassId) (dd : Addr) (mm : Addr) (td : Addr) (bd : Addr) (kd : ClassId) (tm : Addr) (bm : Addr) (km : ClassId) (oe : Addr) (wc : Int32) (yb : Addr) (kb : ClassId) (zb : Int32) (vb : List Value) (h0 : Heap) (n0 : Nat) (Z0 : n0 ≤ h0.size) (f0__VALUES : Sta Z h0 "com/example/tallyman/tallyman/ledger/Period" "$VALUES" "[Lcom/example/tallyman/tallyman/ledger/Period;" (.ref yV)) (f1_yV : Arv Z h0 yV kV (.object "com/example/tallyman/tallyman/ledger/Period") (2 : Int32) [(.ref dd), (.ref mm)] .null) (f2_yV : Exa Z h0 yV "[Lcom/example/tallyman/tallyman/ledger/Period;") (f3_dd_text : Fld Z h0 dd "com/example/tallyman/tallyman/ledger/Period" "text" "Ljava/lang/String;" (.ref td)) (f4_td : Exa Z h0 td "java/lang/String") (f5_td_coder : Fld Z h0 td "java/lang/String" "coder" "B" (.int (0 : Int32))) (f6_td_value : Fld Z h0 td "java/lang/String" "value" "[B" (.ref bd)) (f7_bd : Arv Z h0 bd kd .byte (3 : Int32) [(.int (100 : Int32)), (.int (97 : Int32)), (.int (121 : Int32))] (.int (0 : Int32))) (f8_mm_text : Fld Z h0 mm "com/example/tallyman/tallyman/ledger/Period" "text" "Ljava/lang/String;" (.ref tm)) (f9_tm : Exa Z h0 tm "java/lang/String") (f10_tm_coder : Fld Z h0 tm "java/lang/String" "coder" "B" (.int (0 : Int32))) (f11_tm_value : Fld Z h0 tm "java/lang/String" "value" "[B" (.ref bm)) (f12_bm : Arv Z h0 bm km .byte (5 : Int32) [(.int (109 : Int32)), (.int (111 : Int32)), (.int (110 : Int32)), (.int (116 : Int32)), (.int (104 : Int32))] (.int (0 : Int32))) (f13_EMPTY : Sta Z h0 "java/util/Optional" "EMPTY" "Ljava/util/Optional;" (.ref oe)) (f14_COMPACT_STRINGS : Sta Z h0 "java/lang/String" "COMPACT_STRINGS" "Z" (.int wc)) (f15_xs : Exa Z h0 xs "java/lang/String") (f16_xs_coder : Fld Z h0 xs "java/lang/String" "coder" "B" (.int (0 : Int32))) (f17_xs_value : Fld Z h0 xs "java/lang/String" "value" "[B" (.ref yb)) (f18_yb : Arv Z h0 yb kb .byte zb vb (.int (0 : Int32))) (ne_td_xs : td ≠ xs) (ne_tm_xs : tm ≠ xs) (hwc : ¬ wc = (0 : Int32)) (hz3 : ¬ (3 : Int32) = zb) (hz5 : ¬ (5 : Int32) = zb) :
    MetFree l (⟨"com/example/tallyman/tallyman/ledger/Period", "named", "(Ljava/lang/String;)Ljava/util/Optional;"⟩ : MethodName) (head1 (Jvm.Cond.code (⟨"com/example/tallyman/tallyman/ledger/Period", "named", "(Ljava/lang/String;)Ljava/util/Optional;"⟩ : MethodName) prog_14_method_4_code 5 (some (.object "java/util/Optional")) :: ws) ({ frames := 2, cells := 1, slots := 2, locals := 28 } : Room)) (fun a U => a = #[(.ref xs)] ∧ Z.Warmed39 U.vm ∧ U.heap = h0) (fun _ _ _ _ _ => True) (fun _ U o U' => ∃ v L, o = .returned v ∧ Q18x Z xs yV kV dd mm td bd kd tm bm km oe wc yb kb zb vb h0 n0 v U'.heap L ∧ FrameEnd U o U' L 1 2) := by
  refine MetFree.of_bodySF (plainFor_of_name pn_237) hisR ?_
  intro p e s m args below meth c s₁ Bd hml0 hP hK
  obtain ⟨rfl,hZ,hh⟩ := hP
  have hx := Bd.exec
  have hby := Bd.bytes
  have hml : c.maxLocals = 5 := hml0
  have hown : s.vm.findClass "com/example/tallyman/tallyman/ledger/Period" = some m.cls := findClass_of_methodNamed Bd.named
  have hnm := (name_of_methodNamed Bd.named Bd.method).1
  have X0 : Stand p l e ({ frames := 2,cells := 1,slots := 2,locals := 28 } : Room) s m #[(.ref xs)] below meth c s₁ [] 0 0 := Stand.of_body Bd
  have e0 : s₁.heap = h0 := by rw [← hh,Bd.state]; rfl
  have N0 := Fr.nil n0
  refine own_start (Q := fun v h L => Q18x Z xs yV kV dd mm td bd kd tm bm km oe wc yb kb zb vb h0 n0 v h L) ?_
  refine gv s₁ 0 #[sR xs,sU,sU,sU,sU] [] (fun t k => castTop (ef_18x m xs) k) ?_
  obtain ⟨_,_,⟨T1,L1,k1,n1⟩,-,X1,⟨Lc1,hQ1,l1,y1,z1⟩,st1⟩ := Jvm.LawKit.callS X0 hx (y := (⟨"com/example/tallyman/tallyman/ledger/Period","values","()[Lcom/example/tallyman/tallyman/ledger/Period;"⟩ : MethodName)) hown (mvT hZ (w_ hw 87 rfl)) (mvT hZ (w_ hw 88 rfl)) (mvT hZ (w_ hw 82 rfl)) (mvT hZ (w_ hw 89 rfl)) (by decide) (backOf (W := 0) (rm19 l Z a0 hw [] yV kV dd mm h0 n0 Z0 f0__VALUES f1_yV f2_yV) hZ (w_ hw 89 rfl) (w_ hw 82 rfl) (by decide) (by decide)) (g := (mkF m 0 #[sR xs,sU,sU,sU,sU] [])) rfl (by rw [hml]; rfl) (argsL := []) (rest := []) (lenOf pd_15 rfl) rfl (own_rm rfl) (hb hby d18_0) (fun _ _ => ⟨rfl,e0,(by decide : 0 + 1 ≤ _),(by decide : 0 + 2 ≤ _)⟩)
  dsimp only [Pt.U, Pt.locs, Pt.cells, Pt.slots] at X1 l1 y1 z1 st1 hQ1
  replace X1 := own_cast X1 l1 y1 z1
  obtain ⟨yc_1,rfl,N1q,K1q,po1_0,px1_g_yc,px1_sz_yc⟩ := hQ1
  have N1 := Fr.app N0 N1q
  have K1 := Keep.trans (Keep.refl h0 []) K1q all0
  have Z1 := Nat.le_trans Z0 K1.1
  have g_yc_1 := px1_g_yc
  have sz_yc_1 : h0.size ≤ yc_1 := Nat.le_trans ((Keep.refl h0 [])).1 px1_sz_yc
  refine gv T1 3 #[sR xs,sU,sU,sU,sU] [(.ref yc_1)] (fun t k => st1 _ k) ?_
  refine gv T1 4 #[sR xs,sR yc_1,sU,sU,sU] [] (fun t k => XS.astoreN X1.here hx rfl (hb hby d18_3) rfl rfl (l' := #[sR xs,sR yc_1,sU,sU,sU]) rfl k) ?_
  refine gv T1 5 #[sR xs,sR yc_1,sU,sU,sU] [(.ref yc_1)] (fun t k => XS.aloadN X1.here hx rfl (hb hby d18_4) rfl rfl k) ?_
  obtain ⟨cl2,Ar2,q2,S2,M2,Hs2,G2⟩ := id po1_0
  refine gv T1 6 #[sR xs,sR yc_1,sU,sU,sU] [(.int 2)] (fun t k => X1.arraylength hx Ar2.1 (State.isArrayOf_alike hZ.alike Ar2.2.1) (g := (mkF m 5 #[sR xs,sR yc_1,sU,sU,sU] [(.ref yc_1)])) rfl rfl (hb hby d18_5) _ (by rw [len_of S2 M2]; exact k)) ?_
  refine gv T1 7 #[sR xs,sR yc_1,sI 2,sU,sU] [] (fun t k => XS.istoreN X1.here hx rfl (hb hby d18_6) rfl (l' := #[sR xs,sR yc_1,sI 2,sU,sU]) rfl k) ?_
  refine gv T1 8 #[sR xs,sR yc_1,sI 2,sU,sU] [(.int 0)] (fun t k => XS.iconst X1.here hx rfl (hb hby d18_7) k) ?_
  refine gv T1 9 #[sR xs,sR yc_1,sI 2,sI 0,sU] [] (fun t k => XS.istoreN X1.here hx rfl (hb hby d18_8) rfl (l' := #[sR xs,sR yc_1,sI 2,sI 0,sU]) rfl k) ?_
  refine gv T1 10 #[sR xs,sR yc_1,sI 2,sI 0,sU] [(.int 0)] (fun t k => XS.iloadN X1.here hx rfl (hb hby d18_9) rfl k) ?_
  refine gv T1 11 #[sR xs,sR yc_1,sI 2,sI 0,sU] [(.int 2),(.int 0)] (fun t k => XS.iloadN X1.here hx rfl (hb hby d18_10) rfl k) ?_
  refine gv T1 14 #[sR xs,sR yc_1,sI 2,sI 0,sU] [] (fun t k => XS.icmpNo X1.here hx rfl (hb hby d18_11) rfl (tlt (by decide : ((0 : Int32) < (2 : Int32)))).2.1 k) ?_
  refine gv T1 15 #[sR xs,sR yc_1,sI 2,sI 0,sU] [(.ref yc_1)] (fun t k => XS.aloadN X1.here hx rfl (hb hby d18_14) rfl rfl k) ?_
  refine gv T1 16 #[sR xs,sR yc_1,sI 2,sI 0,sU] [(.int 0),(.ref yc_1)] (fun t k => XS.iloadN X1.here hx rfl (hb hby d18_15) rfl k) ?_
  obtain ⟨cl3,Ar3,q3,S3,M3,Hs3,G3⟩ := id po1_0
  have hin3 : ¬ ((0 : Int32) < 0 ∨ cl3.slots.size ≤ ((0 : Int32)).toNatClampNeg) := inb_of S3 ⟨by decide,by decide⟩
  have hat3 : cl3.slots[((0 : Int32)).toNatClampNeg]? = some (.ref dd) := Has.at Hs3 hin3 rfl
  refine gv T1 17 #[sR xs,sR yc_1,sI 2,sI 0,sU] [(.ref dd)] (fun t k => X1.aaload hx (j := (0 : Int32)) (v := (.ref dd)) Ar3.1 (State.isArrayOf_alike hZ.alike Ar3.2.1) rfl Ar3.2.2 hin3 hat3 (g := (mkF m 16 #[sR xs,sR yc_1,sI 2,sI 0,sU] [(.int 0),(.ref yc_1)])) rfl rfl (hb hby d18_16) _ k) ?_
  refine gv T1 19 #[sR xs,sR yc_1,sI 2,sI 0,sR dd] [] (fun t k => XS.astore X1.here hx rfl (hb hby d18_17) rfl rfl (l' := #[sR xs,sR yc_1,sI 2,sI 0,sR dd]) rfl k) ?_
  refine gv T1 21 #[sR xs,sR yc_1,sI 2,sI 0,sR dd] [(.ref dd)] (fun t k => XS.aload X1.here hx rfl (hb hby d18_19) rfl rfl k) ?_
  obtain ⟨T4,X4,e4,st4⟩ := getF X1 hx hZ hown (host := "") (Or.inl (w_ hw 103 rfl)) Via.refl rfl (f3_dd_text.keep K1 nin0) (g := (mkF m 21 #[sR xs,sR yc_1,sI 2,sI 0,sR dd] [(.ref dd)])) rfl rfl (hb hby d18_21)
  refine gv T4 24 #[sR xs,sR yc_1,sI 2,sI 0,sR dd] [(.ref td)] (fun t k => st4 _ k) ?_
  refine gv T4 25 #[sR xs,sR yc_1,sI 2,sI 0,sR dd] [(.ref xs),(.ref td)] (fun t k => XS.aloadN X4.here hx rfl (hb hby d18_24) rfl rfl k) ?_
  obtain ⟨cq5,kq5,q5a,q5b,q5c⟩ := isOf hZ e4 (f4_td.keep K1)
  obtain ⟨_,_,⟨T5,L5,k5,n5⟩,-,X5,⟨Lc5,hQ5,l5,y5,z5⟩,st5⟩ := X4.virtualBack hx (y := (⟨"java/lang/String","equals","(Ljava/lang/Object;)Z"⟩ : MethodName)) (z := (⟨"java/lang/String","equals","(Ljava/lang/Object;)Z"⟩ : MethodName)) hown (mvT hZ (w_ hw 105 rfl)) (mvT hZ (w_ hw 73 rfl)) (notFace_of_selects (args := #[]) (mvT hZ (w_ hw 75 rfl))) (mvT hZ (w_ hw 75 rfl)) (mvT hZ (w_ hw 74 rfl)) (by decide) (backOf (W := 0) (rm16x l Z a0 hw [] td xs bd yb kd kb (3 : Int32) zb ([(.int 100),(.int 97),(.int 121)] : List Value) vb wc T1.heap n0 Z1 (f4_td.keep K1) (f5_td_coder.keep K1 nin0) (f6_td_value.keep K1 nin0) (f7_bd.keep K1 nin0) (f15_xs.keep K1) (f16_xs_coder.keep K1 nin0) (f17_xs_value.keep K1 nin0) (f18_yb.keep K1 nin0) (own_staKeep f14_COMPACT_STRINGS K1 all0) ne_td_xs hz3 hwc) hZ (w_ hw 76 rfl) (w_ hw 8 rfl) (by decide) (by decide)) q5a q5c (g := (mkF m 25 #[sR xs,sR yc_1,sI 2,sI 0,sR dd] [(.ref xs),(.ref td)])) rfl (by rw [hml]; rfl) (Steps.refl _) (argsL := [(.ref xs)]) (rest := []) (lenOf pd_16 rfl) rfl (own_rm rfl) (hb hby d18_25) (fun _ _ => ⟨rfl,e4,(by decide : 1 + 0 ≤ _),(by decide : 2 + 0 ≤ _)⟩)
  dsimp only [Pt.U, Pt.locs, Pt.cells, Pt.slots] at X5 l5 y5 z5 st5 hQ5
  replace X5 := own_cast X5 l5 y5 z5
  obtain ⟨rfl,N5q,eq5⟩ := hQ5
  have N5 := Fr.app N1 N5q
  refine gv T5 28 #[sR xs,sR yc_1,sI 2,sI 0,sR dd] [(.int 0)] (fun t k => st5.trans k) ?_
  refine gv T5 37 #[sR xs,sR yc_1,sI 2,sI 0,sR dd] [] (fun t k => XS.ifYes X5.here hx rfl (pc0 := 28) (pc' := 37) rfl (hb hby d18_28) rfl ((if0 _ _).trans (teq rfl).1) (by decide) (by decide) k) ?_
  refine gv T5 40 #[sR xs,sR yc_1,sI 2,sI 1,sR dd] [] (fun t k => XS.iinc X5.here hx rfl (hb hby d18_37) rfl (l' := #[sR xs,sR yc_1,sI 2,sI 1,sR dd]) rfl k) ?_
  refine gv T5 9 #[sR xs,sR yc_1,sI 2,sI 1,sR dd] [] (fun t k => XS.goto X5.here hx rfl (pc0 := 40) (pc' := 9) rfl (hb hby d18_40) (by decide) (by decide) k) ?_
  refine gv T5 10 #[sR xs,sR yc_1,sI 2,sI 1,sR dd] [(.int 1)] (fun t k => XS.iloadN X5.here hx rfl (hb hby d18_9) rfl k) ?_
  refine gv T5 11 #[sR xs,sR yc_1,sI 2,sI 1,sR dd] [(.int 2),(.int 1)] (fun t k => XS.iloadN X5.here hx rfl (hb hby d18_10) rfl k) ?_
  refine gv T5 14 #[sR xs,sR yc_1,sI 2,sI 1,sR dd] [] (fun t k => XS.icmpNo X5.here hx rfl (hb hby d18_11) rfl (tlt (by decide : ((1 : Int32) < (2 : Int32)))).2.1 k) ?_
  refine gv T5 15 #[sR xs,sR yc_1,sI 2,sI 1,sR dd] [(.ref yc_1)] (fun t k => XS.aloadN X5.here hx rfl (hb hby d18_14) rfl rfl k) ?_
  refine gv T5 16 #[sR xs,sR yc_1,sI 2,sI 1,sR dd] [(.int 1),(.ref yc_1)] (fun t k => XS.iloadN X5.here hx rfl (hb hby d18_15) rfl k) ?_
  obtain ⟨cl6,Ar6,q6,S6,M6,Hs6,G6⟩ := id po1_0
  have hin6 : ¬ ((1 : Int32) < 0 ∨ cl6.slots.size ≤ ((1 : Int32)).toNatClampNeg) := inb_of S6 ⟨by decide,by decide⟩
  have hat6 : cl6.slots[((1 : Int32)).toNatClampNeg]? = some (.ref mm) := Has.at Hs6 hin6 rfl
  refine gv T5 17 #[sR xs,sR yc_1,sI 2,sI 1,sR dd] [(.ref mm)] (fun t k => X5.aaload hx (j := (1 : Int32)) (v := (.ref mm)) (by rw [eq5]; exact Ar6.1) (State.isArrayOf_alike hZ.alike Ar6.2.1) rfl Ar6.2.2 hin6 hat6 (g := (mkF m 16 #[sR xs,sR yc_1,sI 2,sI 1,sR dd] [(.int 1),(.ref yc_1)])) rfl rfl (hb hby d18_16) _ k) ?_
  refine gv T5 19 #[sR xs,sR yc_1,sI 2,sI 1,sR mm] [] (fun t k => XS.astore X5.here hx rfl (hb hby d18_17) rfl rfl (l' := #[sR xs,sR yc_1,sI 2,sI 1,sR mm]) rfl k) ?_
  refine gv T5 21 #[sR xs,sR yc_1,sI 2,sI 1,sR mm] [(.ref mm)] (fun t k => XS.aload X5.here hx rfl (hb hby d18_19) rfl rfl k) ?_
  obtain ⟨T7,X7,e7,st7⟩ := getF X5 hx hZ hown (host := "") (Or.inl (w_ hw 103 rfl)) Via.refl eq5 (f8_mm_text.keep K1 nin0) (g := (mkF m 21 #[sR xs,sR yc_1,sI 2,sI 1,sR mm] [(.ref mm)])) rfl rfl (hb hby d18_21)
  refine gv T7 24 #[sR xs,sR yc_1,sI 2,sI 1,sR mm] [(.ref tm)] (fun t k => st7 _ k) ?_
  refine gv T7 25 #[sR xs,sR yc_1,sI 2,sI 1,sR mm] [(.ref xs),(.ref tm)] (fun t k => XS.aloadN X7.here hx rfl (hb hby d18_24) rfl rfl k) ?_
  obtain ⟨cq8,kq8,q8a,q8b,q8c⟩ := isOf hZ e7 (f9_tm.keep K1)
  obtain ⟨_,_,⟨T8,L8,k8,n8⟩,-,X8,⟨Lc8,hQ8,l8,y8,z8⟩,st8⟩ := X7.virtualBack hx (y := (⟨"java/lang/String","equals","(Ljava/lang/Object;)Z"⟩ : MethodName)) (z := (⟨"java/lang/String","equals","(Ljava/lang/Object;)Z"⟩ : MethodName)) hown (mvT hZ (w_ hw 105 rfl)) (mvT hZ (w_ hw 73 rfl)) (notFace_of_selects (args := #[]) (mvT hZ (w_ hw 75 rfl))) (mvT hZ (w_ hw 75 rfl)) (mvT hZ (w_ hw 74 rfl)) (by decide) (backOf (W := 0) (rm16x l Z a0 hw [] tm xs bm yb km kb (5 : Int32) zb ([(.int 109),(.int 111),(.int 110),(.int 116),(.int 104)] : List Value) vb wc T1.heap n0 Z1 (f9_tm.keep K1) (f10_tm_coder.keep K1 nin0) (f11_tm_value.keep K1 nin0) (f12_bm.keep K1 nin0) (f15_xs.keep K1) (f16_xs_coder.keep K1 nin0) (f17_xs_value.keep K1 nin0) (f18_yb.keep K1 nin0) (own_staKeep f14_COMPACT_STRINGS K1 all0) ne_tm_xs hz5 hwc) hZ (w_ hw 76 rfl) (w_ hw 8 rfl) (by decide) (by decide)) q8a q8c (g := (mkF m 25 #[sR xs,sR yc_1,sI 2,sI 1,sR mm] [(.ref xs),(.ref tm)])) rfl (by rw [hml]; rfl) (Steps.refl _) (argsL := [(.ref xs)]) (rest := []) (lenOf pd_16 rfl) rfl (own_rm rfl) (hb hby d18_25) (fun _ _ => ⟨rfl,e7,(by decide : 1 + 0 ≤ _),(by decide : 2 + 0 ≤ _)⟩)
  dsimp only [Pt.U, Pt.locs, Pt.cells, Pt.slots] at X8 l8 y8 z8 st8 hQ8
  replace X8 := own_cast X8 l8 y8 z8
  obtain ⟨rfl,N8q,eq8⟩ := hQ8
  have N8 := Fr.app N5 N8q
  refine gv T8 28 #[sR xs,sR yc_1,sI 2,sI 1,sR mm] [(.int 0)] (fun t k => st8.trans k) ?_
  refine gv T8 37 #[sR xs,sR yc_1,sI 2,sI 1,sR mm] [] (fun t k => XS.ifYes X8.here hx rfl (pc0 := 28) (pc' := 37) rfl (hb hby d18_28) rfl ((if0 _ _).trans (teq rfl).1) (by decide) (by decide) k) ?_
  refine gv T8 40 #[sR xs,sR yc_1,sI 2,sI 2,sR mm] [] (fun t k => XS.iinc X8.here hx rfl (hb hby d18_37) rfl (l' := #[sR xs,sR yc_1,sI 2,sI 2,sR mm]) rfl k) ?_
  refine gv T8 9 #[sR xs,sR yc_1,sI 2,sI 2,sR mm] [] (fun t k => XS.goto X8.here hx rfl (pc0 := 40) (pc' := 9) rfl (hb hby d18_40) (by decide) (by decide) k) ?_
  refine gv T8 10 #[sR xs,sR yc_1,sI 2,sI 2,sR mm] [(.int 2)] (fun t k => XS.iloadN X8.here hx rfl (hb hby d18_9) rfl k) ?_
  refine gv T8 11 #[sR xs,sR yc_1,sI 2,sI 2,sR mm] [(.int 2),(.int 2)] (fun t k => XS.iloadN X8.here hx rfl (hb hby d18_10) rfl k) ?_
  refine gv T8 43 #[sR xs,sR yc_1,sI 2,sI 2,sR mm] [] (fun t k => XS.icmpYes X8.here hx rfl (pc0 := 11) (pc' := 43) rfl (hb hby d18_11) rfl (flt (by decide : ¬ ((2 : Int32) < (2 : Int32)))).2.1 (by decide) (by decide) k) ?_
  obtain ⟨_,_,⟨T9,L9,k9,n9⟩,-,X9,⟨Lc9,hQ9,l9,y9,z9⟩,st9⟩ := Jvm.LawKit.callS X8 hx (y := (⟨"java/util/Optional","empty","()Ljava/util/Optional;"⟩ : MethodName)) hown (mvT hZ (w_ hw 131 rfl)) (mvT hZ (w_ hw 132 rfl)) (mvT hZ (w_ hw 108 rfl)) (mvT hZ (w_ hw 133 rfl)) (by decide) (backOf (W := 0) (rm24 l Z a0 hw [] oe T1.heap n0 Z1 (own_staKeep f13_EMPTY K1 all0)) hZ (w_ hw 133 rfl) (w_ hw 108 rfl) (by decide) (by decide)) (g := (mkF m 43 #[sR xs,sR yc_1,sI 2,sI 2,sR mm] [])) rfl (by rw [hml]; rfl) (argsL := []) (rest := []) (lenOf pd_17 rfl) rfl (own_rm rfl) (hb hby d18_43) (fun _ _ => ⟨rfl,eq8,(by decide : 1 + 0 ≤ _),(by decide : 2 + 0 ≤ _)⟩)
  dsimp only [Pt.U, Pt.locs, Pt.cells, Pt.slots] at X9 l9 y9 z9 st9 hQ9
  replace X9 := own_cast X9 l9 y9 z9
  obtain ⟨rfl,N9q,eq9⟩ := hQ9
  have N9 := Fr.app N8 N9q
  refine gv T9 46 #[sR xs,sR yc_1,sI 2,sI 2,sR mm] [(.ref oe)] (fun t k => st9 _ k) ?_
  exact own_ret X9 hx Bd.notSynchronized Bd.returns rfl (Or.inr (Or.inr (Or.inr (Or.inr ⟨rfl,rfl,rfl⟩)))) (hb hby d18_46) eq9 ⟨rfl,N9,K1⟩ (by decide) (by decide)
theorem d18_31 : decode prog_14_method_4_code 31 = .ok (.aload 4, 2) := by decide +kernel
theorem d18_33 : decode prog_14_method_4_code 33 = .ok (.invokestatic 51, 3) := by decide +kernel
theorem d18_36 : decode prog_14_method_4_code 36 = .ok (.areturn, 1) := by decide +kernel
theorem ef_183t (m : MethodId) (xs : Addr) : entryFrame m #[(.ref xs)] 5 = mkF m 0 #[.val (.ref xs), .unset, .unset, .unset, .unset] [] := by first | (simp [entryFrame, mkF, argsToLocals, Value.category]; done) | rfl
def Q183t (Z : State) (xs : Addr) (yV : Addr) (kV : ClassId) (dd : Addr) (mm : Addr) (td : Addr) (bd : Addr) (kd : ClassId) (tm : Addr) (bm : Addr) (km : ClassId) (oe : Addr) (wc : Int32) (yb : Addr) (kb : ClassId) (c0 : Int32) (c1 : Int32) (c2 : Int32) (h0 : Heap) (n0 : Nat) (v : Option Value) (h : Heap) (L : List Loc) : Prop := ∃ (yo : Addr), v = some (.ref yo) ∧ Fr n0 L ∧ Keep h0 h [] ∧ Exa Z h yo "java/util/Optional" ∧ Fld Z h yo "java/util/Optional" "value" "Ljava/lang/Object;" (.ref dd) ∧ n0 ≤ yo ∧ h0.size ≤ yo
set_option maxRecDepth 65536 in
set_option maxHeartbeats 40000000 in
theorem rm183t (l : Launch) (Z : State) (a0 : Array Value) (hw : ∀ d ∈ tables_1, d.before a0 Z = true) (ws : List Jvm.Cond) (xs : Addr) (yV : Addr) (kV : ClassId) (dd : Addr) (mm : Addr) (td : Addr) (bd : Addr) (kd : ClassId) (tm : Addr) (bm : Addr) (km : ClassId) (oe : Addr) (wc : Int32) (yb : Addr) (kb : ClassId) (c0 : Int32) (c1 : Int32) (c2 : Int32) (h0 : Heap) (n0 : Nat) (Z0 : n0 ≤ h0.size) (f0__VALUES : Sta Z h0 "com/example/tallyman/tallyman/ledger/Period" "$VALUES" "[Lcom/example/tallyman/tallyman/ledger/Period;" (.ref yV)) (f1_yV : Arv Z h0 yV kV (.object "com/example/tallyman/tallyman/ledger/Period") (2 : Int32) [(.ref dd), (.ref mm)] .null) (f2_yV : Exa Z h0 yV "[Lcom/example/tallyman/tallyman/ledger/Period;") (f3_dd_text : Fld Z h0 dd "com/example/tallyman/tallyman/ledger/Period" "text" "Ljava/lang/String;" (.ref td)) (f4_td : Exa Z h0 td "java/lang/String") (f5_td_coder : Fld Z h0 td "java/lang/String" "coder" "B" (.int (0 : Int32))) (f6_td_value : Fld Z h0 td "java/lang/String" "value" "[B" (.ref bd)) (f7_bd : Arv Z h0 bd kd .byte (3 : Int32) [(.int (100 : Int32)), (.int (97 : Int32)), (.int (121 : Int32))] (.int (0 : Int32))) (f8_mm_text : Fld Z h0 mm "com/example/tallyman/tallyman/ledger/Period" "text" "Ljava/lang/String;" (.ref tm)) (f9_tm : Exa Z h0 tm "java/lang/String") (f10_tm_coder : Fld Z h0 tm "java/lang/String" "coder" "B" (.int (0 : Int32))) (f11_tm_value : Fld Z h0 tm "java/lang/String" "value" "[B" (.ref bm)) (f12_bm : Arv Z h0 bm km .byte (5 : Int32) [(.int (109 : Int32)), (.int (111 : Int32)), (.int (110 : Int32)), (.int (116 : Int32)), (.int (104 : Int32))] (.int (0 : Int32))) (f13_EMPTY : Sta Z h0 "java/util/Optional" "EMPTY" "Ljava/util/Optional;" (.ref oe)) (f14_COMPACT_STRINGS : Sta Z h0 "java/lang/String" "COMPACT_STRINGS" "Z" (.int wc)) (f15_xs : Exa Z h0 xs "java/lang/String") (f16_xs_coder : Fld Z h0 xs "java/lang/String" "coder" "B" (.int (0 : Int32))) (f17_xs_value : Fld Z h0 xs "java/lang/String" "value" "[B" (.ref yb)) (f18_yb : Arv Z h0 yb kb .byte (3 : Int32) [(.int c0), (.int c1), (.int c2)] (.int (0 : Int32))) (ne_td_xs : td ≠ xs) (ne_tm_xs : tm ≠ xs) (hwc : ¬ wc = (0 : Int32)) (hp : (((100 : Int32) = c0) ∧ (((97 : Int32) = c1) ∧ ((121 : Int32) = c2)))) :
    MetFree l (⟨"com/example/tallyman/tallyman/ledger/Period", "named", "(Ljava/lang/String;)Ljava/util/Optional;"⟩ : MethodName) (head1 (Jvm.Cond.code (⟨"com/example/tallyman/tallyman/ledger/Period", "named", "(Ljava/lang/String;)Ljava/util/Optional;"⟩ : MethodName) prog_14_method_4_code 5 (some (.object "java/util/Optional")) :: ws) ({ frames := 3, cells := 2, slots := 3, locals := 38 } : Room)) (fun a U => a = #[(.ref xs)] ∧ Z.Warmed39 U.vm ∧ U.heap = h0) (fun _ _ _ _ _ => True) (fun _ U o U' => ∃ v L, o = .returned v ∧ Q183t Z xs yV kV dd mm td bd kd tm bm km oe wc yb kb c0 c1 c2 h0 n0 v U'.heap L ∧ FrameEnd U o U' L 2 3) := by
  refine MetFree.of_bodySF (plainFor_of_name pn_237) hisR ?_
  intro p e s m args below meth c s₁ Bd hml0 hP hK
  obtain ⟨rfl,hZ,hh⟩ := hP
  have hx := Bd.exec
  have hby := Bd.bytes
  have hml : c.maxLocals = 5 := hml0
  have hown : s.vm.findClass "com/example/tallyman/tallyman/ledger/Period" = some m.cls := findClass_of_methodNamed Bd.named
  have hnm := (name_of_methodNamed Bd.named Bd.method).1
  have X0 : Stand p l e ({ frames := 3,cells := 2,slots := 3,locals := 38 } : Room) s m #[(.ref xs)] below meth c s₁ [] 0 0 := Stand.of_body Bd
  have e0 : s₁.heap = h0 := by rw [← hh,Bd.state]; rfl
  have N0 := Fr.nil n0
  refine own_start (Q := fun v h L => Q183t Z xs yV kV dd mm td bd kd tm bm km oe wc yb kb c0 c1 c2 h0 n0 v h L) ?_
  refine gv s₁ 0 #[sR xs,sU,sU,sU,sU] [] (fun t k => castTop (ef_183t m xs) k) ?_
  obtain ⟨_,_,⟨T1,L1,k1,n1⟩,-,X1,⟨Lc1,hQ1,l1,y1,z1⟩,st1⟩ := Jvm.LawKit.callS X0 hx (y := (⟨"com/example/tallyman/tallyman/ledger/Period","values","()[Lcom/example/tallyman/tallyman/ledger/Period;"⟩ : MethodName)) hown (mvT hZ (w_ hw 87 rfl)) (mvT hZ (w_ hw 88 rfl)) (mvT hZ (w_ hw 82 rfl)) (mvT hZ (w_ hw 89 rfl)) (by decide) (backOf (W := 0) (rm19 l Z a0 hw [] yV kV dd mm h0 n0 Z0 f0__VALUES f1_yV f2_yV) hZ (w_ hw 89 rfl) (w_ hw 82 rfl) (by decide) (by decide)) (g := (mkF m 0 #[sR xs,sU,sU,sU,sU] [])) rfl (by rw [hml]; rfl) (argsL := []) (rest := []) (lenOf pd_15 rfl) rfl (own_rm rfl) (hb hby d18_0) (fun _ _ => ⟨rfl,e0,(by decide : 0 + 1 ≤ _),(by decide : 0 + 2 ≤ _)⟩)
  dsimp only [Pt.U, Pt.locs, Pt.cells, Pt.slots] at X1 l1 y1 z1 st1 hQ1
  replace X1 := own_cast X1 l1 y1 z1
  obtain ⟨yc_1,rfl,N1q,K1q,po1_0,px1_g_yc,px1_sz_yc⟩ := hQ1
  have N1 := Fr.app N0 N1q
  have K1 := Keep.trans (Keep.refl h0 []) K1q all0
  have Z1 := Nat.le_trans Z0 K1.1
  have g_yc_1 := px1_g_yc
  have sz_yc_1 : h0.size ≤ yc_1 := Nat.le_trans ((Keep.refl h0 [])).1 px1_sz_yc
  refine gv T1 3 #[sR xs,sU,sU,sU,sU] [(.ref yc_1)] (fun t k => st1 _ k) ?_
  refine gv T1 4 #[sR xs,sR yc_1,sU,sU,sU] [] (fun t k => XS.astoreN X1.here hx rfl (hb hby d18_3) rfl rfl (l' := #[sR xs,sR yc_1,sU,sU,sU]) rfl k) ?_
  refine gv T1 5 #[sR xs,sR yc_1,sU,sU,sU] [(.ref yc_1)] (fun t k => XS.aloadN X1.here hx rfl (hb hby d18_4) rfl rfl k) ?_
  obtain ⟨cl2,Ar2,q2,S2,M2,Hs2,G2⟩ := id po1_0
  refine gv T1 6 #[sR xs,sR yc_1,sU,sU,sU] [(.int 2)] (fun t k => X1.arraylength hx Ar2.1 (State.isArrayOf_alike hZ.alike Ar2.2.1) (g := (mkF m 5 #[sR xs,sR yc_1,sU,sU,sU] [(.ref yc_1)])) rfl rfl (hb hby d18_5) _ (by rw [len_of S2 M2]; exact k)) ?_
  refine gv T1 7 #[sR xs,sR yc_1,sI 2,sU,sU] [] (fun t k => XS.istoreN X1.here hx rfl (hb hby d18_6) rfl (l' := #[sR xs,sR yc_1,sI 2,sU,sU]) rfl k) ?_
  refine gv T1 8 #[sR xs,sR yc_1,sI 2,sU,sU] [(.int 0)] (fun t k => XS.iconst X1.here hx rfl (hb hby d18_7) k) ?_
  refine gv T1 9 #[sR xs,sR yc_1,sI 2,sI 0,sU] [] (fun t k => XS.istoreN X1.here hx rfl (hb hby d18_8) rfl (l' := #[sR xs,sR yc_1,sI 2,sI 0,sU]) rfl k) ?_
  refine gv T1 10 #[sR xs,sR yc_1,sI 2,sI 0,sU] [(.int 0)] (fun t k => XS.iloadN X1.here hx rfl (hb hby d18_9) rfl k) ?_
  refine gv T1 11 #[sR xs,sR yc_1,sI 2,sI 0,sU] [(.int 2),(.int 0)] (fun t k => XS.iloadN X1.here hx rfl (hb hby d18_10) rfl k) ?_
  refine gv T1 14 #[sR xs,sR yc_1,sI 2,sI 0,sU] [] (fun t k => XS.icmpNo X1.here hx rfl (hb hby d18_11) rfl (tlt (by decide : ((0 : Int32) < (2 : Int32)))).2.1 k) ?_
  refine gv T1 15 #[sR xs,sR yc_1,sI 2,sI 0,sU] [(.ref yc_1)] (fun t k => XS.aloadN X1.here hx rfl (hb hby d18_14) rfl rfl k) ?_
  refine gv T1 16 #[sR xs,sR yc_1,sI 2,sI 0,sU] [(.int 0),(.ref yc_1)] (fun t k => XS.iloadN X1.here hx rfl (hb hby d18_15) rfl k) ?_
  obtain ⟨cl3,Ar3,q3,S3,M3,Hs3,G3⟩ := id po1_0
  have hin3 : ¬ ((0 : Int32) < 0 ∨ cl3.slots.size ≤ ((0 : Int32)).toNatClampNeg) := inb_of S3 ⟨by decide,by decide⟩
  have hat3 : cl3.slots[((0 : Int32)).toNatClampNeg]? = some (.ref dd) := Has.at Hs3 hin3 rfl
  refine gv T1 17 #[sR xs,sR yc_1,sI 2,sI 0,sU] [(.ref dd)] (fun t k => X1.aaload hx (j := (0 : Int32)) (v := (.ref dd)) Ar3.1 (State.isArrayOf_alike hZ.alike Ar3.2.1) rfl Ar3.2.2 hin3 hat3 (g := (mkF m 16 #[sR xs,sR yc_1,sI 2,sI 0,sU] [(.int 0),(.ref yc_1)])) rfl rfl (hb hby d18_16) _ k) ?_
  refine gv T1 19 #[sR xs,sR yc_1,sI 2,sI 0,sR dd] [] (fun t k => XS.astore X1.here hx rfl (hb hby d18_17) rfl rfl (l' := #[sR xs,sR yc_1,sI 2,sI 0,sR dd]) rfl k) ?_
  refine gv T1 21 #[sR xs,sR yc_1,sI 2,sI 0,sR dd] [(.ref dd)] (fun t k => XS.aload X1.here hx rfl (hb hby d18_19) rfl rfl k) ?_
  obtain ⟨T4,X4,e4,st4⟩ := getF X1 hx hZ hown (host := "") (Or.inl (w_ hw 103 rfl)) Via.refl rfl (f3_dd_text.keep K1 nin0) (g := (mkF m 21 #[sR xs,sR yc_1,sI 2,sI 0,sR dd] [(.ref dd)])) rfl rfl (hb hby d18_21)
  refine gv T4 24 #[sR xs,sR yc_1,sI 2,sI 0,sR dd] [(.ref td)] (fun t k => st4 _ k) ?_
  refine gv T4 25 #[sR xs,sR yc_1,sI 2,sI 0,sR dd] [(.ref xs),(.ref td)] (fun t k => XS.aloadN X4.here hx rfl (hb hby d18_24) rfl rfl k) ?_
  obtain ⟨cq5,kq5,q5a,q5b,q5c⟩ := isOf hZ e4 (f4_td.keep K1)
  obtain ⟨_,_,⟨T5,L5,k5,n5⟩,-,X5,⟨Lc5,hQ5,l5,y5,z5⟩,st5⟩ := X4.virtualBack hx (y := (⟨"java/lang/String","equals","(Ljava/lang/Object;)Z"⟩ : MethodName)) (z := (⟨"java/lang/String","equals","(Ljava/lang/Object;)Z"⟩ : MethodName)) hown (mvT hZ (w_ hw 105 rfl)) (mvT hZ (w_ hw 73 rfl)) (notFace_of_selects (args := #[]) (mvT hZ (w_ hw 75 rfl))) (mvT hZ (w_ hw 75 rfl)) (mvT hZ (w_ hw 74 rfl)) (by decide) (backOf (W := 0) (rm163 l Z a0 hw [] td xs bd yb kd kb wc (100 : Int32) (97 : Int32) (121 : Int32) c0 c1 c2 T1.heap n0 Z1 (f4_td.keep K1) (f5_td_coder.keep K1 nin0) (f6_td_value.keep K1 nin0) (f7_bd.keep K1 nin0) (f15_xs.keep K1) (f16_xs_coder.keep K1 nin0) (f17_xs_value.keep K1 nin0) (f18_yb.keep K1 nin0) (own_staKeep f14_COMPACT_STRINGS K1 all0) ne_td_xs hwc) hZ (w_ hw 76 rfl) (w_ hw 8 rfl) (by decide) (by decide)) q5a q5c (g := (mkF m 25 #[sR xs,sR yc_1,sI 2,sI 0,sR dd] [(.ref xs),(.ref td)])) rfl (by rw [hml]; rfl) (Steps.refl _) (argsL := [(.ref xs)]) (rest := []) (lenOf pd_16 rfl) rfl (own_rm rfl) (hb hby d18_25) (fun _ _ => ⟨rfl,e4,(by decide : 1 + 0 ≤ _),(by decide : 2 + 0 ≤ _)⟩)
  dsimp only [Pt.U, Pt.locs, Pt.cells, Pt.slots] at X5 l5 y5 z5 st5 hQ5
  replace X5 := own_cast X5 l5 y5 z5
  obtain ⟨r5,rfl,hr5,N5q,eq5⟩ := hQ5
  have N5 := Fr.app N1 N5q
  refine gv T5 28 #[sR xs,sR yc_1,sI 2,sI 0,sR dd] [(.int r5)] (fun t k => st5.trans k) ?_
  refine gv T5 31 #[sR xs,sR yc_1,sI 2,sI 0,sR dd] [] (fun t k => XS.ifNo X5.here hx rfl (hb hby d18_28) rfl ((if0 _ _).trans (feq (own_b1 hr5 hp)).1) k) ?_
  refine gv T5 33 #[sR xs,sR yc_1,sI 2,sI 0,sR dd] [(.ref dd)] (fun t k => XS.aload X5.here hx rfl (hb hby d18_31) rfl rfl k) ?_
  obtain ⟨_,_,⟨T6,L6,k6,n6⟩,-,X6,⟨Lc6,hQ6,l6,y6,z6⟩,st6⟩ := Jvm.LawKit.callS X5 hx (y := (⟨"java/util/Optional","of","(Ljava/lang/Object;)Ljava/util/Optional;"⟩ : MethodName)) hown (mvT hZ (w_ hw 106 rfl)) (mvT hZ (w_ hw 107 rfl)) (mvT hZ (w_ hw 108 rfl)) (mvT hZ (w_ hw 109 rfl)) (by decide) (backOf (W := 0) (rm20 l Z a0 hw [] dd T1.heap n0 Z1 ) hZ (w_ hw 109 rfl) (w_ hw 108 rfl) (by decide) (by decide)) (g := (mkF m 33 #[sR xs,sR yc_1,sI 2,sI 0,sR dd] [(.ref dd)])) rfl (by rw [hml]; rfl) (argsL := [(.ref dd)]) (rest := []) (lenOf pd_18 rfl) rfl (own_rm rfl) (hb hby d18_33) (fun _ _ => ⟨rfl,eq5,(by decide : 1 + 1 ≤ _),(by decide : 2 + 1 ≤ _)⟩)
  dsimp only [Pt.U, Pt.locs, Pt.cells, Pt.slots] at X6 l6 y6 z6 st6 hQ6
  replace X6 := own_cast X6 l6 y6 z6
  obtain ⟨yo_6,rfl,N6q,K6q,po6_0,po6_1,px6_g_yo,px6_sz_yo⟩ := hQ6
  have N6 := Fr.app N5 N6q
  have f7 := po1_0.keep K6q nin0
  have K6 := Keep.trans K1 K6q all0
  have Z6 := Nat.le_trans Z0 K6.1
  have g_yo_6 := px6_g_yo
  have sz_yo_6 : h0.size ≤ yo_6 := Nat.le_trans (K1).1 px6_sz_yo
  have ne_yc_1_yo_6 : yc_1 ≠ yo_6 := Nat.ne_of_lt (Nat.lt_of_lt_of_le po1_0.lt px6_sz_yo)
  refine gv T6 36 #[sR xs,sR yc_1,sI 2,sI 0,sR dd] [(.ref yo_6)] (fun t k => st6 _ k) ?_
  exact own_ret X6 hx Bd.notSynchronized Bd.returns rfl (Or.inr (Or.inr (Or.inr (Or.inr ⟨rfl,rfl,rfl⟩)))) (hb hby d18_36) rfl ⟨yo_6,rfl,N6,K6,po6_0,po6_1,g_yo_6,sz_yo_6⟩ (by decide) (by decide)
theorem ef_183f (m : MethodId) (xs : Addr) : entryFrame m #[(.ref xs)] 5 = mkF m 0 #[.val (.ref xs), .unset, .unset, .unset, .unset] [] := by first | (simp [entryFrame, mkF, argsToLocals, Value.category]; done) | rfl
def Q183f (Z : State) (xs : Addr) (yV : Addr) (kV : ClassId) (dd : Addr) (mm : Addr) (td : Addr) (bd : Addr) (kd : ClassId) (tm : Addr) (bm : Addr) (km : ClassId) (oe : Addr) (wc : Int32) (yb : Addr) (kb : ClassId) (c0 : Int32) (c1 : Int32) (c2 : Int32) (h0 : Heap) (n0 : Nat) (v : Option Value) (h : Heap) (L : List Loc) : Prop := v = some (.ref oe) ∧ Fr n0 L ∧ Keep h0 h []
set_option maxRecDepth 65536 in
set_option maxHeartbeats 40000000 in
theorem rm183f (l : Launch) (Z : State) (a0 : Array Value) (hw : ∀ d ∈ tables_1, d.before a0 Z = true) (ws : List Jvm.Cond) (xs : Addr) (yV : Addr) (kV : ClassId) (dd : Addr) (mm : Addr) (td : Addr) (bd : Addr) (kd : ClassId) (tm : Addr) (bm : Addr) (km : ClassId) (oe : Addr) (wc : Int32) (yb : Addr) (kb : ClassId) (c0 : Int32) (c1 : Int32) (c2 : Int32) (h0 : Heap) (n0 : Nat) (Z0 : n0 ≤ h0.size) (f0__VALUES : Sta Z h0 "com/example/tallyman/tallyman/ledger/Period" "$VALUES" "[Lcom/example/tallyman/tallyman/ledger/Period;" (.ref yV)) (f1_yV : Arv Z h0 yV kV (.object "com/example/tallyman/tallyman/ledger/Period") (2 : Int32) [(.ref dd), (.ref mm)] .null) (f2_yV : Exa Z h0 yV "[Lcom/example/tallyman/tallyman/ledger/Period;") (f3_dd_text : Fld Z h0 dd "com/example/tallyman/tallyman/ledger/Period" "text" "Ljava/lang/String;" (.ref td)) (f4_td : Exa Z h0 td "java/lang/String") (f5_td_coder : Fld Z h0 td "java/lang/String" "coder" "B" (.int (0 : Int32))) (f6_td_value : Fld Z h0 td "java/lang/String" "value" "[B" (.ref bd)) (f7_bd : Arv Z h0 bd kd .byte (3 : Int32) [(.int (100 : Int32)), (.int (97 : Int32)), (.int (121 : Int32))] (.int (0 : Int32))) (f8_mm_text : Fld Z h0 mm "com/example/tallyman/tallyman/ledger/Period" "text" "Ljava/lang/String;" (.ref tm)) (f9_tm : Exa Z h0 tm "java/lang/String") (f10_tm_coder : Fld Z h0 tm "java/lang/String" "coder" "B" (.int (0 : Int32))) (f11_tm_value : Fld Z h0 tm "java/lang/String" "value" "[B" (.ref bm)) (f12_bm : Arv Z h0 bm km .byte (5 : Int32) [(.int (109 : Int32)), (.int (111 : Int32)), (.int (110 : Int32)), (.int (116 : Int32)), (.int (104 : Int32))] (.int (0 : Int32))) (f13_EMPTY : Sta Z h0 "java/util/Optional" "EMPTY" "Ljava/util/Optional;" (.ref oe)) (f14_COMPACT_STRINGS : Sta Z h0 "java/lang/String" "COMPACT_STRINGS" "Z" (.int wc)) (f15_xs : Exa Z h0 xs "java/lang/String") (f16_xs_coder : Fld Z h0 xs "java/lang/String" "coder" "B" (.int (0 : Int32))) (f17_xs_value : Fld Z h0 xs "java/lang/String" "value" "[B" (.ref yb)) (f18_yb : Arv Z h0 yb kb .byte (3 : Int32) [(.int c0), (.int c1), (.int c2)] (.int (0 : Int32))) (ne_td_xs : td ≠ xs) (ne_tm_xs : tm ≠ xs) (hwc : ¬ wc = (0 : Int32)) (hp : ¬ (((100 : Int32) = c0) ∧ (((97 : Int32) = c1) ∧ ((121 : Int32) = c2)))) :
    MetFree l (⟨"com/example/tallyman/tallyman/ledger/Period", "named", "(Ljava/lang/String;)Ljava/util/Optional;"⟩ : MethodName) (head1 (Jvm.Cond.code (⟨"com/example/tallyman/tallyman/ledger/Period", "named", "(Ljava/lang/String;)Ljava/util/Optional;"⟩ : MethodName) prog_14_method_4_code 5 (some (.object "java/util/Optional")) :: ws) ({ frames := 2, cells := 1, slots := 2, locals := 28 } : Room)) (fun a U => a = #[(.ref xs)] ∧ Z.Warmed39 U.vm ∧ U.heap = h0) (fun _ _ _ _ _ => True) (fun _ U o U' => ∃ v L, o = .returned v ∧ Q183f Z xs yV kV dd mm td bd kd tm bm km oe wc yb kb c0 c1 c2 h0 n0 v U'.heap L ∧ FrameEnd U o U' L 1 2) := by
  refine MetFree.of_bodySF (plainFor_of_name pn_237) hisR ?_
  intro p e s m args below meth c s₁ Bd hml0 hP hK
  obtain ⟨rfl,hZ,hh⟩ := hP
  have hx := Bd.exec
  have hby := Bd.bytes
  have hml : c.maxLocals = 5 := hml0
  have hown : s.vm.findClass "com/example/tallyman/tallyman/ledger/Period" = some m.cls := findClass_of_methodNamed Bd.named
  have hnm := (name_of_methodNamed Bd.named Bd.method).1
  have X0 : Stand p l e ({ frames := 2,cells := 1,slots := 2,locals := 28 } : Room) s m #[(.ref xs)] below meth c s₁ [] 0 0 := Stand.of_body Bd
  have e0 : s₁.heap = h0 := by rw [← hh,Bd.state]; rfl
  have N0 := Fr.nil n0
  refine own_start (Q := fun v h L => Q183f Z xs yV kV dd mm td bd kd tm bm km oe wc yb kb c0 c1 c2 h0 n0 v h L) ?_
  refine gv s₁ 0 #[sR xs,sU,sU,sU,sU] [] (fun t k => castTop (ef_183f m xs) k) ?_
  obtain ⟨_,_,⟨T1,L1,k1,n1⟩,-,X1,⟨Lc1,hQ1,l1,y1,z1⟩,st1⟩ := Jvm.LawKit.callS X0 hx (y := (⟨"com/example/tallyman/tallyman/ledger/Period","values","()[Lcom/example/tallyman/tallyman/ledger/Period;"⟩ : MethodName)) hown (mvT hZ (w_ hw 87 rfl)) (mvT hZ (w_ hw 88 rfl)) (mvT hZ (w_ hw 82 rfl)) (mvT hZ (w_ hw 89 rfl)) (by decide) (backOf (W := 0) (rm19 l Z a0 hw [] yV kV dd mm h0 n0 Z0 f0__VALUES f1_yV f2_yV) hZ (w_ hw 89 rfl) (w_ hw 82 rfl) (by decide) (by decide)) (g := (mkF m 0 #[sR xs,sU,sU,sU,sU] [])) rfl (by rw [hml]; rfl) (argsL := []) (rest := []) (lenOf pd_15 rfl) rfl (own_rm rfl) (hb hby d18_0) (fun _ _ => ⟨rfl,e0,(by decide : 0 + 1 ≤ _),(by decide : 0 + 2 ≤ _)⟩)
  dsimp only [Pt.U, Pt.locs, Pt.cells, Pt.slots] at X1 l1 y1 z1 st1 hQ1
  replace X1 := own_cast X1 l1 y1 z1
  obtain ⟨yc_1,rfl,N1q,K1q,po1_0,px1_g_yc,px1_sz_yc⟩ := hQ1
  have N1 := Fr.app N0 N1q
  have K1 := Keep.trans (Keep.refl h0 []) K1q all0
  have Z1 := Nat.le_trans Z0 K1.1
  have g_yc_1 := px1_g_yc
  have sz_yc_1 : h0.size ≤ yc_1 := Nat.le_trans ((Keep.refl h0 [])).1 px1_sz_yc
  refine gv T1 3 #[sR xs,sU,sU,sU,sU] [(.ref yc_1)] (fun t k => st1 _ k) ?_
  refine gv T1 4 #[sR xs,sR yc_1,sU,sU,sU] [] (fun t k => XS.astoreN X1.here hx rfl (hb hby d18_3) rfl rfl (l' := #[sR xs,sR yc_1,sU,sU,sU]) rfl k) ?_
  refine gv T1 5 #[sR xs,sR yc_1,sU,sU,sU] [(.ref yc_1)] (fun t k => XS.aloadN X1.here hx rfl (hb hby d18_4) rfl rfl k) ?_
  obtain ⟨cl2,Ar2,q2,S2,M2,Hs2,G2⟩ := id po1_0
  refine gv T1 6 #[sR xs,sR yc_1,sU,sU,sU] [(.int 2)] (fun t k => X1.arraylength hx Ar2.1 (State.isArrayOf_alike hZ.alike Ar2.2.1) (g := (mkF m 5 #[sR xs,sR yc_1,sU,sU,sU] [(.ref yc_1)])) rfl rfl (hb hby d18_5) _ (by rw [len_of S2 M2]; exact k)) ?_
  refine gv T1 7 #[sR xs,sR yc_1,sI 2,sU,sU] [] (fun t k => XS.istoreN X1.here hx rfl (hb hby d18_6) rfl (l' := #[sR xs,sR yc_1,sI 2,sU,sU]) rfl k) ?_
  refine gv T1 8 #[sR xs,sR yc_1,sI 2,sU,sU] [(.int 0)] (fun t k => XS.iconst X1.here hx rfl (hb hby d18_7) k) ?_
  refine gv T1 9 #[sR xs,sR yc_1,sI 2,sI 0,sU] [] (fun t k => XS.istoreN X1.here hx rfl (hb hby d18_8) rfl (l' := #[sR xs,sR yc_1,sI 2,sI 0,sU]) rfl k) ?_
  refine gv T1 10 #[sR xs,sR yc_1,sI 2,sI 0,sU] [(.int 0)] (fun t k => XS.iloadN X1.here hx rfl (hb hby d18_9) rfl k) ?_
  refine gv T1 11 #[sR xs,sR yc_1,sI 2,sI 0,sU] [(.int 2),(.int 0)] (fun t k => XS.iloadN X1.here hx rfl (hb hby d18_10) rfl k) ?_
  refine gv T1 14 #[sR xs,sR yc_1,sI 2,sI 0,sU] [] (fun t k => XS.icmpNo X1.here hx rfl (hb hby d18_11) rfl (tlt (by decide : ((0 : Int32) < (2 : Int32)))).2.1 k) ?_
  refine gv T1 15 #[sR xs,sR yc_1,sI 2,sI 0,sU] [(.ref yc_1)] (fun t k => XS.aloadN X1.here hx rfl (hb hby d18_14) rfl rfl k) ?_
  refine gv T1 16 #[sR xs,sR yc_1,sI 2,sI 0,sU] [(.int 0),(.ref yc_1)] (fun t k => XS.iloadN X1.here hx rfl (hb hby d18_15) rfl k) ?_
  obtain ⟨cl3,Ar3,q3,S3,M3,Hs3,G3⟩ := id po1_0
  have hin3 : ¬ ((0 : Int32) < 0 ∨ cl3.slots.size ≤ ((0 : Int32)).toNatClampNeg) := inb_of S3 ⟨by decide,by decide⟩
  have hat3 : cl3.slots[((0 : Int32)).toNatClampNeg]? = some (.ref dd) := Has.at Hs3 hin3 rfl
  refine gv T1 17 #[sR xs,sR yc_1,sI 2,sI 0,sU] [(.ref dd)] (fun t k => X1.aaload hx (j := (0 : Int32)) (v := (.ref dd)) Ar3.1 (State.isArrayOf_alike hZ.alike Ar3.2.1) rfl Ar3.2.2 hin3 hat3 (g := (mkF m 16 #[sR xs,sR yc_1,sI 2,sI 0,sU] [(.int 0),(.ref yc_1)])) rfl rfl (hb hby d18_16) _ k) ?_
  refine gv T1 19 #[sR xs,sR yc_1,sI 2,sI 0,sR dd] [] (fun t k => XS.astore X1.here hx rfl (hb hby d18_17) rfl rfl (l' := #[sR xs,sR yc_1,sI 2,sI 0,sR dd]) rfl k) ?_
  refine gv T1 21 #[sR xs,sR yc_1,sI 2,sI 0,sR dd] [(.ref dd)] (fun t k => XS.aload X1.here hx rfl (hb hby d18_19) rfl rfl k) ?_
  obtain ⟨T4,X4,e4,st4⟩ := getF X1 hx hZ hown (host := "") (Or.inl (w_ hw 103 rfl)) Via.refl rfl (f3_dd_text.keep K1 nin0) (g := (mkF m 21 #[sR xs,sR yc_1,sI 2,sI 0,sR dd] [(.ref dd)])) rfl rfl (hb hby d18_21)
  refine gv T4 24 #[sR xs,sR yc_1,sI 2,sI 0,sR dd] [(.ref td)] (fun t k => st4 _ k) ?_
  refine gv T4 25 #[sR xs,sR yc_1,sI 2,sI 0,sR dd] [(.ref xs),(.ref td)] (fun t k => XS.aloadN X4.here hx rfl (hb hby d18_24) rfl rfl k) ?_
  obtain ⟨cq5,kq5,q5a,q5b,q5c⟩ := isOf hZ e4 (f4_td.keep K1)
  obtain ⟨_,_,⟨T5,L5,k5,n5⟩,-,X5,⟨Lc5,hQ5,l5,y5,z5⟩,st5⟩ := X4.virtualBack hx (y := (⟨"java/lang/String","equals","(Ljava/lang/Object;)Z"⟩ : MethodName)) (z := (⟨"java/lang/String","equals","(Ljava/lang/Object;)Z"⟩ : MethodName)) hown (mvT hZ (w_ hw 105 rfl)) (mvT hZ (w_ hw 73 rfl)) (notFace_of_selects (args := #[]) (mvT hZ (w_ hw 75 rfl))) (mvT hZ (w_ hw 75 rfl)) (mvT hZ (w_ hw 74 rfl)) (by decide) (backOf (W := 0) (rm163 l Z a0 hw [] td xs bd yb kd kb wc (100 : Int32) (97 : Int32) (121 : Int32) c0 c1 c2 T1.heap n0 Z1 (f4_td.keep K1) (f5_td_coder.keep K1 nin0) (f6_td_value.keep K1 nin0) (f7_bd.keep K1 nin0) (f15_xs.keep K1) (f16_xs_coder.keep K1 nin0) (f17_xs_value.keep K1 nin0) (f18_yb.keep K1 nin0) (own_staKeep f14_COMPACT_STRINGS K1 all0) ne_td_xs hwc) hZ (w_ hw 76 rfl) (w_ hw 8 rfl) (by decide) (by decide)) q5a q5c (g := (mkF m 25 #[sR xs,sR yc_1,sI 2,sI 0,sR dd] [(.ref xs),(.ref td)])) rfl (by rw [hml]; rfl) (Steps.refl _) (argsL := [(.ref xs)]) (rest := []) (lenOf pd_16 rfl) rfl (own_rm rfl) (hb hby d18_25) (fun _ _ => ⟨rfl,e4,(by decide : 1 + 0 ≤ _),(by decide : 2 + 0 ≤ _)⟩)
  dsimp only [Pt.U, Pt.locs, Pt.cells, Pt.slots] at X5 l5 y5 z5 st5 hQ5
  replace X5 := own_cast X5 l5 y5 z5
  obtain ⟨r5,rfl,hr5,N5q,eq5⟩ := hQ5
  have N5 := Fr.app N1 N5q
  refine gv T5 28 #[sR xs,sR yc_1,sI 2,sI 0,sR dd] [(.int r5)] (fun t k => st5.trans k) ?_
  refine gv T5 37 #[sR xs,sR yc_1,sI 2,sI 0,sR dd] [] (fun t k => XS.ifYes X5.here hx rfl (pc0 := 28) (pc' := 37) rfl (hb hby d18_28) rfl ((if0 _ _).trans (teq (own_b0 hr5 hp)).1) (by decide) (by decide) k) ?_
  refine gv T5 40 #[sR xs,sR yc_1,sI 2,sI 1,sR dd] [] (fun t k => XS.iinc X5.here hx rfl (hb hby d18_37) rfl (l' := #[sR xs,sR yc_1,sI 2,sI 1,sR dd]) rfl k) ?_
  refine gv T5 9 #[sR xs,sR yc_1,sI 2,sI 1,sR dd] [] (fun t k => XS.goto X5.here hx rfl (pc0 := 40) (pc' := 9) rfl (hb hby d18_40) (by decide) (by decide) k) ?_
  refine gv T5 10 #[sR xs,sR yc_1,sI 2,sI 1,sR dd] [(.int 1)] (fun t k => XS.iloadN X5.here hx rfl (hb hby d18_9) rfl k) ?_
  refine gv T5 11 #[sR xs,sR yc_1,sI 2,sI 1,sR dd] [(.int 2),(.int 1)] (fun t k => XS.iloadN X5.here hx rfl (hb hby d18_10) rfl k) ?_
  refine gv T5 14 #[sR xs,sR yc_1,sI 2,sI 1,sR dd] [] (fun t k => XS.icmpNo X5.here hx rfl (hb hby d18_11) rfl (tlt (by decide : ((1 : Int32) < (2 : Int32)))).2.1 k) ?_
  refine gv T5 15 #[sR xs,sR yc_1,sI 2,sI 1,sR dd] [(.ref yc_1)] (fun t k => XS.aloadN X5.here hx rfl (hb hby d18_14) rfl rfl k) ?_
  refine gv T5 16 #[sR xs,sR yc_1,sI 2,sI 1,sR dd] [(.int 1),(.ref yc_1)] (fun t k => XS.iloadN X5.here hx rfl (hb hby d18_15) rfl k) ?_
  obtain ⟨cl6,Ar6,q6,S6,M6,Hs6,G6⟩ := id po1_0
  have hin6 : ¬ ((1 : Int32) < 0 ∨ cl6.slots.size ≤ ((1 : Int32)).toNatClampNeg) := inb_of S6 ⟨by decide,by decide⟩
  have hat6 : cl6.slots[((1 : Int32)).toNatClampNeg]? = some (.ref mm) := Has.at Hs6 hin6 rfl
  refine gv T5 17 #[sR xs,sR yc_1,sI 2,sI 1,sR dd] [(.ref mm)] (fun t k => X5.aaload hx (j := (1 : Int32)) (v := (.ref mm)) (by rw [eq5]; exact Ar6.1) (State.isArrayOf_alike hZ.alike Ar6.2.1) rfl Ar6.2.2 hin6 hat6 (g := (mkF m 16 #[sR xs,sR yc_1,sI 2,sI 1,sR dd] [(.int 1),(.ref yc_1)])) rfl rfl (hb hby d18_16) _ k) ?_
  refine gv T5 19 #[sR xs,sR yc_1,sI 2,sI 1,sR mm] [] (fun t k => XS.astore X5.here hx rfl (hb hby d18_17) rfl rfl (l' := #[sR xs,sR yc_1,sI 2,sI 1,sR mm]) rfl k) ?_
  refine gv T5 21 #[sR xs,sR yc_1,sI 2,sI 1,sR mm] [(.ref mm)] (fun t k => XS.aload X5.here hx rfl (hb hby d18_19) rfl rfl k) ?_
  obtain ⟨T7,X7,e7,st7⟩ := getF X5 hx hZ hown (host := "") (Or.inl (w_ hw 103 rfl)) Via.refl eq5 (f8_mm_text.keep K1 nin0) (g := (mkF m 21 #[sR xs,sR yc_1,sI 2,sI 1,sR mm] [(.ref mm)])) rfl rfl (hb hby d18_21)
  refine gv T7 24 #[sR xs,sR yc_1,sI 2,sI 1,sR mm] [(.ref tm)] (fun t k => st7 _ k) ?_
  refine gv T7 25 #[sR xs,sR yc_1,sI 2,sI 1,sR mm] [(.ref xs),(.ref tm)] (fun t k => XS.aloadN X7.here hx rfl (hb hby d18_24) rfl rfl k) ?_
  obtain ⟨cq8,kq8,q8a,q8b,q8c⟩ := isOf hZ e7 (f9_tm.keep K1)
  obtain ⟨_,_,⟨T8,L8,k8,n8⟩,-,X8,⟨Lc8,hQ8,l8,y8,z8⟩,st8⟩ := X7.virtualBack hx (y := (⟨"java/lang/String","equals","(Ljava/lang/Object;)Z"⟩ : MethodName)) (z := (⟨"java/lang/String","equals","(Ljava/lang/Object;)Z"⟩ : MethodName)) hown (mvT hZ (w_ hw 105 rfl)) (mvT hZ (w_ hw 73 rfl)) (notFace_of_selects (args := #[]) (mvT hZ (w_ hw 75 rfl))) (mvT hZ (w_ hw 75 rfl)) (mvT hZ (w_ hw 74 rfl)) (by decide) (backOf (W := 0) (rm16x l Z a0 hw [] tm xs bm yb km kb (5 : Int32) (3 : Int32) ([(.int 109),(.int 111),(.int 110),(.int 116),(.int 104)] : List Value) ([(.int c0),(.int c1),(.int c2)] : List Value) wc T1.heap n0 Z1 (f9_tm.keep K1) (f10_tm_coder.keep K1 nin0) (f11_tm_value.keep K1 nin0) (f12_bm.keep K1 nin0) (f15_xs.keep K1) (f16_xs_coder.keep K1 nin0) (f17_xs_value.keep K1 nin0) (f18_yb.keep K1 nin0) (own_staKeep f14_COMPACT_STRINGS K1 all0) ne_tm_xs (by decide) hwc) hZ (w_ hw 76 rfl) (w_ hw 8 rfl) (by decide) (by decide)) q8a q8c (g := (mkF m 25 #[sR xs,sR yc_1,sI 2,sI 1,sR mm] [(.ref xs),(.ref tm)])) rfl (by rw [hml]; rfl) (Steps.refl _) (argsL := [(.ref xs)]) (rest := []) (lenOf pd_16 rfl) rfl (own_rm rfl) (hb hby d18_25) (fun _ _ => ⟨rfl,e7,(by decide : 1 + 0 ≤ _),(by decide : 2 + 0 ≤ _)⟩)
  dsimp only [Pt.U, Pt.locs, Pt.cells, Pt.slots] at X8 l8 y8 z8 st8 hQ8
  replace X8 := own_cast X8 l8 y8 z8
  obtain ⟨rfl,N8q,eq8⟩ := hQ8
  have N8 := Fr.app N5 N8q
  refine gv T8 28 #[sR xs,sR yc_1,sI 2,sI 1,sR mm] [(.int 0)] (fun t k => st8.trans k) ?_
  refine gv T8 37 #[sR xs,sR yc_1,sI 2,sI 1,sR mm] [] (fun t k => XS.ifYes X8.here hx rfl (pc0 := 28) (pc' := 37) rfl (hb hby d18_28) rfl ((if0 _ _).trans (teq rfl).1) (by decide) (by decide) k) ?_
  refine gv T8 40 #[sR xs,sR yc_1,sI 2,sI 2,sR mm] [] (fun t k => XS.iinc X8.here hx rfl (hb hby d18_37) rfl (l' := #[sR xs,sR yc_1,sI 2,sI 2,sR mm]) rfl k) ?_
  refine gv T8 9 #[sR xs,sR yc_1,sI 2,sI 2,sR mm] [] (fun t k => XS.goto X8.here hx rfl (pc0 := 40) (pc' := 9) rfl (hb hby d18_40) (by decide) (by decide) k) ?_
  refine gv T8 10 #[sR xs,sR yc_1,sI 2,sI 2,sR mm] [(.int 2)] (fun t k => XS.iloadN X8.here hx rfl (hb hby d18_9) rfl k) ?_
  refine gv T8 11 #[sR xs,sR yc_1,sI 2,sI 2,sR mm] [(.int 2),(.int 2)] (fun t k => XS.iloadN X8.here hx rfl (hb hby d18_10) rfl k) ?_
  refine gv T8 43 #[sR xs,sR yc_1,sI 2,sI 2,sR mm] [] (fun t k => XS.icmpYes X8.here hx rfl (pc0 := 11) (pc' := 43) rfl (hb hby d18_11) rfl (flt (by decide : ¬ ((2 : Int32) < (2 : Int32)))).2.1 (by decide) (by decide) k) ?_
  obtain ⟨_,_,⟨T9,L9,k9,n9⟩,-,X9,⟨Lc9,hQ9,l9,y9,z9⟩,st9⟩ := Jvm.LawKit.callS X8 hx (y := (⟨"java/util/Optional","empty","()Ljava/util/Optional;"⟩ : MethodName)) hown (mvT hZ (w_ hw 131 rfl)) (mvT hZ (w_ hw 132 rfl)) (mvT hZ (w_ hw 108 rfl)) (mvT hZ (w_ hw 133 rfl)) (by decide) (backOf (W := 0) (rm24 l Z a0 hw [] oe T1.heap n0 Z1 (own_staKeep f13_EMPTY K1 all0)) hZ (w_ hw 133 rfl) (w_ hw 108 rfl) (by decide) (by decide)) (g := (mkF m 43 #[sR xs,sR yc_1,sI 2,sI 2,sR mm] [])) rfl (by rw [hml]; rfl) (argsL := []) (rest := []) (lenOf pd_17 rfl) rfl (own_rm rfl) (hb hby d18_43) (fun _ _ => ⟨rfl,eq8,(by decide : 1 + 0 ≤ _),(by decide : 2 + 0 ≤ _)⟩)
  dsimp only [Pt.U, Pt.locs, Pt.cells, Pt.slots] at X9 l9 y9 z9 st9 hQ9
  replace X9 := own_cast X9 l9 y9 z9
  obtain ⟨rfl,N9q,eq9⟩ := hQ9
  have N9 := Fr.app N8 N9q
  refine gv T9 46 #[sR xs,sR yc_1,sI 2,sI 2,sR mm] [(.ref oe)] (fun t k => st9 _ k) ?_
  exact own_ret X9 hx Bd.notSynchronized Bd.returns rfl (Or.inr (Or.inr (Or.inr (Or.inr ⟨rfl,rfl,rfl⟩)))) (hb hby d18_46) eq9 ⟨rfl,N9,K1⟩ (by decide) (by decide)
theorem ef_185t (m : MethodId) (xs : Addr) : entryFrame m #[(.ref xs)] 5 = mkF m 0 #[.val (.ref xs), .unset, .unset, .unset, .unset] [] := by first | (simp [entryFrame, mkF, argsToLocals, Value.category]; done) | rfl
def Q185t (Z : State) (xs : Addr) (yV : Addr) (kV : ClassId) (dd : Addr) (mm : Addr) (td : Addr) (bd : Addr) (kd : ClassId) (tm : Addr) (bm : Addr) (km : ClassId) (oe : Addr) (wc : Int32) (yb : Addr) (kb : ClassId) (c0 : Int32) (c1 : Int32) (c2 : Int32) (c3 : Int32) (c4 : Int32) (h0 : Heap) (n0 : Nat) (v : Option Value) (h : Heap) (L : List Loc) : Prop := ∃ (yo : Addr), v = some (.ref yo) ∧ Fr n0 L ∧ Keep h0 h [] ∧ Exa Z h yo "java/util/Optional" ∧ Fld Z h yo "java/util/Optional" "value" "Ljava/lang/Object;" (.ref mm) ∧ n0 ≤ yo ∧ h0.size ≤ yo
set_option maxRecDepth 65536 in
set_option maxHeartbeats 40000000 in
theorem rm185t (l : Launch) (Z : State) (a0 : Array Value) (hw : ∀ d ∈ tables_1, d.before a0 Z = true) (ws : List Jvm.Cond) (xs : Addr) (yV : Addr) (kV : ClassId) (dd : Addr) (mm : Addr) (td : Addr) (bd : Addr) (kd : ClassId) (tm : Addr) (bm : Addr) (km : ClassId) (oe : Addr) (wc : Int32) (yb : Addr) (kb : ClassId) (c0 : Int32) (c1 : Int32) (c2 : Int32) (c3 : Int32) (c4 : Int32) (h0 : Heap) (n0 : Nat) (Z0 : n0 ≤ h0.size) (f0__VALUES : Sta Z h0 "com/example/tallyman/tallyman/ledger/Period" "$VALUES" "[Lcom/example/tallyman/tallyman/ledger/Period;" (.ref yV)) (f1_yV : Arv Z h0 yV kV (.object "com/example/tallyman/tallyman/ledger/Period") (2 : Int32) [(.ref dd), (.ref mm)] .null) (f2_yV : Exa Z h0 yV "[Lcom/example/tallyman/tallyman/ledger/Period;") (f3_dd_text : Fld Z h0 dd "com/example/tallyman/tallyman/ledger/Period" "text" "Ljava/lang/String;" (.ref td)) (f4_td : Exa Z h0 td "java/lang/String") (f5_td_coder : Fld Z h0 td "java/lang/String" "coder" "B" (.int (0 : Int32))) (f6_td_value : Fld Z h0 td "java/lang/String" "value" "[B" (.ref bd)) (f7_bd : Arv Z h0 bd kd .byte (3 : Int32) [(.int (100 : Int32)), (.int (97 : Int32)), (.int (121 : Int32))] (.int (0 : Int32))) (f8_mm_text : Fld Z h0 mm "com/example/tallyman/tallyman/ledger/Period" "text" "Ljava/lang/String;" (.ref tm)) (f9_tm : Exa Z h0 tm "java/lang/String") (f10_tm_coder : Fld Z h0 tm "java/lang/String" "coder" "B" (.int (0 : Int32))) (f11_tm_value : Fld Z h0 tm "java/lang/String" "value" "[B" (.ref bm)) (f12_bm : Arv Z h0 bm km .byte (5 : Int32) [(.int (109 : Int32)), (.int (111 : Int32)), (.int (110 : Int32)), (.int (116 : Int32)), (.int (104 : Int32))] (.int (0 : Int32))) (f13_EMPTY : Sta Z h0 "java/util/Optional" "EMPTY" "Ljava/util/Optional;" (.ref oe)) (f14_COMPACT_STRINGS : Sta Z h0 "java/lang/String" "COMPACT_STRINGS" "Z" (.int wc)) (f15_xs : Exa Z h0 xs "java/lang/String") (f16_xs_coder : Fld Z h0 xs "java/lang/String" "coder" "B" (.int (0 : Int32))) (f17_xs_value : Fld Z h0 xs "java/lang/String" "value" "[B" (.ref yb)) (f18_yb : Arv Z h0 yb kb .byte (5 : Int32) [(.int c0), (.int c1), (.int c2), (.int c3), (.int c4)] (.int (0 : Int32))) (ne_td_xs : td ≠ xs) (ne_tm_xs : tm ≠ xs) (hwc : ¬ wc = (0 : Int32)) (hp : (((109 : Int32) = c0) ∧ (((111 : Int32) = c1) ∧ (((110 : Int32) = c2) ∧ (((116 : Int32) = c3) ∧ ((104 : Int32) = c4)))))) :
    MetFree l (⟨"com/example/tallyman/tallyman/ledger/Period", "named", "(Ljava/lang/String;)Ljava/util/Optional;"⟩ : MethodName) (head1 (Jvm.Cond.code (⟨"com/example/tallyman/tallyman/ledger/Period", "named", "(Ljava/lang/String;)Ljava/util/Optional;"⟩ : MethodName) prog_14_method_4_code 5 (some (.object "java/util/Optional")) :: ws) ({ frames := 3, cells := 2, slots := 3, locals := 38 } : Room)) (fun a U => a = #[(.ref xs)] ∧ Z.Warmed39 U.vm ∧ U.heap = h0) (fun _ _ _ _ _ => True) (fun _ U o U' => ∃ v L, o = .returned v ∧ Q185t Z xs yV kV dd mm td bd kd tm bm km oe wc yb kb c0 c1 c2 c3 c4 h0 n0 v U'.heap L ∧ FrameEnd U o U' L 2 3) := by
  refine MetFree.of_bodySF (plainFor_of_name pn_237) hisR ?_
  intro p e s m args below meth c s₁ Bd hml0 hP hK
  obtain ⟨rfl,hZ,hh⟩ := hP
  have hx := Bd.exec
  have hby := Bd.bytes
  have hml : c.maxLocals = 5 := hml0
  have hown : s.vm.findClass "com/example/tallyman/tallyman/ledger/Period" = some m.cls := findClass_of_methodNamed Bd.named
  have hnm := (name_of_methodNamed Bd.named Bd.method).1
  have X0 : Stand p l e ({ frames := 3,cells := 2,slots := 3,locals := 38 } : Room) s m #[(.ref xs)] below meth c s₁ [] 0 0 := Stand.of_body Bd
  have e0 : s₁.heap = h0 := by rw [← hh,Bd.state]; rfl
  have N0 := Fr.nil n0
  refine own_start (Q := fun v h L => Q185t Z xs yV kV dd mm td bd kd tm bm km oe wc yb kb c0 c1 c2 c3 c4 h0 n0 v h L) ?_
  refine gv s₁ 0 #[sR xs,sU,sU,sU,sU] [] (fun t k => castTop (ef_185t m xs) k) ?_
  obtain ⟨_,_,⟨T1,L1,k1,n1⟩,-,X1,⟨Lc1,hQ1,l1,y1,z1⟩,st1⟩ := Jvm.LawKit.callS X0 hx (y := (⟨"com/example/tallyman/tallyman/ledger/Period","values","()[Lcom/example/tallyman/tallyman/ledger/Period;"⟩ : MethodName)) hown (mvT hZ (w_ hw 87 rfl)) (mvT hZ (w_ hw 88 rfl)) (mvT hZ (w_ hw 82 rfl)) (mvT hZ (w_ hw 89 rfl)) (by decide) (backOf (W := 0) (rm19 l Z a0 hw [] yV kV dd mm h0 n0 Z0 f0__VALUES f1_yV f2_yV) hZ (w_ hw 89 rfl) (w_ hw 82 rfl) (by decide) (by decide)) (g := (mkF m 0 #[sR xs,sU,sU,sU,sU] [])) rfl (by rw [hml]; rfl) (argsL := []) (rest := []) (lenOf pd_15 rfl) rfl (own_rm rfl) (hb hby d18_0) (fun _ _ => ⟨rfl,e0,(by decide : 0 + 1 ≤ _),(by decide : 0 + 2 ≤ _)⟩)
  dsimp only [Pt.U, Pt.locs, Pt.cells, Pt.slots] at X1 l1 y1 z1 st1 hQ1
  replace X1 := own_cast X1 l1 y1 z1
  obtain ⟨yc_1,rfl,N1q,K1q,po1_0,px1_g_yc,px1_sz_yc⟩ := hQ1
  have N1 := Fr.app N0 N1q
  have K1 := Keep.trans (Keep.refl h0 []) K1q all0
  have Z1 := Nat.le_trans Z0 K1.1
  have g_yc_1 := px1_g_yc
  have sz_yc_1 : h0.size ≤ yc_1 := Nat.le_trans ((Keep.refl h0 [])).1 px1_sz_yc
  refine gv T1 3 #[sR xs,sU,sU,sU,sU] [(.ref yc_1)] (fun t k => st1 _ k) ?_
  refine gv T1 4 #[sR xs,sR yc_1,sU,sU,sU] [] (fun t k => XS.astoreN X1.here hx rfl (hb hby d18_3) rfl rfl (l' := #[sR xs,sR yc_1,sU,sU,sU]) rfl k) ?_
  refine gv T1 5 #[sR xs,sR yc_1,sU,sU,sU] [(.ref yc_1)] (fun t k => XS.aloadN X1.here hx rfl (hb hby d18_4) rfl rfl k) ?_
  obtain ⟨cl2,Ar2,q2,S2,M2,Hs2,G2⟩ := id po1_0
  refine gv T1 6 #[sR xs,sR yc_1,sU,sU,sU] [(.int 2)] (fun t k => X1.arraylength hx Ar2.1 (State.isArrayOf_alike hZ.alike Ar2.2.1) (g := (mkF m 5 #[sR xs,sR yc_1,sU,sU,sU] [(.ref yc_1)])) rfl rfl (hb hby d18_5) _ (by rw [len_of S2 M2]; exact k)) ?_
  refine gv T1 7 #[sR xs,sR yc_1,sI 2,sU,sU] [] (fun t k => XS.istoreN X1.here hx rfl (hb hby d18_6) rfl (l' := #[sR xs,sR yc_1,sI 2,sU,sU]) rfl k) ?_
  refine gv T1 8 #[sR xs,sR yc_1,sI 2,sU,sU] [(.int 0)] (fun t k => XS.iconst X1.here hx rfl (hb hby d18_7) k) ?_
  refine gv T1 9 #[sR xs,sR yc_1,sI 2,sI 0,sU] [] (fun t k => XS.istoreN X1.here hx rfl (hb hby d18_8) rfl (l' := #[sR xs,sR yc_1,sI 2,sI 0,sU]) rfl k) ?_
  refine gv T1 10 #[sR xs,sR yc_1,sI 2,sI 0,sU] [(.int 0)] (fun t k => XS.iloadN X1.here hx rfl (hb hby d18_9) rfl k) ?_
  refine gv T1 11 #[sR xs,sR yc_1,sI 2,sI 0,sU] [(.int 2),(.int 0)] (fun t k => XS.iloadN X1.here hx rfl (hb hby d18_10) rfl k) ?_
  refine gv T1 14 #[sR xs,sR yc_1,sI 2,sI 0,sU] [] (fun t k => XS.icmpNo X1.here hx rfl (hb hby d18_11) rfl (tlt (by decide : ((0 : Int32) < (2 : Int32)))).2.1 k) ?_
  refine gv T1 15 #[sR xs,sR yc_1,sI 2,sI 0,sU] [(.ref yc_1)] (fun t k => XS.aloadN X1.here hx rfl (hb hby d18_14) rfl rfl k) ?_
  refine gv T1 16 #[sR xs,sR yc_1,sI 2,sI 0,sU] [(.int 0),(.ref yc_1)] (fun t k => XS.iloadN X1.here hx rfl (hb hby d18_15) rfl k) ?_
  obtain ⟨cl3,Ar3,q3,S3,M3,Hs3,G3⟩ := id po1_0
  have hin3 : ¬ ((0 : Int32) < 0 ∨ cl3.slots.size ≤ ((0 : Int32)).toNatClampNeg) := inb_of S3 ⟨by decide,by decide⟩
  have hat3 : cl3.slots[((0 : Int32)).toNatClampNeg]? = some (.ref dd) := Has.at Hs3 hin3 rfl
  refine gv T1 17 #[sR xs,sR yc_1,sI 2,sI 0,sU] [(.ref dd)] (fun t k => X1.aaload hx (j := (0 : Int32)) (v := (.ref dd)) Ar3.1 (State.isArrayOf_alike hZ.alike Ar3.2.1) rfl Ar3.2.2 hin3 hat3 (g := (mkF m 16 #[sR xs,sR yc_1,sI 2,sI 0,sU] [(.int 0),(.ref yc_1)])) rfl rfl (hb hby d18_16) _ k) ?_
  refine gv T1 19 #[sR xs,sR yc_1,sI 2,sI 0,sR dd] [] (fun t k => XS.astore X1.here hx rfl (hb hby d18_17) rfl rfl (l' := #[sR xs,sR yc_1,sI 2,sI 0,sR dd]) rfl k) ?_
  refine gv T1 21 #[sR xs,sR yc_1,sI 2,sI 0,sR dd] [(.ref dd)] (fun t k => XS.aload X1.here hx rfl (hb hby d18_19) rfl rfl k) ?_
  obtain ⟨T4,X4,e4,st4⟩ := getF X1 hx hZ hown (host := "") (Or.inl (w_ hw 103 rfl)) Via.refl rfl (f3_dd_text.keep K1 nin0) (g := (mkF m 21 #[sR xs,sR yc_1,sI 2,sI 0,sR dd] [(.ref dd)])) rfl rfl (hb hby d18_21)
  refine gv T4 24 #[sR xs,sR yc_1,sI 2,sI 0,sR dd] [(.ref td)] (fun t k => st4 _ k) ?_
  refine gv T4 25 #[sR xs,sR yc_1,sI 2,sI 0,sR dd] [(.ref xs),(.ref td)] (fun t k => XS.aloadN X4.here hx rfl (hb hby d18_24) rfl rfl k) ?_
  obtain ⟨cq5,kq5,q5a,q5b,q5c⟩ := isOf hZ e4 (f4_td.keep K1)
  obtain ⟨_,_,⟨T5,L5,k5,n5⟩,-,X5,⟨Lc5,hQ5,l5,y5,z5⟩,st5⟩ := X4.virtualBack hx (y := (⟨"java/lang/String","equals","(Ljava/lang/Object;)Z"⟩ : MethodName)) (z := (⟨"java/lang/String","equals","(Ljava/lang/Object;)Z"⟩ : MethodName)) hown (mvT hZ (w_ hw 105 rfl)) (mvT hZ (w_ hw 73 rfl)) (notFace_of_selects (args := #[]) (mvT hZ (w_ hw 75 rfl))) (mvT hZ (w_ hw 75 rfl)) (mvT hZ (w_ hw 74 rfl)) (by decide) (backOf (W := 0) (rm16x l Z a0 hw [] td xs bd yb kd kb (3 : Int32) (5 : Int32) ([(.int 100),(.int 97),(.int 121)] : List Value) ([(.int c0),(.int c1),(.int c2),(.int c3),(.int c4)] : List Value) wc T1.heap n0 Z1 (f4_td.keep K1) (f5_td_coder.keep K1 nin0) (f6_td_value.keep K1 nin0) (f7_bd.keep K1 nin0) (f15_xs.keep K1) (f16_xs_coder.keep K1 nin0) (f17_xs_value.keep K1 nin0) (f18_yb.keep K1 nin0) (own_staKeep f14_COMPACT_STRINGS K1 all0) ne_td_xs (by decide) hwc) hZ (w_ hw 76 rfl) (w_ hw 8 rfl) (by decide) (by decide)) q5a q5c (g := (mkF m 25 #[sR xs,sR yc_1,sI 2,sI 0,sR dd] [(.ref xs),(.ref td)])) rfl (by rw [hml]; rfl) (Steps.refl _) (argsL := [(.ref xs)]) (rest := []) (lenOf pd_16 rfl) rfl (own_rm rfl) (hb hby d18_25) (fun _ _ => ⟨rfl,e4,(by decide : 1 + 0 ≤ _),(by decide : 2 + 0 ≤ _)⟩)
  dsimp only [Pt.U, Pt.locs, Pt.cells, Pt.slots] at X5 l5 y5 z5 st5 hQ5
  replace X5 := own_cast X5 l5 y5 z5
  obtain ⟨rfl,N5q,eq5⟩ := hQ5
  have N5 := Fr.app N1 N5q
  refine gv T5 28 #[sR xs,sR yc_1,sI 2,sI 0,sR dd] [(.int 0)] (fun t k => st5.trans k) ?_
  refine gv T5 37 #[sR xs,sR yc_1,sI 2,sI 0,sR dd] [] (fun t k => XS.ifYes X5.here hx rfl (pc0 := 28) (pc' := 37) rfl (hb hby d18_28) rfl ((if0 _ _).trans (teq rfl).1) (by decide) (by decide) k) ?_
  refine gv T5 40 #[sR xs,sR yc_1,sI 2,sI 1,sR dd] [] (fun t k => XS.iinc X5.here hx rfl (hb hby d18_37) rfl (l' := #[sR xs,sR yc_1,sI 2,sI 1,sR dd]) rfl k) ?_
  refine gv T5 9 #[sR xs,sR yc_1,sI 2,sI 1,sR dd] [] (fun t k => XS.goto X5.here hx rfl (pc0 := 40) (pc' := 9) rfl (hb hby d18_40) (by decide) (by decide) k) ?_
  refine gv T5 10 #[sR xs,sR yc_1,sI 2,sI 1,sR dd] [(.int 1)] (fun t k => XS.iloadN X5.here hx rfl (hb hby d18_9) rfl k) ?_
  refine gv T5 11 #[sR xs,sR yc_1,sI 2,sI 1,sR dd] [(.int 2),(.int 1)] (fun t k => XS.iloadN X5.here hx rfl (hb hby d18_10) rfl k) ?_
  refine gv T5 14 #[sR xs,sR yc_1,sI 2,sI 1,sR dd] [] (fun t k => XS.icmpNo X5.here hx rfl (hb hby d18_11) rfl (tlt (by decide : ((1 : Int32) < (2 : Int32)))).2.1 k) ?_
  refine gv T5 15 #[sR xs,sR yc_1,sI 2,sI 1,sR dd] [(.ref yc_1)] (fun t k => XS.aloadN X5.here hx rfl (hb hby d18_14) rfl rfl k) ?_
  refine gv T5 16 #[sR xs,sR yc_1,sI 2,sI 1,sR dd] [(.int 1),(.ref yc_1)] (fun t k => XS.iloadN X5.here hx rfl (hb hby d18_15) rfl k) ?_
  obtain ⟨cl6,Ar6,q6,S6,M6,Hs6,G6⟩ := id po1_0
  have hin6 : ¬ ((1 : Int32) < 0 ∨ cl6.slots.size ≤ ((1 : Int32)).toNatClampNeg) := inb_of S6 ⟨by decide,by decide⟩
  have hat6 : cl6.slots[((1 : Int32)).toNatClampNeg]? = some (.ref mm) := Has.at Hs6 hin6 rfl
  refine gv T5 17 #[sR xs,sR yc_1,sI 2,sI 1,sR dd] [(.ref mm)] (fun t k => X5.aaload hx (j := (1 : Int32)) (v := (.ref mm)) (by rw [eq5]; exact Ar6.1) (State.isArrayOf_alike hZ.alike Ar6.2.1) rfl Ar6.2.2 hin6 hat6 (g := (mkF m 16 #[sR xs,sR yc_1,sI 2,sI 1,sR dd] [(.int 1),(.ref yc_1)])) rfl rfl (hb hby d18_16) _ k) ?_
  refine gv T5 19 #[sR xs,sR yc_1,sI 2,sI 1,sR mm] [] (fun t k => XS.astore X5.here hx rfl (hb hby d18_17) rfl rfl (l' := #[sR xs,sR yc_1,sI 2,sI 1,sR mm]) rfl k) ?_
  refine gv T5 21 #[sR xs,sR yc_1,sI 2,sI 1,sR mm] [(.ref mm)] (fun t k => XS.aload X5.here hx rfl (hb hby d18_19) rfl rfl k) ?_
  obtain ⟨T7,X7,e7,st7⟩ := getF X5 hx hZ hown (host := "") (Or.inl (w_ hw 103 rfl)) Via.refl eq5 (f8_mm_text.keep K1 nin0) (g := (mkF m 21 #[sR xs,sR yc_1,sI 2,sI 1,sR mm] [(.ref mm)])) rfl rfl (hb hby d18_21)
  refine gv T7 24 #[sR xs,sR yc_1,sI 2,sI 1,sR mm] [(.ref tm)] (fun t k => st7 _ k) ?_
  refine gv T7 25 #[sR xs,sR yc_1,sI 2,sI 1,sR mm] [(.ref xs),(.ref tm)] (fun t k => XS.aloadN X7.here hx rfl (hb hby d18_24) rfl rfl k) ?_
  obtain ⟨cq8,kq8,q8a,q8b,q8c⟩ := isOf hZ e7 (f9_tm.keep K1)
  obtain ⟨_,_,⟨T8,L8,k8,n8⟩,-,X8,⟨Lc8,hQ8,l8,y8,z8⟩,st8⟩ := X7.virtualBack hx (y := (⟨"java/lang/String","equals","(Ljava/lang/Object;)Z"⟩ : MethodName)) (z := (⟨"java/lang/String","equals","(Ljava/lang/Object;)Z"⟩ : MethodName)) hown (mvT hZ (w_ hw 105 rfl)) (mvT hZ (w_ hw 73 rfl)) (notFace_of_selects (args := #[]) (mvT hZ (w_ hw 75 rfl))) (mvT hZ (w_ hw 75 rfl)) (mvT hZ (w_ hw 74 rfl)) (by decide) (backOf (W := 0) (rm165 l Z a0 hw [] tm xs bm yb km kb wc (109 : Int32) (111 : Int32) (110 : Int32) (116 : Int32) (104 : Int32) c0 c1 c2 c3 c4 T1.heap n0 Z1 (f9_tm.keep K1) (f10_tm_coder.keep K1 nin0) (f11_tm_value.keep K1 nin0) (f12_bm.keep K1 nin0) (f15_xs.keep K1) (f16_xs_coder.keep K1 nin0) (f17_xs_value.keep K1 nin0) (f18_yb.keep K1 nin0) (own_staKeep f14_COMPACT_STRINGS K1 all0) ne_tm_xs hwc) hZ (w_ hw 76 rfl) (w_ hw 8 rfl) (by decide) (by decide)) q8a q8c (g := (mkF m 25 #[sR xs,sR yc_1,sI 2,sI 1,sR mm] [(.ref xs),(.ref tm)])) rfl (by rw [hml]; rfl) (Steps.refl _) (argsL := [(.ref xs)]) (rest := []) (lenOf pd_16 rfl) rfl (own_rm rfl) (hb hby d18_25) (fun _ _ => ⟨rfl,e7,(by decide : 1 + 0 ≤ _),(by decide : 2 + 0 ≤ _)⟩)
  dsimp only [Pt.U, Pt.locs, Pt.cells, Pt.slots] at X8 l8 y8 z8 st8 hQ8
  replace X8 := own_cast X8 l8 y8 z8
  obtain ⟨r8,rfl,hr8,N8q,eq8⟩ := hQ8
  have N8 := Fr.app N5 N8q
  refine gv T8 28 #[sR xs,sR yc_1,sI 2,sI 1,sR mm] [(.int r8)] (fun t k => st8.trans k) ?_
  refine gv T8 31 #[sR xs,sR yc_1,sI 2,sI 1,sR mm] [] (fun t k => XS.ifNo X8.here hx rfl (hb hby d18_28) rfl ((if0 _ _).trans (feq (own_b1 hr8 hp)).1) k) ?_
  refine gv T8 33 #[sR xs,sR yc_1,sI 2,sI 1,sR mm] [(.ref mm)] (fun t k => XS.aload X8.here hx rfl (hb hby d18_31) rfl rfl k) ?_
  obtain ⟨_,_,⟨T9,L9,k9,n9⟩,-,X9,⟨Lc9,hQ9,l9,y9,z9⟩,st9⟩ := Jvm.LawKit.callS X8 hx (y := (⟨"java/util/Optional","of","(Ljava/lang/Object;)Ljava/util/Optional;"⟩ : MethodName)) hown (mvT hZ (w_ hw 106 rfl)) (mvT hZ (w_ hw 107 rfl)) (mvT hZ (w_ hw 108 rfl)) (mvT hZ (w_ hw 109 rfl)) (by decide) (backOf (W := 0) (rm20 l Z a0 hw [] mm T1.heap n0 Z1 ) hZ (w_ hw 109 rfl) (w_ hw 108 rfl) (by decide) (by decide)) (g := (mkF m 33 #[sR xs,sR yc_1,sI 2,sI 1,sR mm] [(.ref mm)])) rfl (by rw [hml]; rfl) (argsL := [(.ref mm)]) (rest := []) (lenOf pd_18 rfl) rfl (own_rm rfl) (hb hby d18_33) (fun _ _ => ⟨rfl,eq8,(by decide : 1 + 1 ≤ _),(by decide : 2 + 1 ≤ _)⟩)
  dsimp only [Pt.U, Pt.locs, Pt.cells, Pt.slots] at X9 l9 y9 z9 st9 hQ9
  replace X9 := own_cast X9 l9 y9 z9
  obtain ⟨yo_9,rfl,N9q,K9q,po9_0,po9_1,px9_g_yo,px9_sz_yo⟩ := hQ9
  have N9 := Fr.app N8 N9q
  have f10 := po1_0.keep K9q nin0
  have K9 := Keep.trans K1 K9q all0
  have Z9 := Nat.le_trans Z0 K9.1
  have g_yo_9 := px9_g_yo
  have sz_yo_9 : h0.size ≤ yo_9 := Nat.le_trans (K1).1 px9_sz_yo
  have ne_yc_1_yo_9 : yc_1 ≠ yo_9 := Nat.ne_of_lt (Nat.lt_of_lt_of_le po1_0.lt px9_sz_yo)
  refine gv T9 36 #[sR xs,sR yc_1,sI 2,sI 1,sR mm] [(.ref yo_9)] (fun t k => st9 _ k) ?_
  exact own_ret X9 hx Bd.notSynchronized Bd.returns rfl (Or.inr (Or.inr (Or.inr (Or.inr ⟨rfl,rfl,rfl⟩)))) (hb hby d18_36) rfl ⟨yo_9,rfl,N9,K9,po9_0,po9_1,g_yo_9,sz_yo_9⟩ (by decide) (by decide)
theorem ef_185f (m : MethodId) (xs : Addr) : entryFrame m #[(.ref xs)] 5 = mkF m 0 #[.val (.ref xs), .unset, .unset, .unset, .unset] [] := by first | (simp [entryFrame, mkF, argsToLocals, Value.category]; done) | rfl
def Q185f (Z : State) (xs : Addr) (yV : Addr) (kV : ClassId) (dd : Addr) (mm : Addr) (td : Addr) (bd : Addr) (kd : ClassId) (tm : Addr) (bm : Addr) (km : ClassId) (oe : Addr) (wc : Int32) (yb : Addr) (kb : ClassId) (c0 : Int32) (c1 : Int32) (c2 : Int32) (c3 : Int32) (c4 : Int32) (h0 : Heap) (n0 : Nat) (v : Option Value) (h : Heap) (L : List Loc) : Prop := v = some (.ref oe) ∧ Fr n0 L ∧ Keep h0 h []
set_option maxRecDepth 65536 in
set_option maxHeartbeats 40000000 in
theorem rm185f (l : Launch) (Z : State) (a0 : Array Value) (hw : ∀ d ∈ tables_1, d.before a0 Z = true) (ws : List Jvm.Cond) (xs : Addr) (yV : Addr) (kV : ClassId) (dd : Addr) (mm : Addr) (td : Addr) (bd : Addr) (kd : ClassId) (tm : Addr) (bm : Addr) (km : ClassId) (oe : Addr) (wc : Int32) (yb : Addr) (kb : ClassId) (c0 : Int32) (c1 : Int32) (c2 : Int32) (c3 : Int32) (c4 : Int32) (h0 : Heap) (n0 : Nat) (Z0 : n0 ≤ h0.size) (f0__VALUES : Sta Z h0 "com/example/tallyman/tallyman/ledger/Period" "$VALUES" "[Lcom/example/tallyman/tallyman/ledger/Period;" (.ref yV)) (f1_yV : Arv Z h0 yV kV (.object "com/example/tallyman/tallyman/ledger/Period") (2 : Int32) [(.ref dd), (.ref mm)] .null) (f2_yV : Exa Z h0 yV "[Lcom/example/tallyman/tallyman/ledger/Period;") (f3_dd_text : Fld Z h0 dd "com/example/tallyman/tallyman/ledger/Period" "text" "Ljava/lang/String;" (.ref td)) (f4_td : Exa Z h0 td "java/lang/String") (f5_td_coder : Fld Z h0 td "java/lang/String" "coder" "B" (.int (0 : Int32))) (f6_td_value : Fld Z h0 td "java/lang/String" "value" "[B" (.ref bd)) (f7_bd : Arv Z h0 bd kd .byte (3 : Int32) [(.int (100 : Int32)), (.int (97 : Int32)), (.int (121 : Int32))] (.int (0 : Int32))) (f8_mm_text : Fld Z h0 mm "com/example/tallyman/tallyman/ledger/Period" "text" "Ljava/lang/String;" (.ref tm)) (f9_tm : Exa Z h0 tm "java/lang/String") (f10_tm_coder : Fld Z h0 tm "java/lang/String" "coder" "B" (.int (0 : Int32))) (f11_tm_value : Fld Z h0 tm "java/lang/String" "value" "[B" (.ref bm)) (f12_bm : Arv Z h0 bm km .byte (5 : Int32) [(.int (109 : Int32)), (.int (111 : Int32)), (.int (110 : Int32)), (.int (116 : Int32)), (.int (104 : Int32))] (.int (0 : Int32))) (f13_EMPTY : Sta Z h0 "java/util/Optional" "EMPTY" "Ljava/util/Optional;" (.ref oe)) (f14_COMPACT_STRINGS : Sta Z h0 "java/lang/String" "COMPACT_STRINGS" "Z" (.int wc)) (f15_xs : Exa Z h0 xs "java/lang/String") (f16_xs_coder : Fld Z h0 xs "java/lang/String" "coder" "B" (.int (0 : Int32))) (f17_xs_value : Fld Z h0 xs "java/lang/String" "value" "[B" (.ref yb)) (f18_yb : Arv Z h0 yb kb .byte (5 : Int32) [(.int c0), (.int c1), (.int c2), (.int c3), (.int c4)] (.int (0 : Int32))) (ne_td_xs : td ≠ xs) (ne_tm_xs : tm ≠ xs) (hwc : ¬ wc = (0 : Int32)) (hp : ¬ (((109 : Int32) = c0) ∧ (((111 : Int32) = c1) ∧ (((110 : Int32) = c2) ∧ (((116 : Int32) = c3) ∧ ((104 : Int32) = c4)))))) :
    MetFree l (⟨"com/example/tallyman/tallyman/ledger/Period", "named", "(Ljava/lang/String;)Ljava/util/Optional;"⟩ : MethodName) (head1 (Jvm.Cond.code (⟨"com/example/tallyman/tallyman/ledger/Period", "named", "(Ljava/lang/String;)Ljava/util/Optional;"⟩ : MethodName) prog_14_method_4_code 5 (some (.object "java/util/Optional")) :: ws) ({ frames := 2, cells := 1, slots := 2, locals := 28 } : Room)) (fun a U => a = #[(.ref xs)] ∧ Z.Warmed39 U.vm ∧ U.heap = h0) (fun _ _ _ _ _ => True) (fun _ U o U' => ∃ v L, o = .returned v ∧ Q185f Z xs yV kV dd mm td bd kd tm bm km oe wc yb kb c0 c1 c2 c3 c4 h0 n0 v U'.heap L ∧ FrameEnd U o U' L 1 2) := by
  refine MetFree.of_bodySF (plainFor_of_name pn_237) hisR ?_
  intro p e s m args below meth c s₁ Bd hml0 hP hK
  obtain ⟨rfl,hZ,hh⟩ := hP
  have hx := Bd.exec
  have hby := Bd.bytes
  have hml : c.maxLocals = 5 := hml0
  have hown : s.vm.findClass "com/example/tallyman/tallyman/ledger/Period" = some m.cls := findClass_of_methodNamed Bd.named
  have hnm := (name_of_methodNamed Bd.named Bd.method).1
  have X0 : Stand p l e ({ frames := 2,cells := 1,slots := 2,locals := 28 } : Room) s m #[(.ref xs)] below meth c s₁ [] 0 0 := Stand.of_body Bd
  have e0 : s₁.heap = h0 := by rw [← hh,Bd.state]; rfl
  have N0 := Fr.nil n0
  refine own_start (Q := fun v h L => Q185f Z xs yV kV dd mm td bd kd tm bm km oe wc yb kb c0 c1 c2 c3 c4 h0 n0 v h L) ?_
  refine gv s₁ 0 #[sR xs,sU,sU,sU,sU] [] (fun t k => castTop (ef_185f m xs) k) ?_
  obtain ⟨_,_,⟨T1,L1,k1,n1⟩,-,X1,⟨Lc1,hQ1,l1,y1,z1⟩,st1⟩ := Jvm.LawKit.callS X0 hx (y := (⟨"com/example/tallyman/tallyman/ledger/Period","values","()[Lcom/example/tallyman/tallyman/ledger/Period;"⟩ : MethodName)) hown (mvT hZ (w_ hw 87 rfl)) (mvT hZ (w_ hw 88 rfl)) (mvT hZ (w_ hw 82 rfl)) (mvT hZ (w_ hw 89 rfl)) (by decide) (backOf (W := 0) (rm19 l Z a0 hw [] yV kV dd mm h0 n0 Z0 f0__VALUES f1_yV f2_yV) hZ (w_ hw 89 rfl) (w_ hw 82 rfl) (by decide) (by decide)) (g := (mkF m 0 #[sR xs,sU,sU,sU,sU] [])) rfl (by rw [hml]; rfl) (argsL := []) (rest := []) (lenOf pd_15 rfl) rfl (own_rm rfl) (hb hby d18_0) (fun _ _ => ⟨rfl,e0,(by decide : 0 + 1 ≤ _),(by decide : 0 + 2 ≤ _)⟩)
  dsimp only [Pt.U, Pt.locs, Pt.cells, Pt.slots] at X1 l1 y1 z1 st1 hQ1
  replace X1 := own_cast X1 l1 y1 z1
  obtain ⟨yc_1,rfl,N1q,K1q,po1_0,px1_g_yc,px1_sz_yc⟩ := hQ1
  have N1 := Fr.app N0 N1q
  have K1 := Keep.trans (Keep.refl h0 []) K1q all0
  have Z1 := Nat.le_trans Z0 K1.1
  have g_yc_1 := px1_g_yc
  have sz_yc_1 : h0.size ≤ yc_1 := Nat.le_trans ((Keep.refl h0 [])).1 px1_sz_yc
  refine gv T1 3 #[sR xs,sU,sU,sU,sU] [(.ref yc_1)] (fun t k => st1 _ k) ?_
  refine gv T1 4 #[sR xs,sR yc_1,sU,sU,sU] [] (fun t k => XS.astoreN X1.here hx rfl (hb hby d18_3) rfl rfl (l' := #[sR xs,sR yc_1,sU,sU,sU]) rfl k) ?_
  refine gv T1 5 #[sR xs,sR yc_1,sU,sU,sU] [(.ref yc_1)] (fun t k => XS.aloadN X1.here hx rfl (hb hby d18_4) rfl rfl k) ?_
  obtain ⟨cl2,Ar2,q2,S2,M2,Hs2,G2⟩ := id po1_0
  refine gv T1 6 #[sR xs,sR yc_1,sU,sU,sU] [(.int 2)] (fun t k => X1.arraylength hx Ar2.1 (State.isArrayOf_alike hZ.alike Ar2.2.1) (g := (mkF m 5 #[sR xs,sR yc_1,sU,sU,sU] [(.ref yc_1)])) rfl rfl (hb hby d18_5) _ (by rw [len_of S2 M2]; exact k)) ?_
  refine gv T1 7 #[sR xs,sR yc_1,sI 2,sU,sU] [] (fun t k => XS.istoreN X1.here hx rfl (hb hby d18_6) rfl (l' := #[sR xs,sR yc_1,sI 2,sU,sU]) rfl k) ?_
  refine gv T1 8 #[sR xs,sR yc_1,sI 2,sU,sU] [(.int 0)] (fun t k => XS.iconst X1.here hx rfl (hb hby d18_7) k) ?_
  refine gv T1 9 #[sR xs,sR yc_1,sI 2,sI 0,sU] [] (fun t k => XS.istoreN X1.here hx rfl (hb hby d18_8) rfl (l' := #[sR xs,sR yc_1,sI 2,sI 0,sU]) rfl k) ?_
  refine gv T1 10 #[sR xs,sR yc_1,sI 2,sI 0,sU] [(.int 0)] (fun t k => XS.iloadN X1.here hx rfl (hb hby d18_9) rfl k) ?_
  refine gv T1 11 #[sR xs,sR yc_1,sI 2,sI 0,sU] [(.int 2),(.int 0)] (fun t k => XS.iloadN X1.here hx rfl (hb hby d18_10) rfl k) ?_
  refine gv T1 14 #[sR xs,sR yc_1,sI 2,sI 0,sU] [] (fun t k => XS.icmpNo X1.here hx rfl (hb hby d18_11) rfl (tlt (by decide : ((0 : Int32) < (2 : Int32)))).2.1 k) ?_
  refine gv T1 15 #[sR xs,sR yc_1,sI 2,sI 0,sU] [(.ref yc_1)] (fun t k => XS.aloadN X1.here hx rfl (hb hby d18_14) rfl rfl k) ?_
  refine gv T1 16 #[sR xs,sR yc_1,sI 2,sI 0,sU] [(.int 0),(.ref yc_1)] (fun t k => XS.iloadN X1.here hx rfl (hb hby d18_15) rfl k) ?_
  obtain ⟨cl3,Ar3,q3,S3,M3,Hs3,G3⟩ := id po1_0
  have hin3 : ¬ ((0 : Int32) < 0 ∨ cl3.slots.size ≤ ((0 : Int32)).toNatClampNeg) := inb_of S3 ⟨by decide,by decide⟩
  have hat3 : cl3.slots[((0 : Int32)).toNatClampNeg]? = some (.ref dd) := Has.at Hs3 hin3 rfl
  refine gv T1 17 #[sR xs,sR yc_1,sI 2,sI 0,sU] [(.ref dd)] (fun t k => X1.aaload hx (j := (0 : Int32)) (v := (.ref dd)) Ar3.1 (State.isArrayOf_alike hZ.alike Ar3.2.1) rfl Ar3.2.2 hin3 hat3 (g := (mkF m 16 #[sR xs,sR yc_1,sI 2,sI 0,sU] [(.int 0),(.ref yc_1)])) rfl rfl (hb hby d18_16) _ k) ?_
  refine gv T1 19 #[sR xs,sR yc_1,sI 2,sI 0,sR dd] [] (fun t k => XS.astore X1.here hx rfl (hb hby d18_17) rfl rfl (l' := #[sR xs,sR yc_1,sI 2,sI 0,sR dd]) rfl k) ?_
  refine gv T1 21 #[sR xs,sR yc_1,sI 2,sI 0,sR dd] [(.ref dd)] (fun t k => XS.aload X1.here hx rfl (hb hby d18_19) rfl rfl k) ?_
  obtain ⟨T4,X4,e4,st4⟩ := getF X1 hx hZ hown (host := "") (Or.inl (w_ hw 103 rfl)) Via.refl rfl (f3_dd_text.keep K1 nin0) (g := (mkF m 21 #[sR xs,sR yc_1,sI 2,sI 0,sR dd] [(.ref dd)])) rfl rfl (hb hby d18_21)
  refine gv T4 24 #[sR xs,sR yc_1,sI 2,sI 0,sR dd] [(.ref td)] (fun t k => st4 _ k) ?_
  refine gv T4 25 #[sR xs,sR yc_1,sI 2,sI 0,sR dd] [(.ref xs),(.ref td)] (fun t k => XS.aloadN X4.here hx rfl (hb hby d18_24) rfl rfl k) ?_
  obtain ⟨cq5,kq5,q5a,q5b,q5c⟩ := isOf hZ e4 (f4_td.keep K1)
  obtain ⟨_,_,⟨T5,L5,k5,n5⟩,-,X5,⟨Lc5,hQ5,l5,y5,z5⟩,st5⟩ := X4.virtualBack hx (y := (⟨"java/lang/String","equals","(Ljava/lang/Object;)Z"⟩ : MethodName)) (z := (⟨"java/lang/String","equals","(Ljava/lang/Object;)Z"⟩ : MethodName)) hown (mvT hZ (w_ hw 105 rfl)) (mvT hZ (w_ hw 73 rfl)) (notFace_of_selects (args := #[]) (mvT hZ (w_ hw 75 rfl))) (mvT hZ (w_ hw 75 rfl)) (mvT hZ (w_ hw 74 rfl)) (by decide) (backOf (W := 0) (rm16x l Z a0 hw [] td xs bd yb kd kb (3 : Int32) (5 : Int32) ([(.int 100),(.int 97),(.int 121)] : List Value) ([(.int c0),(.int c1),(.int c2),(.int c3),(.int c4)] : List Value) wc T1.heap n0 Z1 (f4_td.keep K1) (f5_td_coder.keep K1 nin0) (f6_td_value.keep K1 nin0) (f7_bd.keep K1 nin0) (f15_xs.keep K1) (f16_xs_coder.keep K1 nin0) (f17_xs_value.keep K1 nin0) (f18_yb.keep K1 nin0) (own_staKeep f14_COMPACT_STRINGS K1 all0) ne_td_xs (by decide) hwc) hZ (w_ hw 76 rfl) (w_ hw 8 rfl) (by decide) (by decide)) q5a q5c (g := (mkF m 25 #[sR xs,sR yc_1,sI 2,sI 0,sR dd] [(.ref xs),(.ref td)])) rfl (by rw [hml]; rfl) (Steps.refl _) (argsL := [(.ref xs)]) (rest := []) (lenOf pd_16 rfl) rfl (own_rm rfl) (hb hby d18_25) (fun _ _ => ⟨rfl,e4,(by decide : 1 + 0 ≤ _),(by decide : 2 + 0 ≤ _)⟩)
  dsimp only [Pt.U, Pt.locs, Pt.cells, Pt.slots] at X5 l5 y5 z5 st5 hQ5
  replace X5 := own_cast X5 l5 y5 z5
  obtain ⟨rfl,N5q,eq5⟩ := hQ5
  have N5 := Fr.app N1 N5q
  refine gv T5 28 #[sR xs,sR yc_1,sI 2,sI 0,sR dd] [(.int 0)] (fun t k => st5.trans k) ?_
  refine gv T5 37 #[sR xs,sR yc_1,sI 2,sI 0,sR dd] [] (fun t k => XS.ifYes X5.here hx rfl (pc0 := 28) (pc' := 37) rfl (hb hby d18_28) rfl ((if0 _ _).trans (teq rfl).1) (by decide) (by decide) k) ?_
  refine gv T5 40 #[sR xs,sR yc_1,sI 2,sI 1,sR dd] [] (fun t k => XS.iinc X5.here hx rfl (hb hby d18_37) rfl (l' := #[sR xs,sR yc_1,sI 2,sI 1,sR dd]) rfl k) ?_
  refine gv T5 9 #[sR xs,sR yc_1,sI 2,sI 1,sR dd] [] (fun t k => XS.goto X5.here hx rfl (pc0 := 40) (pc' := 9) rfl (hb hby d18_40) (by decide) (by decide) k) ?_
  refine gv T5 10 #[sR xs,sR yc_1,sI 2,sI 1,sR dd] [(.int 1)] (fun t k => XS.iloadN X5.here hx rfl (hb hby d18_9) rfl k) ?_
  refine gv T5 11 #[sR xs,sR yc_1,sI 2,sI 1,sR dd] [(.int 2),(.int 1)] (fun t k => XS.iloadN X5.here hx rfl (hb hby d18_10) rfl k) ?_
  refine gv T5 14 #[sR xs,sR yc_1,sI 2,sI 1,sR dd] [] (fun t k => XS.icmpNo X5.here hx rfl (hb hby d18_11) rfl (tlt (by decide : ((1 : Int32) < (2 : Int32)))).2.1 k) ?_
  refine gv T5 15 #[sR xs,sR yc_1,sI 2,sI 1,sR dd] [(.ref yc_1)] (fun t k => XS.aloadN X5.here hx rfl (hb hby d18_14) rfl rfl k) ?_
  refine gv T5 16 #[sR xs,sR yc_1,sI 2,sI 1,sR dd] [(.int 1),(.ref yc_1)] (fun t k => XS.iloadN X5.here hx rfl (hb hby d18_15) rfl k) ?_
  obtain ⟨cl6,Ar6,q6,S6,M6,Hs6,G6⟩ := id po1_0
  have hin6 : ¬ ((1 : Int32) < 0 ∨ cl6.slots.size ≤ ((1 : Int32)).toNatClampNeg) := inb_of S6 ⟨by decide,by decide⟩
  have hat6 : cl6.slots[((1 : Int32)).toNatClampNeg]? = some (.ref mm) := Has.at Hs6 hin6 rfl
  refine gv T5 17 #[sR xs,sR yc_1,sI 2,sI 1,sR dd] [(.ref mm)] (fun t k => X5.aaload hx (j := (1 : Int32)) (v := (.ref mm)) (by rw [eq5]; exact Ar6.1) (State.isArrayOf_alike hZ.alike Ar6.2.1) rfl Ar6.2.2 hin6 hat6 (g := (mkF m 16 #[sR xs,sR yc_1,sI 2,sI 1,sR dd] [(.int 1),(.ref yc_1)])) rfl rfl (hb hby d18_16) _ k) ?_
  refine gv T5 19 #[sR xs,sR yc_1,sI 2,sI 1,sR mm] [] (fun t k => XS.astore X5.here hx rfl (hb hby d18_17) rfl rfl (l' := #[sR xs,sR yc_1,sI 2,sI 1,sR mm]) rfl k) ?_
  refine gv T5 21 #[sR xs,sR yc_1,sI 2,sI 1,sR mm] [(.ref mm)] (fun t k => XS.aload X5.here hx rfl (hb hby d18_19) rfl rfl k) ?_
  obtain ⟨T7,X7,e7,st7⟩ := getF X5 hx hZ hown (host := "") (Or.inl (w_ hw 103 rfl)) Via.refl eq5 (f8_mm_text.keep K1 nin0) (g := (mkF m 21 #[sR xs,sR yc_1,sI 2,sI 1,sR mm] [(.ref mm)])) rfl rfl (hb hby d18_21)
  refine gv T7 24 #[sR xs,sR yc_1,sI 2,sI 1,sR mm] [(.ref tm)] (fun t k => st7 _ k) ?_
  refine gv T7 25 #[sR xs,sR yc_1,sI 2,sI 1,sR mm] [(.ref xs),(.ref tm)] (fun t k => XS.aloadN X7.here hx rfl (hb hby d18_24) rfl rfl k) ?_
  obtain ⟨cq8,kq8,q8a,q8b,q8c⟩ := isOf hZ e7 (f9_tm.keep K1)
  obtain ⟨_,_,⟨T8,L8,k8,n8⟩,-,X8,⟨Lc8,hQ8,l8,y8,z8⟩,st8⟩ := X7.virtualBack hx (y := (⟨"java/lang/String","equals","(Ljava/lang/Object;)Z"⟩ : MethodName)) (z := (⟨"java/lang/String","equals","(Ljava/lang/Object;)Z"⟩ : MethodName)) hown (mvT hZ (w_ hw 105 rfl)) (mvT hZ (w_ hw 73 rfl)) (notFace_of_selects (args := #[]) (mvT hZ (w_ hw 75 rfl))) (mvT hZ (w_ hw 75 rfl)) (mvT hZ (w_ hw 74 rfl)) (by decide) (backOf (W := 0) (rm165 l Z a0 hw [] tm xs bm yb km kb wc (109 : Int32) (111 : Int32) (110 : Int32) (116 : Int32) (104 : Int32) c0 c1 c2 c3 c4 T1.heap n0 Z1 (f9_tm.keep K1) (f10_tm_coder.keep K1 nin0) (f11_tm_value.keep K1 nin0) (f12_bm.keep K1 nin0) (f15_xs.keep K1) (f16_xs_coder.keep K1 nin0) (f17_xs_value.keep K1 nin0) (f18_yb.keep K1 nin0) (own_staKeep f14_COMPACT_STRINGS K1 all0) ne_tm_xs hwc) hZ (w_ hw 76 rfl) (w_ hw 8 rfl) (by decide) (by decide)) q8a q8c (g := (mkF m 25 #[sR xs,sR yc_1,sI 2,sI 1,sR mm] [(.ref xs),(.ref tm)])) rfl (by rw [hml]; rfl) (Steps.refl _) (argsL := [(.ref xs)]) (rest := []) (lenOf pd_16 rfl) rfl (own_rm rfl) (hb hby d18_25) (fun _ _ => ⟨rfl,e7,(by decide : 1 + 0 ≤ _),(by decide : 2 + 0 ≤ _)⟩)
  dsimp only [Pt.U, Pt.locs, Pt.cells, Pt.slots] at X8 l8 y8 z8 st8 hQ8
  replace X8 := own_cast X8 l8 y8 z8
  obtain ⟨r8,rfl,hr8,N8q,eq8⟩ := hQ8
  have N8 := Fr.app N5 N8q
  refine gv T8 28 #[sR xs,sR yc_1,sI 2,sI 1,sR mm] [(.int r8)] (fun t k => st8.trans k) ?_
  refine gv T8 37 #[sR xs,sR yc_1,sI 2,sI 1,sR mm] [] (fun t k => XS.ifYes X8.here hx rfl (pc0 := 28) (pc' := 37) rfl (hb hby d18_28) rfl ((if0 _ _).trans (teq (own_b0 hr8 hp)).1) (by decide) (by decide) k) ?_
  refine gv T8 40 #[sR xs,sR yc_1,sI 2,sI 2,sR mm] [] (fun t k => XS.iinc X8.here hx rfl (hb hby d18_37) rfl (l' := #[sR xs,sR yc_1,sI 2,sI 2,sR mm]) rfl k) ?_
  refine gv T8 9 #[sR xs,sR yc_1,sI 2,sI 2,sR mm] [] (fun t k => XS.goto X8.here hx rfl (pc0 := 40) (pc' := 9) rfl (hb hby d18_40) (by decide) (by decide) k) ?_
  refine gv T8 10 #[sR xs,sR yc_1,sI 2,sI 2,sR mm] [(.int 2)] (fun t k => XS.iloadN X8.here hx rfl (hb hby d18_9) rfl k) ?_
  refine gv T8 11 #[sR xs,sR yc_1,sI 2,sI 2,sR mm] [(.int 2),(.int 2)] (fun t k => XS.iloadN X8.here hx rfl (hb hby d18_10) rfl k) ?_
  refine gv T8 43 #[sR xs,sR yc_1,sI 2,sI 2,sR mm] [] (fun t k => XS.icmpYes X8.here hx rfl (pc0 := 11) (pc' := 43) rfl (hb hby d18_11) rfl (flt (by decide : ¬ ((2 : Int32) < (2 : Int32)))).2.1 (by decide) (by decide) k) ?_
  obtain ⟨_,_,⟨T9,L9,k9,n9⟩,-,X9,⟨Lc9,hQ9,l9,y9,z9⟩,st9⟩ := Jvm.LawKit.callS X8 hx (y := (⟨"java/util/Optional","empty","()Ljava/util/Optional;"⟩ : MethodName)) hown (mvT hZ (w_ hw 131 rfl)) (mvT hZ (w_ hw 132 rfl)) (mvT hZ (w_ hw 108 rfl)) (mvT hZ (w_ hw 133 rfl)) (by decide) (backOf (W := 0) (rm24 l Z a0 hw [] oe T1.heap n0 Z1 (own_staKeep f13_EMPTY K1 all0)) hZ (w_ hw 133 rfl) (w_ hw 108 rfl) (by decide) (by decide)) (g := (mkF m 43 #[sR xs,sR yc_1,sI 2,sI 2,sR mm] [])) rfl (by rw [hml]; rfl) (argsL := []) (rest := []) (lenOf pd_17 rfl) rfl (own_rm rfl) (hb hby d18_43) (fun _ _ => ⟨rfl,eq8,(by decide : 1 + 0 ≤ _),(by decide : 2 + 0 ≤ _)⟩)
  dsimp only [Pt.U, Pt.locs, Pt.cells, Pt.slots] at X9 l9 y9 z9 st9 hQ9
  replace X9 := own_cast X9 l9 y9 z9
  obtain ⟨rfl,N9q,eq9⟩ := hQ9
  have N9 := Fr.app N8 N9q
  refine gv T9 46 #[sR xs,sR yc_1,sI 2,sI 2,sR mm] [(.ref oe)] (fun t k => st9 _ k) ?_
  exact own_ret X9 hx Bd.notSynchronized Bd.returns rfl (Or.inr (Or.inr (Or.inr (Or.inr ⟨rfl,rfl,rfl⟩)))) (hb hby d18_46) eq9 ⟨rfl,N9,K1⟩ (by decide) (by decide)
theorem ef_0 (m : MethodId) (p0 : Int32) (p1 : Int32) (p2 : Int32) (p3 : Int32) (p4 : Int32) : entryFrame m #[(.int p0), (.int p1), (.int p2), (.int p3), (.int p4)] maxLocals = mkF m 0 #[.val (.int p0), .val (.int p1), .val (.int p2), .val (.int p3), .val (.int p4), .unset, .unset, .unset, .unset, .unset, .unset, .unset, .unset, .unset, .unset, .unset] [] := by first | (simp [entryFrame, mkF, argsToLocals, Value.category, maxLocals]; done) | rfl
def Q0 (Z : State) (p0 : Int32) (p1 : Int32) (p2 : Int32) (p3 : Int32) (p4 : Int32) (wc : Int32) (vB : Value) (yV : Addr) (kV : ClassId) (dd : Addr) (mm : Addr) (td : Addr) (bd : Addr) (kd : ClassId) (tm : Addr) (bm : Addr) (km : ClassId) (oe : Addr) (h0 : Heap) (n0 : Nat) (v : Option Value) (h : Heap) (L : List Loc) : Prop := v = some (.int 1) ∧ Fr n0 L
set_option maxRecDepth 65536 in
set_option maxHeartbeats 40000000 in
theorem rm0 (l : Launch) (Z : State) (a0 : Array Value) (hw : ∀ d ∈ tables_1, d.before a0 Z = true) (ws : List Jvm.Cond) (p0 : Int32) (p1 : Int32) (p2 : Int32) (p3 : Int32) (p4 : Int32) (wc : Int32) (vB : Value) (yV : Addr) (kV : ClassId) (dd : Addr) (mm : Addr) (td : Addr) (bd : Addr) (kd : ClassId) (tm : Addr) (bm : Addr) (km : ClassId) (oe : Addr) (h0 : Heap) (n0 : Nat) (Z0 : n0 ≤ h0.size) (f0_COMPACT_STRINGS : Sta Z h0 "java/lang/String" "COMPACT_STRINGS" "Z" (.int wc)) (f1_SIOOBE_FORMATTER : Sta Z h0 "jdk/internal/util/Preconditions" "SIOOBE_FORMATTER" "Ljava/util/function/BiFunction;" vB) (f2_DAY : Sta Z h0 "com/example/tallyman/tallyman/ledger/Period" "DAY" "Lcom/example/tallyman/tallyman/ledger/Period;" (.ref dd)) (f3_MONTH : Sta Z h0 "com/example/tallyman/tallyman/ledger/Period" "MONTH" "Lcom/example/tallyman/tallyman/ledger/Period;" (.ref mm)) (f4__VALUES : Sta Z h0 "com/example/tallyman/tallyman/ledger/Period" "$VALUES" "[Lcom/example/tallyman/tallyman/ledger/Period;" (.ref yV)) (f5_yV : Arv Z h0 yV kV (.object "com/example/tallyman/tallyman/ledger/Period") (2 : Int32) [(.ref dd), (.ref mm)] .null) (f6_yV : Exa Z h0 yV "[Lcom/example/tallyman/tallyman/ledger/Period;") (f7_dd : Exa Z h0 dd "com/example/tallyman/tallyman/ledger/Period") (f8_mm : Exa Z h0 mm "com/example/tallyman/tallyman/ledger/Period") (f9_dd_text : Fld Z h0 dd "com/example/tallyman/tallyman/ledger/Period" "text" "Ljava/lang/String;" (.ref td)) (f10_td : Exa Z h0 td "java/lang/String") (f11_td_coder : Fld Z h0 td "java/lang/String" "coder" "B" (.int (0 : Int32))) (f12_td_value : Fld Z h0 td "java/lang/String" "value" "[B" (.ref bd)) (f13_bd : Arv Z h0 bd kd .byte (3 : Int32) [(.int (100 : Int32)), (.int (97 : Int32)), (.int (121 : Int32))] (.int (0 : Int32))) (f14_mm_text : Fld Z h0 mm "com/example/tallyman/tallyman/ledger/Period" "text" "Ljava/lang/String;" (.ref tm)) (f15_tm : Exa Z h0 tm "java/lang/String") (f16_tm_coder : Fld Z h0 tm "java/lang/String" "coder" "B" (.int (0 : Int32))) (f17_tm_value : Fld Z h0 tm "java/lang/String" "value" "[B" (.ref bm)) (f18_bm : Arv Z h0 bm km .byte (5 : Int32) [(.int (109 : Int32)), (.int (111 : Int32)), (.int (110 : Int32)), (.int (116 : Int32)), (.int (104 : Int32))] (.int (0 : Int32))) (f19_EMPTY : Sta Z h0 "java/util/Optional" "EMPTY" "Ljava/util/Optional;" (.ref oe)) (f20_oe : Exa Z h0 oe "java/util/Optional") (f21_oe_value : Fld Z h0 oe "java/util/Optional" "value" "Ljava/lang/Object;" .null) (hwc : ¬ wc = (0 : Int32)) (hr_vB : vB.isRef = true) :
    MetFree l x (head1 (Jvm.Cond.code x code maxLocals ret :: ws) room_1) (fun a U => a = #[(.int p0), (.int p1), (.int p2), (.int p3), (.int p4)] ∧ Z.Warmed39 U.vm ∧ U.heap = h0 ∧ CHv Z own_EL U.vm h0) (fun _ _ _ _ _ => True) (fun _ U o U' => ∃ v L, o = .returned v ∧ Q0 Z p0 p1 p2 p3 p4 wc vB yV kV dd mm td bd kd tm bm km oe h0 n0 v U'.heap L ∧ CHr Z own_EL U.vm U.heap U'.vm U'.heap ∧ ReturnedEndW U o U' L 24 3200) := by
  refine MetFree.of_bodySF (plainFor_of_name pn_77) hisR ?_
  intro p e s m args below meth c s₁ Bd hml0 hP hK
  obtain ⟨rfl,hZ,hh,CH0⟩ := hP
  have hx := Bd.exec
  have hby := Bd.bytes
  have hml : c.maxLocals = 16 := hml0
  have hown : s.vm.findClass "com/example/tallyman/tallyman/ledger/PeriodNamedPinLaw" = some m.cls := findClass_of_methodNamed Bd.named
  have hnm := (name_of_methodNamed Bd.named Bd.method).1
  have X0 : Stand p l e room_1 (s.setVm s.vm) m #[(.int p0),(.int p1),(.int p2),(.int p3),(.int p4)] below meth c s₁ [] 0 0 := own_x0 (Stand.of_body Bd)
  have e0 : s₁.heap = h0 := by rw [← hh,Bd.state]; rfl
  have N0 := Fr.nil n0
  have hS0 : s.Since s.vm h0.size := (State.WarmedH.refl s).since _
  have hk0 : h0.size ≤ h0.size := Nat.le_refl _
  have CR0 : CHr Z own_EL s.vm h0 s.vm h0 := CHr.refl CH0
  refine own_startW (Z := Z) (EL := own_EL) (Q := fun v h L => Q0 Z p0 p1 p2 p3 p4 wc vB yV kV dd mm td bd kd tm bm km oe h0 n0 v h L) ?_
  refine gv s₁ 0 #[sI p0,sI p1,sI p2,sI p3,sI p4,sU,sU,sU,sU,sU,sU,sU,sU,sU,sU,sU] [] (fun t k => castTop (ef_0 m p0 p1 p2 p3 p4) k) ?_
  refine gv s₁ 1 #[sI p0,sI p1,sI p2,sI p3,sI p4,sU,sU,sU,sU,sU,sU,sU,sU,sU,sU,sU] [(.int 0)] (fun t k => XS.iconst X0.here hx rfl (hb hby at_0) k) ?_
  refine gv s₁ 2 #[sI p0,sI p1,sI p2,sI p3,sI p4,sU,sU,sU,sU,sU,sU,sU,sU,sU,sU,sU] [(.int p0),(.int 0)] (fun t k => XS.iloadN X0.here hx rfl (hb hby at_1) rfl k) ?_
  refine gv s₁ 3 #[sI p0,sI p1,sI p2,sI p3,sI p4,sU,sU,sU,sU,sU,sU,sU,sU,sU,sU,sU] [(.int p2),(.int p0),(.int 0)] (fun t k => XS.iloadN X0.here hx rfl (hb hby at_2) rfl k) ?_
  refine gv s₁ 4 #[sI p0,sI p1,sI p2,sI p3,sI p4,sU,sU,sU,sU,sU,sU,sU,sU,sU,sU,sU] [(.int p3),(.int p2),(.int p0),(.int 0)] (fun t k => XS.iloadN X0.here hx rfl (hb hby at_3) rfl k) ?_
  refine gv s₁ 6 #[sI p0,sI p1,sI p2,sI p3,sI p4,sU,sU,sU,sU,sU,sU,sU,sU,sU,sU,sU] [(.int p4),(.int p3),(.int p2),(.int p0),(.int 0)] (fun t k => XS.iload X0.here hx rfl (hb hby at_4) rfl k) ?_
  obtain ⟨_,_,⟨T1,L1,k1,n1⟩,-,X1,sn1,ge1,⟨Lc1,hQ1,l1,y1,z1,cr1⟩,st1⟩ := callSS X0 hx (y := (⟨"com/example/tallyman/tallyman/ledger/PeriodNamedPinLaw","ch","(IIIII)C"⟩ : MethodName)) hown (mvT hZ (w_ hw 0 rfl)) (mvT hZ (w_ hw 1 rfl)) (mvT hZ (w_ hw 2 rfl)) (mvT hZ (w_ hw 3 rfl)) (by decide) (backOfSH (s := s) (vm0 := s.vm) (W := 0) (rm1 l Z a0 hw [] (0 : Int32) p0 p2 p3 p4 wc vB h0 n0 Z0 f0_COMPACT_STRINGS f1_SIOOBE_FORMATTER hwc hr_vB (by decide)) hZ (w_ hw 3 rfl) (w_ hw 2 rfl) (by decide) (by decide) (own_EW hw) CH0) (g := (mkF m 6 #[sI p0,sI p1,sI p2,sI p3,sI p4,sU,sU,sU,sU,sU,sU,sU,sU,sU,sU,sU] [(.int p4),(.int p3),(.int p2),(.int p0),(.int 0)])) rfl (by rw [hml]; rfl) (argsL := [(.int 0),(.int p0),(.int p2),(.int p3),(.int p4)]) (rest := []) (lenOf pd_19 rfl) rfl (own_rm rfl) (hb hby at_6) (fun _ _ => ⟨rfl,e0,(by decide : 0 + 2 ≤ _),(by decide : 0 + 24 ≤ _)⟩)
  dsimp only [Pt.U, Pt.locs, Pt.cells, Pt.slots] at X1 l1 y1 z1 st1 hQ1 sn1 ge1 cr1
  obtain ⟨X1,hS1,hZ,hown⟩ := rebS hS0 (n1 := s₁.heap.size) (by rw [e0]; exact hk0) X1 sn1 ge1 hZ hown
  have hk1 : T1.heap.size ≤ T1.heap.size := Nat.le_refl _
  replace X1 := own_cast X1 l1 y1 z1
  obtain ⟨r1,rfl,hr1,N1q,K1q⟩ := hQ1
  have N1 := Fr.app N0 N1q
  have CR1 := CR0.trans cr1
  have CH1 := cr1.1
  have K1 := Keep.trans (Keep.refl h0 []) K1q all0
  have Z1 := Nat.le_trans Z0 K1.1
  refine gv T1 9 #[sI p0,sI p1,sI p2,sI p3,sI p4,sU,sU,sU,sU,sU,sU,sU,sU,sU,sU,sU] [(.int r1)] (fun t k => st1.trans k) ?_
  refine gv T1 11 #[sI p0,sI p1,sI p2,sI p3,sI p4,sI r1,sU,sU,sU,sU,sU,sU,sU,sU,sU,sU] [] (fun t k => XS.istore X1.here hx rfl (hb hby at_9) rfl (l' := #[sI p0,sI p1,sI p2,sI p3,sI p4,sI r1,sU,sU,sU,sU,sU,sU,sU,sU,sU,sU]) rfl k) ?_
  refine gv T1 12 #[sI p0,sI p1,sI p2,sI p3,sI p4,sI r1,sU,sU,sU,sU,sU,sU,sU,sU,sU,sU] [(.int 1)] (fun t k => XS.iconst X1.here hx rfl (hb hby at_11) k) ?_
  refine gv T1 13 #[sI p0,sI p1,sI p2,sI p3,sI p4,sI r1,sU,sU,sU,sU,sU,sU,sU,sU,sU,sU] [(.int p0),(.int 1)] (fun t k => XS.iloadN X1.here hx rfl (hb hby at_12) rfl k) ?_
  refine gv T1 14 #[sI p0,sI p1,sI p2,sI p3,sI p4,sI r1,sU,sU,sU,sU,sU,sU,sU,sU,sU,sU] [(.int p2),(.int p0),(.int 1)] (fun t k => XS.iloadN X1.here hx rfl (hb hby at_13) rfl k) ?_
  refine gv T1 15 #[sI p0,sI p1,sI p2,sI p3,sI p4,sI r1,sU,sU,sU,sU,sU,sU,sU,sU,sU,sU] [(.int p3),(.int p2),(.int p0),(.int 1)] (fun t k => XS.iloadN X1.here hx rfl (hb hby at_14) rfl k) ?_
  refine gv T1 17 #[sI p0,sI p1,sI p2,sI p3,sI p4,sI r1,sU,sU,sU,sU,sU,sU,sU,sU,sU,sU] [(.int p4),(.int p3),(.int p2),(.int p0),(.int 1)] (fun t k => XS.iload X1.here hx rfl (hb hby at_15) rfl k) ?_
  obtain ⟨_,_,⟨T2,L2,k2,n2⟩,-,X2,sn2,ge2,⟨Lc2,hQ2,l2,y2,z2,cr2⟩,st2⟩ := callSS X1 hx (y := (⟨"com/example/tallyman/tallyman/ledger/PeriodNamedPinLaw","ch","(IIIII)C"⟩ : MethodName)) hown (mvT hZ (w_ hw 0 rfl)) (mvT hZ (w_ hw 1 rfl)) (mvT hZ (w_ hw 2 rfl)) (mvT hZ (w_ hw 3 rfl)) (by decide) (backOfSH (s := s) (vm0 := T1.vm) (W := 0) (rm1 l Z a0 hw [] (1 : Int32) p0 p2 p3 p4 wc vB T1.heap n0 Z1 (own_staKeep f0_COMPACT_STRINGS K1 all0) (own_staKeep f1_SIOOBE_FORMATTER K1 all0) hwc hr_vB (by decide)) hZ (w_ hw 3 rfl) (w_ hw 2 rfl) (by decide) (by decide) (own_EW hw) CH1) (g := (mkF m 17 #[sI p0,sI p1,sI p2,sI p3,sI p4,sI r1,sU,sU,sU,sU,sU,sU,sU,sU,sU,sU] [(.int p4),(.int p3),(.int p2),(.int p0),(.int 1)])) rfl (by rw [hml]; rfl) (argsL := [(.int 1),(.int p0),(.int p2),(.int p3),(.int p4)]) (rest := []) (lenOf pd_19 rfl) rfl (own_rm rfl) (hb hby at_17) (fun _ _ => ⟨rfl,rfl,(by decide : 2 + 2 ≤ _),(by decide : 24 + 24 ≤ _)⟩)
  dsimp only [Pt.U, Pt.locs, Pt.cells, Pt.slots] at X2 l2 y2 z2 st2 hQ2 sn2 ge2 cr2
  obtain ⟨X2,hS2,hZ,hown⟩ := rebS hS1 (n1 := T1.heap.size) hk1 X2 sn2 ge2 hZ hown
  have hk2 : T2.heap.size ≤ T2.heap.size := Nat.le_refl _
  replace X2 := own_cast X2 l2 y2 z2
  obtain ⟨r2,rfl,hr2,N2q,K2q⟩ := hQ2
  have N2 := Fr.app N1 N2q
  have CR2 := CR1.trans cr2
  have CH2 := cr2.1
  have K2 := Keep.trans K1 K2q all0
  have Z2 := Nat.le_trans Z0 K2.1
  refine gv T2 20 #[sI p0,sI p1,sI p2,sI p3,sI p4,sI r1,sU,sU,sU,sU,sU,sU,sU,sU,sU,sU] [(.int r2)] (fun t k => st2.trans k) ?_
  refine gv T2 22 #[sI p0,sI p1,sI p2,sI p3,sI p4,sI r1,sI r2,sU,sU,sU,sU,sU,sU,sU,sU,sU] [] (fun t k => XS.istore X2.here hx rfl (hb hby at_20) rfl (l' := #[sI p0,sI p1,sI p2,sI p3,sI p4,sI r1,sI r2,sU,sU,sU,sU,sU,sU,sU,sU,sU]) rfl k) ?_
  refine gv T2 23 #[sI p0,sI p1,sI p2,sI p3,sI p4,sI r1,sI r2,sU,sU,sU,sU,sU,sU,sU,sU,sU] [(.int 2)] (fun t k => XS.iconst X2.here hx rfl (hb hby at_22) k) ?_
  refine gv T2 24 #[sI p0,sI p1,sI p2,sI p3,sI p4,sI r1,sI r2,sU,sU,sU,sU,sU,sU,sU,sU,sU] [(.int p0),(.int 2)] (fun t k => XS.iloadN X2.here hx rfl (hb hby at_23) rfl k) ?_
  refine gv T2 25 #[sI p0,sI p1,sI p2,sI p3,sI p4,sI r1,sI r2,sU,sU,sU,sU,sU,sU,sU,sU,sU] [(.int p2),(.int p0),(.int 2)] (fun t k => XS.iloadN X2.here hx rfl (hb hby at_24) rfl k) ?_
  refine gv T2 26 #[sI p0,sI p1,sI p2,sI p3,sI p4,sI r1,sI r2,sU,sU,sU,sU,sU,sU,sU,sU,sU] [(.int p3),(.int p2),(.int p0),(.int 2)] (fun t k => XS.iloadN X2.here hx rfl (hb hby at_25) rfl k) ?_
  refine gv T2 28 #[sI p0,sI p1,sI p2,sI p3,sI p4,sI r1,sI r2,sU,sU,sU,sU,sU,sU,sU,sU,sU] [(.int p4),(.int p3),(.int p2),(.int p0),(.int 2)] (fun t k => XS.iload X2.here hx rfl (hb hby at_26) rfl k) ?_
  obtain ⟨_,_,⟨T3,L3,k3,n3⟩,-,X3,sn3,ge3,⟨Lc3,hQ3,l3,y3,z3,cr3⟩,st3⟩ := callSS X2 hx (y := (⟨"com/example/tallyman/tallyman/ledger/PeriodNamedPinLaw","ch","(IIIII)C"⟩ : MethodName)) hown (mvT hZ (w_ hw 0 rfl)) (mvT hZ (w_ hw 1 rfl)) (mvT hZ (w_ hw 2 rfl)) (mvT hZ (w_ hw 3 rfl)) (by decide) (backOfSH (s := s) (vm0 := T2.vm) (W := 0) (rm1 l Z a0 hw [] (2 : Int32) p0 p2 p3 p4 wc vB T2.heap n0 Z2 (own_staKeep f0_COMPACT_STRINGS K2 all0) (own_staKeep f1_SIOOBE_FORMATTER K2 all0) hwc hr_vB (by decide)) hZ (w_ hw 3 rfl) (w_ hw 2 rfl) (by decide) (by decide) (own_EW hw) CH2) (g := (mkF m 28 #[sI p0,sI p1,sI p2,sI p3,sI p4,sI r1,sI r2,sU,sU,sU,sU,sU,sU,sU,sU,sU] [(.int p4),(.int p3),(.int p2),(.int p0),(.int 2)])) rfl (by rw [hml]; rfl) (argsL := [(.int 2),(.int p0),(.int p2),(.int p3),(.int p4)]) (rest := []) (lenOf pd_19 rfl) rfl (own_rm rfl) (hb hby at_28) (fun _ _ => ⟨rfl,rfl,(by decide : 4 + 2 ≤ _),(by decide : 48 + 24 ≤ _)⟩)
  dsimp only [Pt.U, Pt.locs, Pt.cells, Pt.slots] at X3 l3 y3 z3 st3 hQ3 sn3 ge3 cr3
  obtain ⟨X3,hS3,hZ,hown⟩ := rebS hS2 (n1 := T2.heap.size) hk2 X3 sn3 ge3 hZ hown
  have hk3 : T3.heap.size ≤ T3.heap.size := Nat.le_refl _
  replace X3 := own_cast X3 l3 y3 z3
  obtain ⟨r3,rfl,hr3,N3q,K3q⟩ := hQ3
  have N3 := Fr.app N2 N3q
  have CR3 := CR2.trans cr3
  have CH3 := cr3.1
  have K3 := Keep.trans K2 K3q all0
  have Z3 := Nat.le_trans Z0 K3.1
  refine gv T3 31 #[sI p0,sI p1,sI p2,sI p3,sI p4,sI r1,sI r2,sU,sU,sU,sU,sU,sU,sU,sU,sU] [(.int r3)] (fun t k => st3.trans k) ?_
  refine gv T3 33 #[sI p0,sI p1,sI p2,sI p3,sI p4,sI r1,sI r2,sI r3,sU,sU,sU,sU,sU,sU,sU,sU] [] (fun t k => XS.istore X3.here hx rfl (hb hby at_31) rfl (l' := #[sI p0,sI p1,sI p2,sI p3,sI p4,sI r1,sI r2,sI r3,sU,sU,sU,sU,sU,sU,sU,sU]) rfl k) ?_
  refine gv T3 34 #[sI p0,sI p1,sI p2,sI p3,sI p4,sI r1,sI r2,sI r3,sU,sU,sU,sU,sU,sU,sU,sU] [(.int 3)] (fun t k => XS.iconst X3.here hx rfl (hb hby at_33) k) ?_
  refine gv T3 35 #[sI p0,sI p1,sI p2,sI p3,sI p4,sI r1,sI r2,sI r3,sU,sU,sU,sU,sU,sU,sU,sU] [(.int p0),(.int 3)] (fun t k => XS.iloadN X3.here hx rfl (hb hby at_34) rfl k) ?_
  refine gv T3 36 #[sI p0,sI p1,sI p2,sI p3,sI p4,sI r1,sI r2,sI r3,sU,sU,sU,sU,sU,sU,sU,sU] [(.int p2),(.int p0),(.int 3)] (fun t k => XS.iloadN X3.here hx rfl (hb hby at_35) rfl k) ?_
  refine gv T3 37 #[sI p0,sI p1,sI p2,sI p3,sI p4,sI r1,sI r2,sI r3,sU,sU,sU,sU,sU,sU,sU,sU] [(.int p3),(.int p2),(.int p0),(.int 3)] (fun t k => XS.iloadN X3.here hx rfl (hb hby at_36) rfl k) ?_
  refine gv T3 39 #[sI p0,sI p1,sI p2,sI p3,sI p4,sI r1,sI r2,sI r3,sU,sU,sU,sU,sU,sU,sU,sU] [(.int p4),(.int p3),(.int p2),(.int p0),(.int 3)] (fun t k => XS.iload X3.here hx rfl (hb hby at_37) rfl k) ?_
  obtain ⟨_,_,⟨T4,L4,k4,n4⟩,-,X4,sn4,ge4,⟨Lc4,hQ4,l4,y4,z4,cr4⟩,st4⟩ := callSS X3 hx (y := (⟨"com/example/tallyman/tallyman/ledger/PeriodNamedPinLaw","ch","(IIIII)C"⟩ : MethodName)) hown (mvT hZ (w_ hw 0 rfl)) (mvT hZ (w_ hw 1 rfl)) (mvT hZ (w_ hw 2 rfl)) (mvT hZ (w_ hw 3 rfl)) (by decide) (backOfSH (s := s) (vm0 := T3.vm) (W := 0) (rm1 l Z a0 hw [] (3 : Int32) p0 p2 p3 p4 wc vB T3.heap n0 Z3 (own_staKeep f0_COMPACT_STRINGS K3 all0) (own_staKeep f1_SIOOBE_FORMATTER K3 all0) hwc hr_vB (by decide)) hZ (w_ hw 3 rfl) (w_ hw 2 rfl) (by decide) (by decide) (own_EW hw) CH3) (g := (mkF m 39 #[sI p0,sI p1,sI p2,sI p3,sI p4,sI r1,sI r2,sI r3,sU,sU,sU,sU,sU,sU,sU,sU] [(.int p4),(.int p3),(.int p2),(.int p0),(.int 3)])) rfl (by rw [hml]; rfl) (argsL := [(.int 3),(.int p0),(.int p2),(.int p3),(.int p4)]) (rest := []) (lenOf pd_19 rfl) rfl (own_rm rfl) (hb hby at_39) (fun _ _ => ⟨rfl,rfl,(by decide : 6 + 2 ≤ _),(by decide : 72 + 24 ≤ _)⟩)
  dsimp only [Pt.U, Pt.locs, Pt.cells, Pt.slots] at X4 l4 y4 z4 st4 hQ4 sn4 ge4 cr4
  obtain ⟨X4,hS4,hZ,hown⟩ := rebS hS3 (n1 := T3.heap.size) hk3 X4 sn4 ge4 hZ hown
  have hk4 : T4.heap.size ≤ T4.heap.size := Nat.le_refl _
  replace X4 := own_cast X4 l4 y4 z4
  obtain ⟨r4,rfl,hr4,N4q,K4q⟩ := hQ4
  have N4 := Fr.app N3 N4q
  have CR4 := CR3.trans cr4
  have CH4 := cr4.1
  have K4 := Keep.trans K3 K4q all0
  have Z4 := Nat.le_trans Z0 K4.1
  refine gv T4 42 #[sI p0,sI p1,sI p2,sI p3,sI p4,sI r1,sI r2,sI r3,sU,sU,sU,sU,sU,sU,sU,sU] [(.int r4)] (fun t k => st4.trans k) ?_
  refine gv T4 44 #[sI p0,sI p1,sI p2,sI p3,sI p4,sI r1,sI r2,sI r3,sI r4,sU,sU,sU,sU,sU,sU,sU] [] (fun t k => XS.istore X4.here hx rfl (hb hby at_42) rfl (l' := #[sI p0,sI p1,sI p2,sI p3,sI p4,sI r1,sI r2,sI r3,sI r4,sU,sU,sU,sU,sU,sU,sU]) rfl k) ?_
  refine gv T4 45 #[sI p0,sI p1,sI p2,sI p3,sI p4,sI r1,sI r2,sI r3,sI r4,sU,sU,sU,sU,sU,sU,sU] [(.int 4)] (fun t k => XS.iconst X4.here hx rfl (hb hby at_44) k) ?_
  refine gv T4 46 #[sI p0,sI p1,sI p2,sI p3,sI p4,sI r1,sI r2,sI r3,sI r4,sU,sU,sU,sU,sU,sU,sU] [(.int p0),(.int 4)] (fun t k => XS.iloadN X4.here hx rfl (hb hby at_45) rfl k) ?_
  refine gv T4 47 #[sI p0,sI p1,sI p2,sI p3,sI p4,sI r1,sI r2,sI r3,sI r4,sU,sU,sU,sU,sU,sU,sU] [(.int p2),(.int p0),(.int 4)] (fun t k => XS.iloadN X4.here hx rfl (hb hby at_46) rfl k) ?_
  refine gv T4 48 #[sI p0,sI p1,sI p2,sI p3,sI p4,sI r1,sI r2,sI r3,sI r4,sU,sU,sU,sU,sU,sU,sU] [(.int p3),(.int p2),(.int p0),(.int 4)] (fun t k => XS.iloadN X4.here hx rfl (hb hby at_47) rfl k) ?_
  refine gv T4 50 #[sI p0,sI p1,sI p2,sI p3,sI p4,sI r1,sI r2,sI r3,sI r4,sU,sU,sU,sU,sU,sU,sU] [(.int p4),(.int p3),(.int p2),(.int p0),(.int 4)] (fun t k => XS.iload X4.here hx rfl (hb hby at_48) rfl k) ?_
  obtain ⟨_,_,⟨T5,L5,k5,n5⟩,-,X5,sn5,ge5,⟨Lc5,hQ5,l5,y5,z5,cr5⟩,st5⟩ := callSS X4 hx (y := (⟨"com/example/tallyman/tallyman/ledger/PeriodNamedPinLaw","ch","(IIIII)C"⟩ : MethodName)) hown (mvT hZ (w_ hw 0 rfl)) (mvT hZ (w_ hw 1 rfl)) (mvT hZ (w_ hw 2 rfl)) (mvT hZ (w_ hw 3 rfl)) (by decide) (backOfSH (s := s) (vm0 := T4.vm) (W := 0) (rm1 l Z a0 hw [] (4 : Int32) p0 p2 p3 p4 wc vB T4.heap n0 Z4 (own_staKeep f0_COMPACT_STRINGS K4 all0) (own_staKeep f1_SIOOBE_FORMATTER K4 all0) hwc hr_vB (by decide)) hZ (w_ hw 3 rfl) (w_ hw 2 rfl) (by decide) (by decide) (own_EW hw) CH4) (g := (mkF m 50 #[sI p0,sI p1,sI p2,sI p3,sI p4,sI r1,sI r2,sI r3,sI r4,sU,sU,sU,sU,sU,sU,sU] [(.int p4),(.int p3),(.int p2),(.int p0),(.int 4)])) rfl (by rw [hml]; rfl) (argsL := [(.int 4),(.int p0),(.int p2),(.int p3),(.int p4)]) (rest := []) (lenOf pd_19 rfl) rfl (own_rm rfl) (hb hby at_50) (fun _ _ => ⟨rfl,rfl,(by decide : 8 + 2 ≤ _),(by decide : 96 + 24 ≤ _)⟩)
  dsimp only [Pt.U, Pt.locs, Pt.cells, Pt.slots] at X5 l5 y5 z5 st5 hQ5 sn5 ge5 cr5
  obtain ⟨X5,hS5,hZ,hown⟩ := rebS hS4 (n1 := T4.heap.size) hk4 X5 sn5 ge5 hZ hown
  have hk5 : T5.heap.size ≤ T5.heap.size := Nat.le_refl _
  replace X5 := own_cast X5 l5 y5 z5
  obtain ⟨r5,rfl,hr5,N5q,K5q⟩ := hQ5
  have N5 := Fr.app N4 N5q
  have CR5 := CR4.trans cr5
  have CH5 := cr5.1
  have K5 := Keep.trans K4 K5q all0
  have Z5 := Nat.le_trans Z0 K5.1
  refine gv T5 53 #[sI p0,sI p1,sI p2,sI p3,sI p4,sI r1,sI r2,sI r3,sI r4,sU,sU,sU,sU,sU,sU,sU] [(.int r5)] (fun t k => st5.trans k) ?_
  refine gv T5 55 #[sI p0,sI p1,sI p2,sI p3,sI p4,sI r1,sI r2,sI r3,sI r4,sI r5,sU,sU,sU,sU,sU,sU] [] (fun t k => XS.istore X5.here hx rfl (hb hby at_53) rfl (l' := #[sI p0,sI p1,sI p2,sI p3,sI p4,sI r1,sI r2,sI r3,sI r4,sI r5,sU,sU,sU,sU,sU,sU]) rfl k) ?_
  refine gv T5 56 #[sI p0,sI p1,sI p2,sI p3,sI p4,sI r1,sI r2,sI r3,sI r4,sI r5,sU,sU,sU,sU,sU,sU] [(.int 5)] (fun t k => XS.iconst X5.here hx rfl (hb hby at_55) k) ?_
  refine gv T5 57 #[sI p0,sI p1,sI p2,sI p3,sI p4,sI r1,sI r2,sI r3,sI r4,sI r5,sU,sU,sU,sU,sU,sU] [(.int p0),(.int 5)] (fun t k => XS.iloadN X5.here hx rfl (hb hby at_56) rfl k) ?_
  refine gv T5 58 #[sI p0,sI p1,sI p2,sI p3,sI p4,sI r1,sI r2,sI r3,sI r4,sI r5,sU,sU,sU,sU,sU,sU] [(.int p2),(.int p0),(.int 5)] (fun t k => XS.iloadN X5.here hx rfl (hb hby at_57) rfl k) ?_
  refine gv T5 59 #[sI p0,sI p1,sI p2,sI p3,sI p4,sI r1,sI r2,sI r3,sI r4,sI r5,sU,sU,sU,sU,sU,sU] [(.int p3),(.int p2),(.int p0),(.int 5)] (fun t k => XS.iloadN X5.here hx rfl (hb hby at_58) rfl k) ?_
  refine gv T5 61 #[sI p0,sI p1,sI p2,sI p3,sI p4,sI r1,sI r2,sI r3,sI r4,sI r5,sU,sU,sU,sU,sU,sU] [(.int p4),(.int p3),(.int p2),(.int p0),(.int 5)] (fun t k => XS.iload X5.here hx rfl (hb hby at_59) rfl k) ?_
  obtain ⟨_,_,⟨T6,L6,k6,n6⟩,-,X6,sn6,ge6,⟨Lc6,hQ6,l6,y6,z6,cr6⟩,st6⟩ := callSS X5 hx (y := (⟨"com/example/tallyman/tallyman/ledger/PeriodNamedPinLaw","ch","(IIIII)C"⟩ : MethodName)) hown (mvT hZ (w_ hw 0 rfl)) (mvT hZ (w_ hw 1 rfl)) (mvT hZ (w_ hw 2 rfl)) (mvT hZ (w_ hw 3 rfl)) (by decide) (backOfSH (s := s) (vm0 := T5.vm) (W := 0) (rm1 l Z a0 hw [] (5 : Int32) p0 p2 p3 p4 wc vB T5.heap n0 Z5 (own_staKeep f0_COMPACT_STRINGS K5 all0) (own_staKeep f1_SIOOBE_FORMATTER K5 all0) hwc hr_vB (by decide)) hZ (w_ hw 3 rfl) (w_ hw 2 rfl) (by decide) (by decide) (own_EW hw) CH5) (g := (mkF m 61 #[sI p0,sI p1,sI p2,sI p3,sI p4,sI r1,sI r2,sI r3,sI r4,sI r5,sU,sU,sU,sU,sU,sU] [(.int p4),(.int p3),(.int p2),(.int p0),(.int 5)])) rfl (by rw [hml]; rfl) (argsL := [(.int 5),(.int p0),(.int p2),(.int p3),(.int p4)]) (rest := []) (lenOf pd_19 rfl) rfl (own_rm rfl) (hb hby at_61) (fun _ _ => ⟨rfl,rfl,(by decide : 10 + 2 ≤ _),(by decide : 120 + 24 ≤ _)⟩)
  dsimp only [Pt.U, Pt.locs, Pt.cells, Pt.slots] at X6 l6 y6 z6 st6 hQ6 sn6 ge6 cr6
  obtain ⟨X6,hS6,hZ,hown⟩ := rebS hS5 (n1 := T5.heap.size) hk5 X6 sn6 ge6 hZ hown
  have hk6 : T6.heap.size ≤ T6.heap.size := Nat.le_refl _
  replace X6 := own_cast X6 l6 y6 z6
  obtain ⟨r6,rfl,hr6,N6q,K6q⟩ := hQ6
  have N6 := Fr.app N5 N6q
  have CR6 := CR5.trans cr6
  have CH6 := cr6.1
  have K6 := Keep.trans K5 K6q all0
  have Z6 := Nat.le_trans Z0 K6.1
  refine gv T6 64 #[sI p0,sI p1,sI p2,sI p3,sI p4,sI r1,sI r2,sI r3,sI r4,sI r5,sU,sU,sU,sU,sU,sU] [(.int r6)] (fun t k => st6.trans k) ?_
  refine gv T6 66 #[sI p0,sI p1,sI p2,sI p3,sI p4,sI r1,sI r2,sI r3,sI r4,sI r5,sI r6,sU,sU,sU,sU,sU] [] (fun t k => XS.istore X6.here hx rfl (hb hby at_64) rfl (l' := #[sI p0,sI p1,sI p2,sI p3,sI p4,sI r1,sI r2,sI r3,sI r4,sI r5,sI r6,sU,sU,sU,sU,sU]) rfl k) ?_
  refine gv T6 68 #[sI p0,sI p1,sI p2,sI p3,sI p4,sI r1,sI r2,sI r3,sI r4,sI r5,sI r6,sU,sU,sU,sU,sU] [(.int 6)] (fun t k => XS.bipush X6.here hx rfl (hb hby at_66) k) ?_
  refine gv T6 69 #[sI p0,sI p1,sI p2,sI p3,sI p4,sI r1,sI r2,sI r3,sI r4,sI r5,sI r6,sU,sU,sU,sU,sU] [(.int p0),(.int 6)] (fun t k => XS.iloadN X6.here hx rfl (hb hby at_68) rfl k) ?_
  refine gv T6 70 #[sI p0,sI p1,sI p2,sI p3,sI p4,sI r1,sI r2,sI r3,sI r4,sI r5,sI r6,sU,sU,sU,sU,sU] [(.int p2),(.int p0),(.int 6)] (fun t k => XS.iloadN X6.here hx rfl (hb hby at_69) rfl k) ?_
  refine gv T6 71 #[sI p0,sI p1,sI p2,sI p3,sI p4,sI r1,sI r2,sI r3,sI r4,sI r5,sI r6,sU,sU,sU,sU,sU] [(.int p3),(.int p2),(.int p0),(.int 6)] (fun t k => XS.iloadN X6.here hx rfl (hb hby at_70) rfl k) ?_
  refine gv T6 73 #[sI p0,sI p1,sI p2,sI p3,sI p4,sI r1,sI r2,sI r3,sI r4,sI r5,sI r6,sU,sU,sU,sU,sU] [(.int p4),(.int p3),(.int p2),(.int p0),(.int 6)] (fun t k => XS.iload X6.here hx rfl (hb hby at_71) rfl k) ?_
  obtain ⟨_,_,⟨T7,L7,k7,n7⟩,-,X7,sn7,ge7,⟨Lc7,hQ7,l7,y7,z7,cr7⟩,st7⟩ := callSS X6 hx (y := (⟨"com/example/tallyman/tallyman/ledger/PeriodNamedPinLaw","ch","(IIIII)C"⟩ : MethodName)) hown (mvT hZ (w_ hw 0 rfl)) (mvT hZ (w_ hw 1 rfl)) (mvT hZ (w_ hw 2 rfl)) (mvT hZ (w_ hw 3 rfl)) (by decide) (backOfSH (s := s) (vm0 := T6.vm) (W := 0) (rm1 l Z a0 hw [] (6 : Int32) p0 p2 p3 p4 wc vB T6.heap n0 Z6 (own_staKeep f0_COMPACT_STRINGS K6 all0) (own_staKeep f1_SIOOBE_FORMATTER K6 all0) hwc hr_vB (by decide)) hZ (w_ hw 3 rfl) (w_ hw 2 rfl) (by decide) (by decide) (own_EW hw) CH6) (g := (mkF m 73 #[sI p0,sI p1,sI p2,sI p3,sI p4,sI r1,sI r2,sI r3,sI r4,sI r5,sI r6,sU,sU,sU,sU,sU] [(.int p4),(.int p3),(.int p2),(.int p0),(.int 6)])) rfl (by rw [hml]; rfl) (argsL := [(.int 6),(.int p0),(.int p2),(.int p3),(.int p4)]) (rest := []) (lenOf pd_19 rfl) rfl (own_rm rfl) (hb hby at_73) (fun _ _ => ⟨rfl,rfl,(by decide : 12 + 2 ≤ _),(by decide : 144 + 24 ≤ _)⟩)
  dsimp only [Pt.U, Pt.locs, Pt.cells, Pt.slots] at X7 l7 y7 z7 st7 hQ7 sn7 ge7 cr7
  obtain ⟨X7,hS7,hZ,hown⟩ := rebS hS6 (n1 := T6.heap.size) hk6 X7 sn7 ge7 hZ hown
  have hk7 : T7.heap.size ≤ T7.heap.size := Nat.le_refl _
  replace X7 := own_cast X7 l7 y7 z7
  obtain ⟨r7,rfl,hr7,N7q,K7q⟩ := hQ7
  have N7 := Fr.app N6 N7q
  have CR7 := CR6.trans cr7
  have CH7 := cr7.1
  have K7 := Keep.trans K6 K7q all0
  have Z7 := Nat.le_trans Z0 K7.1
  refine gv T7 76 #[sI p0,sI p1,sI p2,sI p3,sI p4,sI r1,sI r2,sI r3,sI r4,sI r5,sI r6,sU,sU,sU,sU,sU] [(.int r7)] (fun t k => st7.trans k) ?_
  refine gv T7 78 #[sI p0,sI p1,sI p2,sI p3,sI p4,sI r1,sI r2,sI r3,sI r4,sI r5,sI r6,sI r7,sU,sU,sU,sU] [] (fun t k => XS.istore X7.here hx rfl (hb hby at_76) rfl (l' := #[sI p0,sI p1,sI p2,sI p3,sI p4,sI r1,sI r2,sI r3,sI r4,sI r5,sI r6,sI r7,sU,sU,sU,sU]) rfl k) ?_
  refine gv T7 79 #[sI p0,sI p1,sI p2,sI p3,sI p4,sI r1,sI r2,sI r3,sI r4,sI r5,sI r6,sI r7,sU,sU,sU,sU] [(.int p1)] (fun t k => XS.iloadN X7.here hx rfl (hb hby at_78) rfl k) ?_
  refine gv T7 81 #[sI p0,sI p1,sI p2,sI p3,sI p4,sI r1,sI r2,sI r3,sI r4,sI r5,sI r6,sI r7,sU,sU,sU,sU] [(.int 7),(.int p1)] (fun t k => XS.bipush X7.here hx rfl (hb hby at_79) k) ?_
  refine gv T7 82 #[sI p0,sI p1,sI p2,sI p3,sI p4,sI r1,sI r2,sI r3,sI r4,sI r5,sI r6,sI r7,sU,sU,sU,sU] [(.int (p1 &&& (7 : Int32)))] (fun t k => XS.iand X7.here hx rfl (hb hby at_81) rfl k) ?_
  obtain ⟨nn,h_nn⟩ : ∃ z : Int32,z = (p1 &&& (7 : Int32)) := ⟨_,rfl⟩
  rw [← h_nn]
  refine gv T7 84 #[sI p0,sI p1,sI p2,sI p3,sI p4,sI r1,sI r2,sI r3,sI r4,sI r5,sI r6,sI r7,sI nn,sU,sU,sU] [] (fun t k => XS.istore X7.here hx rfl (hb hby at_82) rfl (l' := #[sI p0,sI p1,sI p2,sI p3,sI p4,sI r1,sI r2,sI r3,sI r4,sI r5,sI r6,sI r7,sI nn,sU,sU,sU]) rfl k) ?_
  refine gv T7 86 #[sI p0,sI p1,sI p2,sI p3,sI p4,sI r1,sI r2,sI r3,sI r4,sI r5,sI r6,sI r7,sI nn,sU,sU,sU] [(.int nn)] (fun t k => XS.iload X7.here hx rfl (hb hby at_84) rfl k) ?_
  by_cases hc8 : (nn = (0 : Int32))
  · refine gv T7 89 #[sI p0,sI p1,sI p2,sI p3,sI p4,sI r1,sI r2,sI r3,sI r4,sI r5,sI r6,sI r7,sI nn,sU,sU,sU] [] (fun t k => XS.ifNo X7.here hx rfl (hb hby at_86) rfl ((if0 _ _).trans (teq hc8).2) k) ?_
    obtain ⟨T9,h9,X9,e9,E9,A9,D9,-,st9⟩ := newO X7 hx hZ hown (w_ hw 50 rfl) (w_ hw 9 rfl) (w_ hw 8 rfl) rfl (g := (mkF m 89 #[sI p0,sI p1,sI p2,sI p3,sI p4,sI r1,sI r2,sI r3,sI r4,sI r5,sI r6,sI r7,sI nn,sU,sU,sU] [])) rfl (hb hby at_89) (by decide) (by decide)
    obtain ⟨b9,g9⟩ : ∃ z,z = T7.heap.size := ⟨_,rfl⟩
    rw [← g9] at A9 D9 st9
    have cr9 := CHr.ext E9 CH7
    have CR9 := CR7.trans cr9
    have CH9 := cr9.1
    have hk9 := Nat.le_trans hk7 cr9.2.1
    have K9 := Keep.ext K7 E9
    have Z9 := Nat.le_trans Z0 K9.1
    have g_b9 : n0 ≤ b9 := Nat.le_trans Z7 (Nat.le_of_eq g9.symm)
    have sz_b9 : h0.size ≤ b9 := Nat.le_trans (K7).1 (Nat.le_of_eq g9.symm)
    have f10 : Exa Z h9 b9 "java/lang/String" := A9
    have f11 := Safe.ext E9 CH7 (Safe.new (Nat.le_of_eq g9.symm))
    have f12 : Fld Z h9 b9 "java/lang/String" "value" "[B" .null := D9 (Or.inr (w_ hw 11 rfl)) (ty := (.array .byte)) (by decide)
    have f13 : Fld Z h9 b9 "java/lang/String" "coder" "B" (.int 0) := D9 (Or.inr (w_ hw 12 rfl)) (ty := .byte) (by decide)
    refine gv T9 92 #[sI p0,sI p1,sI p2,sI p3,sI p4,sI r1,sI r2,sI r3,sI r4,sI r5,sI r6,sI r7,sI nn,sU,sU,sU] [(.ref b9)] (fun t k => st9 _ k) ?_
    refine gv T9 93 #[sI p0,sI p1,sI p2,sI p3,sI p4,sI r1,sI r2,sI r3,sI r4,sI r5,sI r6,sI r7,sI nn,sU,sU,sU] [(.ref b9),(.ref b9)] (fun t k => XS.dup X9.here hx rfl (hb hby at_92) rfl rfl k) ?_
    refine gv T9 94 #[sI p0,sI p1,sI p2,sI p3,sI p4,sI r1,sI r2,sI r3,sI r4,sI r5,sI r6,sI r7,sI nn,sU,sU,sU] [(.int 0),(.ref b9),(.ref b9)] (fun t k => XS.iconst X9.here hx rfl (hb hby at_93) k) ?_
    obtain ⟨T14,h14,k14,X14,e14,E14,A14,st14⟩ := newP X9 hx hZ (w_ hw 51 rfl) e9 (g := (mkF m 94 #[sI p0,sI p1,sI p2,sI p3,sI p4,sI r1,sI r2,sI r3,sI r4,sI r5,sI r6,sI r7,sI nn,sU,sU,sU] [(.int 0),(.ref b9),(.ref b9)])) rfl (hb hby at_94) rfl (by decide) (cap := 0) (by decide) (by decide) (by decide) (by decide)
    obtain ⟨b14,g14⟩ : ∃ z,z = h9.size := ⟨_,rfl⟩
    rw [← g14] at A14 st14
    have f15 := f10.ext E14
    have f16 := Safe.ext E14 CH9 f11
    have f17 := f12.ext E14
    have f18 := f13.ext E14
    have cr14 := CHr.ext E14 CH9
    have CR14 := CR9.trans cr14
    have CH14 := cr14.1
    have hk14 := Nat.le_trans hk9 cr14.2.1
    have K14 := Keep.ext K9 E14
    have Z14 := Nat.le_trans Z0 K14.1
    have g_b14 : n0 ≤ b14 := Nat.le_trans Z9 (Nat.le_of_eq g14.symm)
    have sz_b14 : h0.size ≤ b14 := Nat.le_trans (K9).1 (Nat.le_of_eq g14.symm)
    have ne_b9_b14 : b9 ≠ b14 := Nat.ne_of_lt (Nat.lt_of_lt_of_le f10.lt (Nat.le_of_eq g14.symm))
    have f19 : Arv Z h14 b14 k14 .char (0 : Int32) [] (.int 0) := Arv.new A14 (by decide)
    have f20 := Safe.ext E14 CH9 (Safe.new (Nat.le_of_eq g14.symm))
    refine gv T14 96 #[sI p0,sI p1,sI p2,sI p3,sI p4,sI r1,sI r2,sI r3,sI r4,sI r5,sI r6,sI r7,sI nn,sU,sU,sU] [(.ref b14),(.ref b9),(.ref b9)] (fun t k => st14 _ k) ?_
    obtain ⟨_,_,⟨T21,L21,k21,n21⟩,-,X21,sn21,ge21,⟨Lc21,hQ21,l21,y21,z21,cr21⟩,st21⟩ := X14.specialBackS hx (y := (⟨"java/lang/String","<init>","([C)V"⟩ : MethodName)) rfl hown (mvT hZ (w_ hw 52 rfl)) (mvT hZ (w_ hw 53 rfl)) (mvT hZ (w_ hw 54 rfl)) (by decide) (backOfSH (s := s) (vm0 := T7.vm) (W := 1) (rm100 l Z a0 hw [] b9 b14 k14 (.int 0) h14 n0 Z14 f15 f18 f17 f19 ne_b9_b14 g_b9) hZ (w_ hw 54 rfl) (w_ hw 8 rfl) (by decide) (by decide) (own_EW hw) CH14) (g := (mkF m 96 #[sI p0,sI p1,sI p2,sI p3,sI p4,sI r1,sI r2,sI r3,sI r4,sI r5,sI r6,sI r7,sI nn,sU,sU,sU] [(.ref b14),(.ref b9),(.ref b9)])) rfl (by rw [hml]; rfl) (Steps.refl _) (a := b9) (argsL := [(.ref b14)]) (rest := [(.ref b9)]) (lenOf pd_20 rfl) rfl (own_rm rfl) (hb hby at_96) (fun _ _ => ⟨rfl,e14,(by decide : 16 + 2 ≤ _),(by decide : 172 + 4 ≤ _)⟩)
    dsimp only [Pt.U, Pt.locs, Pt.cells, Pt.slots] at X21 l21 y21 z21 st21 hQ21 sn21 ge21 cr21
    obtain ⟨X21,hS21,hZ,hown⟩ := rebS hS7 (n1 := T14.heap.size) (by rw [e14]; exact hk14) X21 sn21 ge21 hZ hown
    have hk21 : T21.heap.size ≤ T21.heap.size := Nat.le_refl _
    replace X21 := own_cast X21 l21 y21 z21
    obtain ⟨yb_21,kb_21,rfl,N21q,K21q,po21_0,po21_1,po21_2,po21_3⟩ := hQ21
    have N21 := Fr.app N7 N21q
    have f22 := f15.keep K21q
    have f23 := f19.keep K21q (ninS (Ne.symm ne_b9_b14) nin0)
    have CR21 := CR14.trans cr21
    have CH21 := cr21.1
    have f24 := CHr.safe cr21 f15.lt f16
    have f25 := CHr.safe cr21 f19.lt f20
    have K21 := Keep.trans K14 K21q (allS (Or.inr sz_b9) all0)
    have Z21 := Nat.le_trans Z0 K21.1
    refine gv T21 99 #[sI p0,sI p1,sI p2,sI p3,sI p4,sI r1,sI r2,sI r3,sI r4,sI r5,sI r6,sI r7,sI nn,sU,sU,sU] [(.ref b9)] (fun t k => st21.trans k) ?_
    refine gv T21 101 #[sI p0,sI p1,sI p2,sI p3,sI p4,sI r1,sI r2,sI r3,sI r4,sI r5,sI r6,sI r7,sI nn,sR b9,sU,sU] [] (fun t k => XS.astore X21.here hx rfl (hb hby at_99) rfl rfl (l' := #[sI p0,sI p1,sI p2,sI p3,sI p4,sI r1,sI r2,sI r3,sI r4,sI r5,sI r6,sI r7,sI nn,sR b9,sU,sU]) rfl k) ?_
    refine gv T21 386 #[sI p0,sI p1,sI p2,sI p3,sI p4,sI r1,sI r2,sI r3,sI r4,sI r5,sI r6,sI r7,sI nn,sR b9,sU,sU] [] (fun t k => XS.goto X21.here hx rfl (pc0 := 101) (pc' := 386) rfl (hb hby at_101) (by decide) (by decide) k) ?_
    refine gv T21 388 #[sI p0,sI p1,sI p2,sI p3,sI p4,sI r1,sI r2,sI r3,sI r4,sI r5,sI r6,sI r7,sI nn,sR b9,sU,sU] [(.ref b9)] (fun t k => XS.aload X21.here hx rfl (hb hby at_386) rfl rfl k) ?_
    obtain ⟨b26,T26,h26,kz26,d26,k26,X26,e26,E26,hS26,hk26,hZ,hown,A26,C26,V26,R26,lta26,ltb26,cr26,Lt26,Nn26,st26⟩ := ldcCH X21 hx hZ hown (w_ hw 7 rfl) (own_wS hw) rfl hS21 hk21 (own_EW hw) (own_mem (by decide)) CH21 (vs := [(.int 100),(.int 97),(.int 121)]) (z := (3 : Int32)) ⟨by decide,rfl⟩ (by decide) rfl (g := (mkF m 388 #[sI p0,sI p1,sI p2,sI p3,sI p4,sI r1,sI r2,sI r3,sI r4,sI r5,sI r6,sI r7,sI nn,sR b9,sU,sU] [(.ref b9)])) rfl (hb hby at_388) (n := 12) (by decide) (by decide) (by decide) (by decide)
    have f27 := po21_0.ext E26
    have f28 := f23.ext E26
    have f29 := po21_1.ext E26
    have f30 := po21_2.ext E26
    have f31 := po21_3.ext E26
    have CR26 := CR21.trans cr26
    have CH26 := cr26.1
    have f32 := CHr.safe cr26 po21_0.lt f24
    have f33 := CHr.safe cr26 f23.lt f25
    have K26 := Keep.ext K21 E26
    have Z26 := Nat.le_trans Z0 K26.1
    have f34 : Exa Z h26 b26 "java/lang/String" := A26
    have f35 : Fld Z h26 b26 "java/lang/String" "coder" "B" (.int 0) := C26
    have f36 : Fld Z h26 b26 "java/lang/String" "value" "[B" (.ref d26) := V26
    have f37 : Arv Z h26 d26 k26 .byte (3 : Int32) [(.int 100),(.int 97),(.int 121)] (.int 0) := R26
    refine gv T26 390 #[sI p0,sI p1,sI p2,sI p3,sI p4,sI r1,sI r2,sI r3,sI r4,sI r5,sI r6,sI r7,sI nn,sR b9,sU,sU] [(.ref b26),(.ref b9)] (fun t k => st26 _ k) ?_
    obtain ⟨cq38,kq38,q38a,q38b,q38c⟩ := isOf hZ e26 f27
    obtain ⟨_,_,⟨T38,L38,k38,n38⟩,-,X38,⟨Lc38,hQ38,l38,y38,z38⟩,st38⟩ := X26.virtualBack hx (y := (⟨"java/lang/String","equals","(Ljava/lang/Object;)Z"⟩ : MethodName)) (z := (⟨"java/lang/String","equals","(Ljava/lang/Object;)Z"⟩ : MethodName)) hown (mvT hZ (w_ hw 72 rfl)) (mvT hZ (w_ hw 73 rfl)) (notFace_of_selects (args := #[]) (mvT hZ (w_ hw 75 rfl))) (mvT hZ (w_ hw 75 rfl)) (mvT hZ (w_ hw 74 rfl)) (by decide) (backOf (W := 0) (rm16x l Z a0 hw [] b9 b26 yb_21 d26 kb_21 k26 (0 : Int32) (3 : Int32) ([] : List Value) ([(.int 100),(.int 97),(.int 121)] : List Value) wc h26 n0 Z26 f27 f29 f30 f31 f34 f35 f36 f37 (own_staKeep f0_COMPACT_STRINGS K26 all0) (Nn26 _ f32).1 (by decide) hwc) hZ (w_ hw 76 rfl) (w_ hw 8 rfl) (by decide) (by decide)) q38a q38c (g := (mkF m 390 #[sI p0,sI p1,sI p2,sI p3,sI p4,sI r1,sI r2,sI r3,sI r4,sI r5,sI r6,sI r7,sI nn,sR b9,sU,sU] [(.ref b26),(.ref b9)])) rfl (by rw [hml]; rfl) (Steps.refl _) (argsL := [(.ref b26)]) (rest := []) (lenOf pd_16 rfl) rfl (own_rm rfl) (hb hby at_390) (fun _ _ => ⟨rfl,e26,(by decide : 20 + 0 ≤ _),(by decide : 192 + 0 ≤ _)⟩)
    dsimp only [Pt.U, Pt.locs, Pt.cells, Pt.slots] at X38 l38 y38 z38 st38 hQ38
    replace X38 := own_cast X38 l38 y38 z38
    obtain ⟨rfl,N38q,eq38⟩ := hQ38
    have N38 := Fr.app N21 N38q
    refine gv T38 393 #[sI p0,sI p1,sI p2,sI p3,sI p4,sI r1,sI r2,sI r3,sI r4,sI r5,sI r6,sI r7,sI nn,sR b9,sU,sU] [(.int 0)] (fun t k => st38.trans k) ?_
    refine gv T38 404 #[sI p0,sI p1,sI p2,sI p3,sI p4,sI r1,sI r2,sI r3,sI r4,sI r5,sI r6,sI r7,sI nn,sR b9,sU,sU] [] (fun t k => XS.ifYes X38.here hx rfl (pc0 := 393) (pc' := 404) rfl (hb hby at_393) rfl ((if0 _ _).trans (teq rfl).1) (by decide) (by decide) k) ?_
    refine gv T38 406 #[sI p0,sI p1,sI p2,sI p3,sI p4,sI r1,sI r2,sI r3,sI r4,sI r5,sI r6,sI r7,sI nn,sR b9,sU,sU] [(.ref b9)] (fun t k => XS.aload X38.here hx rfl (hb hby at_404) rfl rfl k) ?_
    obtain ⟨b39,T39,h39,kz39,d39,k39,X39,e39,E39,hS39,hk39,hZ,hown,A39,C39,V39,R39,lta39,ltb39,cr39,Lt39,Nn39,st39⟩ := ldcCH X38 hx hZ hown (w_ hw 130 rfl) (own_wS hw) eq38 hS26 hk26 (own_EW hw) (own_mem (by decide)) CH26 (vs := [(.int 109),(.int 111),(.int 110),(.int 116),(.int 104)]) (z := (5 : Int32)) ⟨by decide,rfl⟩ (by decide) rfl (g := (mkF m 406 #[sI p0,sI p1,sI p2,sI p3,sI p4,sI r1,sI r2,sI r3,sI r4,sI r5,sI r6,sI r7,sI nn,sR b9,sU,sU] [(.ref b9)])) rfl (hb hby at_406) (n := 20) (by decide) (by decide) (by decide) (by decide)
    have f40 := f27.ext E39
    have f41 := f28.ext E39
    have f42 := f29.ext E39
    have f43 := f30.ext E39
    have f44 := f31.ext E39
    have f45 := f34.ext E39
    have f46 := f35.ext E39
    have f47 := f36.ext E39
    have f48 := f37.ext E39
    have CR39 := CR26.trans cr39
    have CH39 := cr39.1
    have f49 := CHr.safe cr39 f27.lt f32
    have f50 := CHr.safe cr39 f28.lt f33
    have K39 := Keep.ext K26 E39
    have Z39 := Nat.le_trans Z0 K39.1
    have f51 : Exa Z h39 b39 "java/lang/String" := A39
    have f52 : Fld Z h39 b39 "java/lang/String" "coder" "B" (.int 0) := C39
    have f53 : Fld Z h39 b39 "java/lang/String" "value" "[B" (.ref d39) := V39
    have f54 : Arv Z h39 d39 k39 .byte (5 : Int32) [(.int 109),(.int 111),(.int 110),(.int 116),(.int 104)] (.int 0) := R39
    refine gv T39 408 #[sI p0,sI p1,sI p2,sI p3,sI p4,sI r1,sI r2,sI r3,sI r4,sI r5,sI r6,sI r7,sI nn,sR b9,sU,sU] [(.ref b39),(.ref b9)] (fun t k => st39 _ k) ?_
    obtain ⟨cq55,kq55,q55a,q55b,q55c⟩ := isOf hZ e39 f40
    obtain ⟨_,_,⟨T55,L55,k55,n55⟩,-,X55,⟨Lc55,hQ55,l55,y55,z55⟩,st55⟩ := X39.virtualBack hx (y := (⟨"java/lang/String","equals","(Ljava/lang/Object;)Z"⟩ : MethodName)) (z := (⟨"java/lang/String","equals","(Ljava/lang/Object;)Z"⟩ : MethodName)) hown (mvT hZ (w_ hw 72 rfl)) (mvT hZ (w_ hw 73 rfl)) (notFace_of_selects (args := #[]) (mvT hZ (w_ hw 75 rfl))) (mvT hZ (w_ hw 75 rfl)) (mvT hZ (w_ hw 74 rfl)) (by decide) (backOf (W := 0) (rm16x l Z a0 hw [] b9 b39 yb_21 d39 kb_21 k39 (0 : Int32) (5 : Int32) ([] : List Value) ([(.int 109),(.int 111),(.int 110),(.int 116),(.int 104)] : List Value) wc h39 n0 Z39 f40 f42 f43 f44 f51 f52 f53 f54 (own_staKeep f0_COMPACT_STRINGS K39 all0) (Nn39 _ f49).1 (by decide) hwc) hZ (w_ hw 76 rfl) (w_ hw 8 rfl) (by decide) (by decide)) q55a q55c (g := (mkF m 408 #[sI p0,sI p1,sI p2,sI p3,sI p4,sI r1,sI r2,sI r3,sI r4,sI r5,sI r6,sI r7,sI nn,sR b9,sU,sU] [(.ref b39),(.ref b9)])) rfl (by rw [hml]; rfl) (Steps.refl _) (argsL := [(.ref b39)]) (rest := []) (lenOf pd_16 rfl) rfl (own_rm rfl) (hb hby at_408) (fun _ _ => ⟨rfl,e39,(by decide : 22 + 0 ≤ _),(by decide : 216 + 0 ≤ _)⟩)
    dsimp only [Pt.U, Pt.locs, Pt.cells, Pt.slots] at X55 l55 y55 z55 st55 hQ55
    replace X55 := own_cast X55 l55 y55 z55
    obtain ⟨rfl,N55q,eq55⟩ := hQ55
    have N55 := Fr.app N38 N55q
    refine gv T55 411 #[sI p0,sI p1,sI p2,sI p3,sI p4,sI r1,sI r2,sI r3,sI r4,sI r5,sI r6,sI r7,sI nn,sR b9,sU,sU] [(.int 0)] (fun t k => st55.trans k) ?_
    refine gv T55 422 #[sI p0,sI p1,sI p2,sI p3,sI p4,sI r1,sI r2,sI r3,sI r4,sI r5,sI r6,sI r7,sI nn,sR b9,sU,sU] [] (fun t k => XS.ifYes X55.here hx rfl (pc0 := 411) (pc' := 422) rfl (hb hby at_411) rfl ((if0 _ _).trans (teq rfl).1) (by decide) (by decide) k) ?_
    refine gv T55 423 #[sI p0,sI p1,sI p2,sI p3,sI p4,sI r1,sI r2,sI r3,sI r4,sI r5,sI r6,sI r7,sI nn,sR b9,sU,sU] [.null] (fun t k => XS.aconstNull X55.here hx rfl (hb hby at_422) k) ?_
    refine gv T55 425 #[sI p0,sI p1,sI p2,sI p3,sI p4,sI r1,sI r2,sI r3,sI r4,sI r5,sI r6,sI r7,sI nn,sR b9,.val .null,sU] [] (fun t k => XS.astore X55.here hx rfl (hb hby at_423) rfl rfl (l' := #[sI p0,sI p1,sI p2,sI p3,sI p4,sI r1,sI r2,sI r3,sI r4,sI r5,sI r6,sI r7,sI nn,sR b9,.val .null,sU]) rfl k) ?_
    refine gv T55 427 #[sI p0,sI p1,sI p2,sI p3,sI p4,sI r1,sI r2,sI r3,sI r4,sI r5,sI r6,sI r7,sI nn,sR b9,.val .null,sU] [(.ref b9)] (fun t k => XS.aload X55.here hx rfl (hb hby at_425) rfl rfl k) ?_
    obtain ⟨_,_,⟨T56,L56,k56,n56⟩,-,X56,⟨Lc56,hQ56,l56,y56,z56⟩,st56⟩ := Jvm.LawKit.callS X55 hx (y := (⟨"com/example/tallyman/tallyman/ledger/Period","named","(Ljava/lang/String;)Ljava/util/Optional;"⟩ : MethodName)) hown (mvT hZ (w_ hw 84 rfl)) (mvT hZ (w_ hw 85 rfl)) (mvT hZ (w_ hw 82 rfl)) (mvT hZ (w_ hw 86 rfl)) (by decide) (backOf (W := 0) (rm18x l Z a0 hw [] b9 yV kV dd mm td bd kd tm bm km oe wc yb_21 kb_21 (0 : Int32) ([] : List Value) h39 n0 Z39 (own_staKeep f4__VALUES K39 all0) (f5_yV.keep K39 nin0) (f6_yV.keep K39) (f9_dd_text.keep K39 nin0) (f10_td.keep K39) (f11_td_coder.keep K39 nin0) (f12_td_value.keep K39 nin0) (f13_bd.keep K39 nin0) (f14_mm_text.keep K39 nin0) (f15_tm.keep K39) (f16_tm_coder.keep K39 nin0) (f17_tm_value.keep K39 nin0) (f18_bm.keep K39 nin0) (own_staKeep f19_EMPTY K39 all0) (own_staKeep f0_COMPACT_STRINGS K39 all0) f40 f42 f43 f44 (Nat.ne_of_lt (Nat.lt_of_lt_of_le f10_td.lt sz_b9)) (Nat.ne_of_lt (Nat.lt_of_lt_of_le f15_tm.lt sz_b9)) hwc (by decide) (by decide)) hZ (w_ hw 86 rfl) (w_ hw 82 rfl) (by decide) (by decide)) (g := (mkF m 427 #[sI p0,sI p1,sI p2,sI p3,sI p4,sI r1,sI r2,sI r3,sI r4,sI r5,sI r6,sI r7,sI nn,sR b9,.val .null,sU] [(.ref b9)])) rfl (by rw [hml]; rfl) (argsL := [(.ref b9)]) (rest := []) (lenOf pd_21 rfl) rfl (own_rm rfl) (hb hby at_427) (fun _ _ => ⟨rfl,eq55,(by decide : 22 + 1 ≤ _),(by decide : 216 + 2 ≤ _)⟩)
    dsimp only [Pt.U, Pt.locs, Pt.cells, Pt.slots] at X56 l56 y56 z56 st56 hQ56
    replace X56 := own_cast X56 l56 y56 z56
    obtain ⟨rfl,N56q,K56q⟩ := hQ56
    have N56 := Fr.app N55 N56q
    have f57 := f40.keep K56q
    have f58 := f41.keep K56q nin0
    have f59 := f42.keep K56q nin0
    have f60 := f43.keep K56q nin0
    have f61 := f44.keep K56q nin0
    have f62 := f45.keep K56q
    have f63 := f46.keep K56q nin0
    have f64 := f47.keep K56q nin0
    have f65 := f48.keep K56q nin0
    have f66 := Safe.keep K56q all0 CH39 f49
    have f67 := Safe.keep K56q all0 CH39 f50
    have f68 := f51.keep K56q
    have f69 := f52.keep K56q nin0
    have f70 := f53.keep K56q nin0
    have f71 := f54.keep K56q nin0
    have cr56 := CHr.keep K56q all0 CH39
    have CR56 := CR39.trans cr56
    have CH56 := cr56.1
    have hk56 := Nat.le_trans hk39 cr56.2.1
    have K56 := Keep.trans K39 K56q all0
    have Z56 := Nat.le_trans Z0 K56.1
    refine gv T56 430 #[sI p0,sI p1,sI p2,sI p3,sI p4,sI r1,sI r2,sI r3,sI r4,sI r5,sI r6,sI r7,sI nn,sR b9,.val .null,sU] [(.ref oe)] (fun t k => st56 _ k) ?_
    refine gv T56 431 #[sI p0,sI p1,sI p2,sI p3,sI p4,sI r1,sI r2,sI r3,sI r4,sI r5,sI r6,sI r7,sI nn,sR b9,.val .null,sU] [.null,(.ref oe)] (fun t k => XS.aconstNull X56.here hx rfl (hb hby at_430) k) ?_
    obtain ⟨cq72,kq72,q72a,q72b,q72c⟩ := isOf hZ rfl (f20_oe.keep K56)
    obtain ⟨_,_,⟨T72,L72,k72,n72⟩,-,X72,⟨Lc72,hQ72,l72,y72,z72⟩,st72⟩ := X56.virtualBack hx (y := (⟨"java/util/Optional","orElse","(Ljava/lang/Object;)Ljava/lang/Object;"⟩ : MethodName)) (z := (⟨"java/util/Optional","orElse","(Ljava/lang/Object;)Ljava/lang/Object;"⟩ : MethodName)) hown (mvT hZ (w_ hw 123 rfl)) (mvT hZ (w_ hw 124 rfl)) (notFace_of_selects (args := #[]) (mvT hZ (w_ hw 126 rfl))) (mvT hZ (w_ hw 126 rfl)) (mvT hZ (w_ hw 125 rfl)) (by decide) (backOf (W := 0) (rm23n l Z a0 hw [] oe T56.heap n0 Z56 (f21_oe_value.keep K56 nin0)) hZ (w_ hw 127 rfl) (w_ hw 108 rfl) (by decide) (by decide)) q72a q72c (g := (mkF m 431 #[sI p0,sI p1,sI p2,sI p3,sI p4,sI r1,sI r2,sI r3,sI r4,sI r5,sI r6,sI r7,sI nn,sR b9,.val .null,sU] [.null,(.ref oe)])) rfl (by rw [hml]; rfl) (Steps.refl _) (argsL := [.null]) (rest := []) (lenOf pd_13 rfl) rfl (own_rm rfl) (hb hby at_431) (fun _ _ => ⟨rfl,rfl,(by decide : 23 + 0 ≤ _),(by decide : 218 + 0 ≤ _)⟩)
    dsimp only [Pt.U, Pt.locs, Pt.cells, Pt.slots] at X72 l72 y72 z72 st72 hQ72
    replace X72 := own_cast X72 l72 y72 z72
    obtain ⟨rfl,N72q,eq72⟩ := hQ72
    have N72 := Fr.app N56 N72q
    refine gv T72 434 #[sI p0,sI p1,sI p2,sI p3,sI p4,sI r1,sI r2,sI r3,sI r4,sI r5,sI r6,sI r7,sI nn,sR b9,.val .null,sU] [.null] (fun t k => st72.trans k) ?_
    refine gv T72 437 #[sI p0,sI p1,sI p2,sI p3,sI p4,sI r1,sI r2,sI r3,sI r4,sI r5,sI r6,sI r7,sI nn,sR b9,.val .null,sU] [.null] (fun t k => X72.checkcastNull hx (g := (mkF m 434 #[sI p0,sI p1,sI p2,sI p3,sI p4,sI r1,sI r2,sI r3,sI r4,sI r5,sI r6,sI r7,sI nn,sR b9,.val .null,sU] [.null])) rfl rfl (hb hby at_434) _ k) ?_
    refine gv T72 439 #[sI p0,sI p1,sI p2,sI p3,sI p4,sI r1,sI r2,sI r3,sI r4,sI r5,sI r6,sI r7,sI nn,sR b9,.val .null,.val .null] [] (fun t k => XS.astore X72.here hx rfl (hb hby at_437) rfl rfl (l' := #[sI p0,sI p1,sI p2,sI p3,sI p4,sI r1,sI r2,sI r3,sI r4,sI r5,sI r6,sI r7,sI nn,sR b9,.val .null,.val .null]) rfl k) ?_
    refine gv T72 441 #[sI p0,sI p1,sI p2,sI p3,sI p4,sI r1,sI r2,sI r3,sI r4,sI r5,sI r6,sI r7,sI nn,sR b9,.val .null,.val .null] [.null] (fun t k => XS.aload X72.here hx rfl (hb hby at_439) rfl rfl k) ?_
    refine gv T72 443 #[sI p0,sI p1,sI p2,sI p3,sI p4,sI r1,sI r2,sI r3,sI r4,sI r5,sI r6,sI r7,sI nn,sR b9,.val .null,.val .null] [.null,.null] (fun t k => XS.aload X72.here hx rfl (hb hby at_441) rfl rfl k) ?_
    refine gv T72 446 #[sI p0,sI p1,sI p2,sI p3,sI p4,sI r1,sI r2,sI r3,sI r4,sI r5,sI r6,sI r7,sI nn,sR b9,.val .null,.val .null] [] (fun t k => Jvm.RoadKit.acmp (g := (mkF m 443 #[sI p0,sI p1,sI p2,sI p3,sI p4,sI r1,sI r2,sI r3,sI r4,sI r5,sI r6,sI r7,sI nn,sR b9,.val .null,.val .null] [.null,.null])) X72 hx rfl rfl rfl (pc0 := 443) (pc' := 446) (same := true) rfl (hb hby at_443) rfl (decide_eq_true rfl) (by decide) (by decide) k) ?_
    refine gv T72 447 #[sI p0,sI p1,sI p2,sI p3,sI p4,sI r1,sI r2,sI r3,sI r4,sI r5,sI r6,sI r7,sI nn,sR b9,.val .null,.val .null] [(.int 1)] (fun t k => XS.iconst X72.here hx rfl (hb hby at_446) k) ?_
    refine gv T72 451 #[sI p0,sI p1,sI p2,sI p3,sI p4,sI r1,sI r2,sI r3,sI r4,sI r5,sI r6,sI r7,sI nn,sR b9,.val .null,.val .null] [(.int 1)] (fun t k => XS.goto X72.here hx rfl (pc0 := 447) (pc' := 451) rfl (hb hby at_447) (by decide) (by decide) k) ?_
    exact own_retW X72 hx Bd.notSynchronized Bd.returns rfl (Or.inl ⟨rfl,by simp,_,rfl⟩) (hb hby at_451) eq72 hS39 hk56 hZ (own_EW hw) CR56 hh ⟨rfl,N72⟩ (by decide) (by decide)
  · refine gv T7 104 #[sI p0,sI p1,sI p2,sI p3,sI p4,sI r1,sI r2,sI r3,sI r4,sI r5,sI r6,sI r7,sI nn,sU,sU,sU] [] (fun t k => XS.ifYes X7.here hx rfl (pc0 := 86) (pc' := 104) rfl (hb hby at_86) rfl ((if0 _ _).trans (feq hc8).2) (by decide) (by decide) k) ?_
    refine gv T7 106 #[sI p0,sI p1,sI p2,sI p3,sI p4,sI r1,sI r2,sI r3,sI r4,sI r5,sI r6,sI r7,sI nn,sU,sU,sU] [(.int nn)] (fun t k => XS.iload X7.here hx rfl (hb hby at_104) rfl k) ?_
    refine gv T7 107 #[sI p0,sI p1,sI p2,sI p3,sI p4,sI r1,sI r2,sI r3,sI r4,sI r5,sI r6,sI r7,sI nn,sU,sU,sU] [(.int 1),(.int nn)] (fun t k => XS.iconst X7.here hx rfl (hb hby at_106) k) ?_
    by_cases hc74 : (nn = (1 : Int32))
    · refine gv T7 110 #[sI p0,sI p1,sI p2,sI p3,sI p4,sI r1,sI r2,sI r3,sI r4,sI r5,sI r6,sI r7,sI nn,sU,sU,sU] [] (fun t k => XS.icmpNo X7.here hx rfl (hb hby at_107) rfl (teq hc74).2 k) ?_
      obtain ⟨T75,h75,X75,e75,E75,A75,D75,-,st75⟩ := newO X7 hx hZ hown (w_ hw 50 rfl) (w_ hw 9 rfl) (w_ hw 8 rfl) rfl (g := (mkF m 110 #[sI p0,sI p1,sI p2,sI p3,sI p4,sI r1,sI r2,sI r3,sI r4,sI r5,sI r6,sI r7,sI nn,sU,sU,sU] [])) rfl (hb hby at_110) (by decide) (by decide)
      obtain ⟨b75,g75⟩ : ∃ z,z = T7.heap.size := ⟨_,rfl⟩
      rw [← g75] at A75 D75 st75
      have cr75 := CHr.ext E75 CH7
      have CR75 := CR7.trans cr75
      have CH75 := cr75.1
      have hk75 := Nat.le_trans hk7 cr75.2.1
      have K75 := Keep.ext K7 E75
      have Z75 := Nat.le_trans Z0 K75.1
      have g_b75 : n0 ≤ b75 := Nat.le_trans Z7 (Nat.le_of_eq g75.symm)
      have sz_b75 : h0.size ≤ b75 := Nat.le_trans (K7).1 (Nat.le_of_eq g75.symm)
      have f76 : Exa Z h75 b75 "java/lang/String" := A75
      have f77 := Safe.ext E75 CH7 (Safe.new (Nat.le_of_eq g75.symm))
      have f78 : Fld Z h75 b75 "java/lang/String" "value" "[B" .null := D75 (Or.inr (w_ hw 11 rfl)) (ty := (.array .byte)) (by decide)
      have f79 : Fld Z h75 b75 "java/lang/String" "coder" "B" (.int 0) := D75 (Or.inr (w_ hw 12 rfl)) (ty := .byte) (by decide)
      refine gv T75 113 #[sI p0,sI p1,sI p2,sI p3,sI p4,sI r1,sI r2,sI r3,sI r4,sI r5,sI r6,sI r7,sI nn,sU,sU,sU] [(.ref b75)] (fun t k => st75 _ k) ?_
      refine gv T75 114 #[sI p0,sI p1,sI p2,sI p3,sI p4,sI r1,sI r2,sI r3,sI r4,sI r5,sI r6,sI r7,sI nn,sU,sU,sU] [(.ref b75),(.ref b75)] (fun t k => XS.dup X75.here hx rfl (hb hby at_113) rfl rfl k) ?_
      refine gv T75 115 #[sI p0,sI p1,sI p2,sI p3,sI p4,sI r1,sI r2,sI r3,sI r4,sI r5,sI r6,sI r7,sI nn,sU,sU,sU] [(.int 1),(.ref b75),(.ref b75)] (fun t k => XS.iconst X75.here hx rfl (hb hby at_114) k) ?_
      obtain ⟨T80,h80,k80,X80,e80,E80,A80,st80⟩ := newP X75 hx hZ (w_ hw 51 rfl) e75 (g := (mkF m 115 #[sI p0,sI p1,sI p2,sI p3,sI p4,sI r1,sI r2,sI r3,sI r4,sI r5,sI r6,sI r7,sI nn,sU,sU,sU] [(.int 1),(.ref b75),(.ref b75)])) rfl (hb hby at_115) rfl (by decide) (cap := 1) (by decide) (by decide) (by decide) (by decide)
      obtain ⟨b80,g80⟩ : ∃ z,z = h75.size := ⟨_,rfl⟩
      rw [← g80] at A80 st80
      have f81 := f76.ext E80
      have f82 := Safe.ext E80 CH75 f77
      have f83 := f78.ext E80
      have f84 := f79.ext E80
      have cr80 := CHr.ext E80 CH75
      have CR80 := CR75.trans cr80
      have CH80 := cr80.1
      have hk80 := Nat.le_trans hk75 cr80.2.1
      have K80 := Keep.ext K75 E80
      have Z80 := Nat.le_trans Z0 K80.1
      have g_b80 : n0 ≤ b80 := Nat.le_trans Z75 (Nat.le_of_eq g80.symm)
      have sz_b80 : h0.size ≤ b80 := Nat.le_trans (K75).1 (Nat.le_of_eq g80.symm)
      have ne_b75_b80 : b75 ≠ b80 := Nat.ne_of_lt (Nat.lt_of_lt_of_le f76.lt (Nat.le_of_eq g80.symm))
      have f85 : Arv Z h80 b80 k80 .char (1 : Int32) [(.int 0)] (.int 0) := (Arv.new A80 (by decide)).pad (pad_rep [] (.int 0) 1)
      have f86 := Safe.ext E80 CH75 (Safe.new (Nat.le_of_eq g80.symm))
      refine gv T80 117 #[sI p0,sI p1,sI p2,sI p3,sI p4,sI r1,sI r2,sI r3,sI r4,sI r5,sI r6,sI r7,sI nn,sU,sU,sU] [(.ref b80),(.ref b75),(.ref b75)] (fun t k => st80 _ k) ?_
      refine gv T80 118 #[sI p0,sI p1,sI p2,sI p3,sI p4,sI r1,sI r2,sI r3,sI r4,sI r5,sI r6,sI r7,sI nn,sU,sU,sU] [(.ref b80),(.ref b80),(.ref b75),(.ref b75)] (fun t k => XS.dup X80.here hx rfl (hb hby at_117) rfl rfl k) ?_
      refine gv T80 119 #[sI p0,sI p1,sI p2,sI p3,sI p4,sI r1,sI r2,sI r3,sI r4,sI r5,sI r6,sI r7,sI nn,sU,sU,sU] [(.int 0),(.ref b80),(.ref b80),(.ref b75),(.ref b75)] (fun t k => XS.iconst X80.here hx rfl (hb hby at_118) k) ?_
      refine gv T80 121 #[sI p0,sI p1,sI p2,sI p3,sI p4,sI r1,sI r2,sI r3,sI r4,sI r5,sI r6,sI r7,sI nn,sU,sU,sU] [(.int r1),(.int 0),(.ref b80),(.ref b80),(.ref b75),(.ref b75)] (fun t k => XS.iload X80.here hx rfl (hb hby at_119) rfl k) ?_
      obtain ⟨cl87,Ar87,q87,S87,M87,Hs87,G87⟩ := id f85
      have hin87 : ¬ ((0 : Int32) < 0 ∨ cl87.slots.size ≤ ((0 : Int32)).toNatClampNeg) := inb_of S87 ⟨by decide,by decide⟩
      obtain ⟨T87,h87,X87,e87,W87,st87⟩ := stC X80 hx hZ e80 Ar87 (j := (0 : Int32)) hin87 (g := (mkF m 121 #[sI p0,sI p1,sI p2,sI p3,sI p4,sI r1,sI r2,sI r3,sI r4,sI r5,sI r6,sI r7,sI nn,sU,sU,sU] [(.int r1),(.int 0),(.ref b80),(.ref b80),(.ref b75),(.ref b75)])) rfl rfl (hb hby at_121)
      have f88 := f81.wr W87
      have f89 := Safe.wr W87 f86 CH80 f82
      have f90 := f83.other W87 (Or.inl ne_b75_b80)
      have f91 := f84.other W87 (Or.inl ne_b75_b80)
      have f92 := Safe.wr W87 f86 CH80 f86
      have f93 : Arv Z h87 b80 k80 .char (1 : Int32) [(.int (nar .char r1))] (.int 0) := Arv.set Ar87 q87 S87 M87 Hs87 G87 (fits_nar_char _) W87 0 rfl (Nat.le_of_ble_eq_true rfl)
      have cr87 := CHr.wr W87 f86 CH80
      have CR87 := CR80.trans cr87
      have CH87 := cr87.1
      have hk87 := Nat.le_trans hk80 cr87.2.1
      have K87 := Keep.wr K80 W87 (Or.inr sz_b80)
      have Z87 := Nat.le_trans Z0 K87.1
      have N87 := Fr.snoc X87 N7 g_b80
      refine gv T87 122 #[sI p0,sI p1,sI p2,sI p3,sI p4,sI r1,sI r2,sI r3,sI r4,sI r5,sI r6,sI r7,sI nn,sU,sU,sU] [(.ref b80),(.ref b75),(.ref b75)] (fun t k => st87 _ k) ?_
      obtain ⟨_,_,⟨T94,L94,k94,n94⟩,-,X94,⟨Lc94,hQ94,l94,y94,z94⟩,st94⟩ := X87.specialBack hx (y := (⟨"java/lang/String","<init>","([C)V"⟩ : MethodName)) rfl hown (mvT hZ (w_ hw 52 rfl)) (mvT hZ (w_ hw 53 rfl)) (mvT hZ (w_ hw 54 rfl)) (by decide) (backOf (W := 1) (rm101 l Z a0 hw [] b75 b80 k80 wc (.int 0) .null (nar .char r1) h87 n0 Z87 f88 f91 f90 f93 (own_staKeep f0_COMPACT_STRINGS K87 all0) ne_b75_b80 g_b75 (own_ncR hr1) hwc) hZ (w_ hw 54 rfl) (w_ hw 8 rfl) (by decide) (by decide)) (g := (mkF m 122 #[sI p0,sI p1,sI p2,sI p3,sI p4,sI r1,sI r2,sI r3,sI r4,sI r5,sI r6,sI r7,sI nn,sU,sU,sU] [(.ref b80),(.ref b75),(.ref b75)])) rfl (by rw [hml]; rfl) (Steps.refl _) (a := b75) (argsL := [(.ref b80)]) (rest := [(.ref b75)]) (lenOf pd_20 rfl) rfl (own_rm rfl) (hb hby at_122) (fun _ _ => ⟨rfl,e87,(by decide : 16 + 1 ≤ _),(by decide : 173 + 1 ≤ _)⟩)
      dsimp only [Pt.U, Pt.locs, Pt.cells, Pt.slots] at X94 l94 y94 z94 st94 hQ94
      replace X94 := own_cast X94 l94 y94 z94
      obtain ⟨yb_94,kb_94,rfl,N94q,K94q,po94_0,po94_1,po94_2,po94_3,px94_g_yb,px94_sz_yb⟩ := hQ94
      have N94 := Fr.app N87 N94q
      have f95 := f88.keep K94q
      have f96 := Safe.keep K94q (allS f89 all0) CH87 f89
      have f97 := Safe.keep K94q (allS f89 all0) CH87 f92
      have f98 := f93.keep K94q (ninS (Ne.symm ne_b75_b80) nin0)
      have cr94 := CHr.keep K94q (allS f89 all0) CH87
      have CR94 := CR87.trans cr94
      have CH94 := cr94.1
      have hk94 := Nat.le_trans hk87 cr94.2.1
      have K94 := Keep.trans K87 K94q (allS (Or.inr sz_b75) all0)
      have Z94 := Nat.le_trans Z0 K94.1
      have g_yb_94 := px94_g_yb
      have sz_yb_94 : h0.size ≤ yb_94 := Nat.le_trans (K87).1 px94_sz_yb
      have ne_b75_yb_94 : b75 ≠ yb_94 := Nat.ne_of_lt (Nat.lt_of_lt_of_le f88.lt px94_sz_yb)
      have ne_b80_yb_94 : b80 ≠ yb_94 := Nat.ne_of_lt (Nat.lt_of_lt_of_le f93.lt px94_sz_yb)
      refine gv T94 125 #[sI p0,sI p1,sI p2,sI p3,sI p4,sI r1,sI r2,sI r3,sI r4,sI r5,sI r6,sI r7,sI nn,sU,sU,sU] [(.ref b75)] (fun t k => st94.trans k) ?_
      refine gv T94 127 #[sI p0,sI p1,sI p2,sI p3,sI p4,sI r1,sI r2,sI r3,sI r4,sI r5,sI r6,sI r7,sI nn,sR b75,sU,sU] [] (fun t k => XS.astore X94.here hx rfl (hb hby at_125) rfl rfl (l' := #[sI p0,sI p1,sI p2,sI p3,sI p4,sI r1,sI r2,sI r3,sI r4,sI r5,sI r6,sI r7,sI nn,sR b75,sU,sU]) rfl k) ?_
      refine gv T94 386 #[sI p0,sI p1,sI p2,sI p3,sI p4,sI r1,sI r2,sI r3,sI r4,sI r5,sI r6,sI r7,sI nn,sR b75,sU,sU] [] (fun t k => XS.goto X94.here hx rfl (pc0 := 127) (pc' := 386) rfl (hb hby at_127) (by decide) (by decide) k) ?_
      refine gv T94 388 #[sI p0,sI p1,sI p2,sI p3,sI p4,sI r1,sI r2,sI r3,sI r4,sI r5,sI r6,sI r7,sI nn,sR b75,sU,sU] [(.ref b75)] (fun t k => XS.aload X94.here hx rfl (hb hby at_386) rfl rfl k) ?_
      obtain ⟨b99,T99,h99,kz99,d99,k99,X99,e99,E99,hS99,hk99,hZ,hown,A99,C99,V99,R99,lta99,ltb99,cr99,Lt99,Nn99,st99⟩ := ldcCH X94 hx hZ hown (w_ hw 7 rfl) (own_wS hw) rfl hS7 hk94 (own_EW hw) (own_mem (by decide)) CH94 (vs := [(.int 100),(.int 97),(.int 121)]) (z := (3 : Int32)) ⟨by decide,rfl⟩ (by decide) rfl (g := (mkF m 388 #[sI p0,sI p1,sI p2,sI p3,sI p4,sI r1,sI r2,sI r3,sI r4,sI r5,sI r6,sI r7,sI nn,sR b75,sU,sU] [(.ref b75)])) rfl (hb hby at_388) (n := 12) (by decide) (by decide) (by decide) (by decide)
      have f100 := po94_0.ext E99
      have f101 := f98.ext E99
      have f102 := po94_1.ext E99
      have f103 := po94_2.ext E99
      have f104 := po94_3.ext E99
      have CR99 := CR94.trans cr99
      have CH99 := cr99.1
      have f105 := CHr.safe cr99 po94_0.lt f96
      have f106 := CHr.safe cr99 f98.lt f97
      have K99 := Keep.ext K94 E99
      have Z99 := Nat.le_trans Z0 K99.1
      have f107 : Exa Z h99 b99 "java/lang/String" := A99
      have f108 : Fld Z h99 b99 "java/lang/String" "coder" "B" (.int 0) := C99
      have f109 : Fld Z h99 b99 "java/lang/String" "value" "[B" (.ref d99) := V99
      have f110 : Arv Z h99 d99 k99 .byte (3 : Int32) [(.int 100),(.int 97),(.int 121)] (.int 0) := R99
      refine gv T99 390 #[sI p0,sI p1,sI p2,sI p3,sI p4,sI r1,sI r2,sI r3,sI r4,sI r5,sI r6,sI r7,sI nn,sR b75,sU,sU] [(.ref b99),(.ref b75)] (fun t k => st99 _ k) ?_
      obtain ⟨cq111,kq111,q111a,q111b,q111c⟩ := isOf hZ e99 f100
      obtain ⟨_,_,⟨T111,L111,k111,n111⟩,-,X111,⟨Lc111,hQ111,l111,y111,z111⟩,st111⟩ := X99.virtualBack hx (y := (⟨"java/lang/String","equals","(Ljava/lang/Object;)Z"⟩ : MethodName)) (z := (⟨"java/lang/String","equals","(Ljava/lang/Object;)Z"⟩ : MethodName)) hown (mvT hZ (w_ hw 72 rfl)) (mvT hZ (w_ hw 73 rfl)) (notFace_of_selects (args := #[]) (mvT hZ (w_ hw 75 rfl))) (mvT hZ (w_ hw 75 rfl)) (mvT hZ (w_ hw 74 rfl)) (by decide) (backOf (W := 0) (rm16x l Z a0 hw [] b75 b99 yb_94 d99 kb_94 k99 (1 : Int32) (3 : Int32) ([(.int (bN r1))] : List Value) ([(.int 100),(.int 97),(.int 121)] : List Value) wc h99 n0 Z99 f100 f102 f103 f104 f107 f108 f109 f110 (own_staKeep f0_COMPACT_STRINGS K99 all0) (Nn99 _ f105).1 (by decide) hwc) hZ (w_ hw 76 rfl) (w_ hw 8 rfl) (by decide) (by decide)) q111a q111c (g := (mkF m 390 #[sI p0,sI p1,sI p2,sI p3,sI p4,sI r1,sI r2,sI r3,sI r4,sI r5,sI r6,sI r7,sI nn,sR b75,sU,sU] [(.ref b99),(.ref b75)])) rfl (by rw [hml]; rfl) (Steps.refl _) (argsL := [(.ref b99)]) (rest := []) (lenOf pd_16 rfl) rfl (own_rm rfl) (hb hby at_390) (fun _ _ => ⟨rfl,e99,(by decide : 19 + 0 ≤ _),(by decide : 190 + 0 ≤ _)⟩)
      dsimp only [Pt.U, Pt.locs, Pt.cells, Pt.slots] at X111 l111 y111 z111 st111 hQ111
      replace X111 := own_cast X111 l111 y111 z111
      obtain ⟨rfl,N111q,eq111⟩ := hQ111
      have N111 := Fr.app N94 N111q
      refine gv T111 393 #[sI p0,sI p1,sI p2,sI p3,sI p4,sI r1,sI r2,sI r3,sI r4,sI r5,sI r6,sI r7,sI nn,sR b75,sU,sU] [(.int 0)] (fun t k => st111.trans k) ?_
      refine gv T111 404 #[sI p0,sI p1,sI p2,sI p3,sI p4,sI r1,sI r2,sI r3,sI r4,sI r5,sI r6,sI r7,sI nn,sR b75,sU,sU] [] (fun t k => XS.ifYes X111.here hx rfl (pc0 := 393) (pc' := 404) rfl (hb hby at_393) rfl ((if0 _ _).trans (teq rfl).1) (by decide) (by decide) k) ?_
      refine gv T111 406 #[sI p0,sI p1,sI p2,sI p3,sI p4,sI r1,sI r2,sI r3,sI r4,sI r5,sI r6,sI r7,sI nn,sR b75,sU,sU] [(.ref b75)] (fun t k => XS.aload X111.here hx rfl (hb hby at_404) rfl rfl k) ?_
      obtain ⟨b112,T112,h112,kz112,d112,k112,X112,e112,E112,hS112,hk112,hZ,hown,A112,C112,V112,R112,lta112,ltb112,cr112,Lt112,Nn112,st112⟩ := ldcCH X111 hx hZ hown (w_ hw 130 rfl) (own_wS hw) eq111 hS99 hk99 (own_EW hw) (own_mem (by decide)) CH99 (vs := [(.int 109),(.int 111),(.int 110),(.int 116),(.int 104)]) (z := (5 : Int32)) ⟨by decide,rfl⟩ (by decide) rfl (g := (mkF m 406 #[sI p0,sI p1,sI p2,sI p3,sI p4,sI r1,sI r2,sI r3,sI r4,sI r5,sI r6,sI r7,sI nn,sR b75,sU,sU] [(.ref b75)])) rfl (hb hby at_406) (n := 20) (by decide) (by decide) (by decide) (by decide)
      have f113 := f100.ext E112
      have f114 := f101.ext E112
      have f115 := f102.ext E112
      have f116 := f103.ext E112
      have f117 := f104.ext E112
      have f118 := f107.ext E112
      have f119 := f108.ext E112
      have f120 := f109.ext E112
      have f121 := f110.ext E112
      have CR112 := CR99.trans cr112
      have CH112 := cr112.1
      have f122 := CHr.safe cr112 f100.lt f105
      have f123 := CHr.safe cr112 f101.lt f106
      have K112 := Keep.ext K99 E112
      have Z112 := Nat.le_trans Z0 K112.1
      have f124 : Exa Z h112 b112 "java/lang/String" := A112
      have f125 : Fld Z h112 b112 "java/lang/String" "coder" "B" (.int 0) := C112
      have f126 : Fld Z h112 b112 "java/lang/String" "value" "[B" (.ref d112) := V112
      have f127 : Arv Z h112 d112 k112 .byte (5 : Int32) [(.int 109),(.int 111),(.int 110),(.int 116),(.int 104)] (.int 0) := R112
      refine gv T112 408 #[sI p0,sI p1,sI p2,sI p3,sI p4,sI r1,sI r2,sI r3,sI r4,sI r5,sI r6,sI r7,sI nn,sR b75,sU,sU] [(.ref b112),(.ref b75)] (fun t k => st112 _ k) ?_
      obtain ⟨cq128,kq128,q128a,q128b,q128c⟩ := isOf hZ e112 f113
      obtain ⟨_,_,⟨T128,L128,k128,n128⟩,-,X128,⟨Lc128,hQ128,l128,y128,z128⟩,st128⟩ := X112.virtualBack hx (y := (⟨"java/lang/String","equals","(Ljava/lang/Object;)Z"⟩ : MethodName)) (z := (⟨"java/lang/String","equals","(Ljava/lang/Object;)Z"⟩ : MethodName)) hown (mvT hZ (w_ hw 72 rfl)) (mvT hZ (w_ hw 73 rfl)) (notFace_of_selects (args := #[]) (mvT hZ (w_ hw 75 rfl))) (mvT hZ (w_ hw 75 rfl)) (mvT hZ (w_ hw 74 rfl)) (by decide) (backOf (W := 0) (rm16x l Z a0 hw [] b75 b112 yb_94 d112 kb_94 k112 (1 : Int32) (5 : Int32) ([(.int (bN r1))] : List Value) ([(.int 109),(.int 111),(.int 110),(.int 116),(.int 104)] : List Value) wc h112 n0 Z112 f113 f115 f116 f117 f124 f125 f126 f127 (own_staKeep f0_COMPACT_STRINGS K112 all0) (Nn112 _ f122).1 (by decide) hwc) hZ (w_ hw 76 rfl) (w_ hw 8 rfl) (by decide) (by decide)) q128a q128c (g := (mkF m 408 #[sI p0,sI p1,sI p2,sI p3,sI p4,sI r1,sI r2,sI r3,sI r4,sI r5,sI r6,sI r7,sI nn,sR b75,sU,sU] [(.ref b112),(.ref b75)])) rfl (by rw [hml]; rfl) (Steps.refl _) (argsL := [(.ref b112)]) (rest := []) (lenOf pd_16 rfl) rfl (own_rm rfl) (hb hby at_408) (fun _ _ => ⟨rfl,e112,(by decide : 21 + 0 ≤ _),(by decide : 214 + 0 ≤ _)⟩)
      dsimp only [Pt.U, Pt.locs, Pt.cells, Pt.slots] at X128 l128 y128 z128 st128 hQ128
      replace X128 := own_cast X128 l128 y128 z128
      obtain ⟨rfl,N128q,eq128⟩ := hQ128
      have N128 := Fr.app N111 N128q
      refine gv T128 411 #[sI p0,sI p1,sI p2,sI p3,sI p4,sI r1,sI r2,sI r3,sI r4,sI r5,sI r6,sI r7,sI nn,sR b75,sU,sU] [(.int 0)] (fun t k => st128.trans k) ?_
      refine gv T128 422 #[sI p0,sI p1,sI p2,sI p3,sI p4,sI r1,sI r2,sI r3,sI r4,sI r5,sI r6,sI r7,sI nn,sR b75,sU,sU] [] (fun t k => XS.ifYes X128.here hx rfl (pc0 := 411) (pc' := 422) rfl (hb hby at_411) rfl ((if0 _ _).trans (teq rfl).1) (by decide) (by decide) k) ?_
      refine gv T128 423 #[sI p0,sI p1,sI p2,sI p3,sI p4,sI r1,sI r2,sI r3,sI r4,sI r5,sI r6,sI r7,sI nn,sR b75,sU,sU] [.null] (fun t k => XS.aconstNull X128.here hx rfl (hb hby at_422) k) ?_
      refine gv T128 425 #[sI p0,sI p1,sI p2,sI p3,sI p4,sI r1,sI r2,sI r3,sI r4,sI r5,sI r6,sI r7,sI nn,sR b75,.val .null,sU] [] (fun t k => XS.astore X128.here hx rfl (hb hby at_423) rfl rfl (l' := #[sI p0,sI p1,sI p2,sI p3,sI p4,sI r1,sI r2,sI r3,sI r4,sI r5,sI r6,sI r7,sI nn,sR b75,.val .null,sU]) rfl k) ?_
      refine gv T128 427 #[sI p0,sI p1,sI p2,sI p3,sI p4,sI r1,sI r2,sI r3,sI r4,sI r5,sI r6,sI r7,sI nn,sR b75,.val .null,sU] [(.ref b75)] (fun t k => XS.aload X128.here hx rfl (hb hby at_425) rfl rfl k) ?_
      obtain ⟨_,_,⟨T129,L129,k129,n129⟩,-,X129,⟨Lc129,hQ129,l129,y129,z129⟩,st129⟩ := Jvm.LawKit.callS X128 hx (y := (⟨"com/example/tallyman/tallyman/ledger/Period","named","(Ljava/lang/String;)Ljava/util/Optional;"⟩ : MethodName)) hown (mvT hZ (w_ hw 84 rfl)) (mvT hZ (w_ hw 85 rfl)) (mvT hZ (w_ hw 82 rfl)) (mvT hZ (w_ hw 86 rfl)) (by decide) (backOf (W := 0) (rm18x l Z a0 hw [] b75 yV kV dd mm td bd kd tm bm km oe wc yb_94 kb_94 (1 : Int32) ([(.int (bN r1))] : List Value) h112 n0 Z112 (own_staKeep f4__VALUES K112 all0) (f5_yV.keep K112 nin0) (f6_yV.keep K112) (f9_dd_text.keep K112 nin0) (f10_td.keep K112) (f11_td_coder.keep K112 nin0) (f12_td_value.keep K112 nin0) (f13_bd.keep K112 nin0) (f14_mm_text.keep K112 nin0) (f15_tm.keep K112) (f16_tm_coder.keep K112 nin0) (f17_tm_value.keep K112 nin0) (f18_bm.keep K112 nin0) (own_staKeep f19_EMPTY K112 all0) (own_staKeep f0_COMPACT_STRINGS K112 all0) f113 f115 f116 f117 (Nat.ne_of_lt (Nat.lt_of_lt_of_le f10_td.lt sz_b75)) (Nat.ne_of_lt (Nat.lt_of_lt_of_le f15_tm.lt sz_b75)) hwc (by decide) (by decide)) hZ (w_ hw 86 rfl) (w_ hw 82 rfl) (by decide) (by decide)) (g := (mkF m 427 #[sI p0,sI p1,sI p2,sI p3,sI p4,sI r1,sI r2,sI r3,sI r4,sI r5,sI r6,sI r7,sI nn,sR b75,.val .null,sU] [(.ref b75)])) rfl (by rw [hml]; rfl) (argsL := [(.ref b75)]) (rest := []) (lenOf pd_21 rfl) rfl (own_rm rfl) (hb hby at_427) (fun _ _ => ⟨rfl,eq128,(by decide : 21 + 1 ≤ _),(by decide : 214 + 2 ≤ _)⟩)
      dsimp only [Pt.U, Pt.locs, Pt.cells, Pt.slots] at X129 l129 y129 z129 st129 hQ129
      replace X129 := own_cast X129 l129 y129 z129
      obtain ⟨rfl,N129q,K129q⟩ := hQ129
      have N129 := Fr.app N128 N129q
      have f130 := f113.keep K129q
      have f131 := f114.keep K129q nin0
      have f132 := f115.keep K129q nin0
      have f133 := f116.keep K129q nin0
      have f134 := f117.keep K129q nin0
      have f135 := f118.keep K129q
      have f136 := f119.keep K129q nin0
      have f137 := f120.keep K129q nin0
      have f138 := f121.keep K129q nin0
      have f139 := Safe.keep K129q all0 CH112 f122
      have f140 := Safe.keep K129q all0 CH112 f123
      have f141 := f124.keep K129q
      have f142 := f125.keep K129q nin0
      have f143 := f126.keep K129q nin0
      have f144 := f127.keep K129q nin0
      have cr129 := CHr.keep K129q all0 CH112
      have CR129 := CR112.trans cr129
      have CH129 := cr129.1
      have hk129 := Nat.le_trans hk112 cr129.2.1
      have K129 := Keep.trans K112 K129q all0
      have Z129 := Nat.le_trans Z0 K129.1
      refine gv T129 430 #[sI p0,sI p1,sI p2,sI p3,sI p4,sI r1,sI r2,sI r3,sI r4,sI r5,sI r6,sI r7,sI nn,sR b75,.val .null,sU] [(.ref oe)] (fun t k => st129 _ k) ?_
      refine gv T129 431 #[sI p0,sI p1,sI p2,sI p3,sI p4,sI r1,sI r2,sI r3,sI r4,sI r5,sI r6,sI r7,sI nn,sR b75,.val .null,sU] [.null,(.ref oe)] (fun t k => XS.aconstNull X129.here hx rfl (hb hby at_430) k) ?_
      obtain ⟨cq145,kq145,q145a,q145b,q145c⟩ := isOf hZ rfl (f20_oe.keep K129)
      obtain ⟨_,_,⟨T145,L145,k145,n145⟩,-,X145,⟨Lc145,hQ145,l145,y145,z145⟩,st145⟩ := X129.virtualBack hx (y := (⟨"java/util/Optional","orElse","(Ljava/lang/Object;)Ljava/lang/Object;"⟩ : MethodName)) (z := (⟨"java/util/Optional","orElse","(Ljava/lang/Object;)Ljava/lang/Object;"⟩ : MethodName)) hown (mvT hZ (w_ hw 123 rfl)) (mvT hZ (w_ hw 124 rfl)) (notFace_of_selects (args := #[]) (mvT hZ (w_ hw 126 rfl))) (mvT hZ (w_ hw 126 rfl)) (mvT hZ (w_ hw 125 rfl)) (by decide) (backOf (W := 0) (rm23n l Z a0 hw [] oe T129.heap n0 Z129 (f21_oe_value.keep K129 nin0)) hZ (w_ hw 127 rfl) (w_ hw 108 rfl) (by decide) (by decide)) q145a q145c (g := (mkF m 431 #[sI p0,sI p1,sI p2,sI p3,sI p4,sI r1,sI r2,sI r3,sI r4,sI r5,sI r6,sI r7,sI nn,sR b75,.val .null,sU] [.null,(.ref oe)])) rfl (by rw [hml]; rfl) (Steps.refl _) (argsL := [.null]) (rest := []) (lenOf pd_13 rfl) rfl (own_rm rfl) (hb hby at_431) (fun _ _ => ⟨rfl,rfl,(by decide : 22 + 0 ≤ _),(by decide : 216 + 0 ≤ _)⟩)
      dsimp only [Pt.U, Pt.locs, Pt.cells, Pt.slots] at X145 l145 y145 z145 st145 hQ145
      replace X145 := own_cast X145 l145 y145 z145
      obtain ⟨rfl,N145q,eq145⟩ := hQ145
      have N145 := Fr.app N129 N145q
      refine gv T145 434 #[sI p0,sI p1,sI p2,sI p3,sI p4,sI r1,sI r2,sI r3,sI r4,sI r5,sI r6,sI r7,sI nn,sR b75,.val .null,sU] [.null] (fun t k => st145.trans k) ?_
      refine gv T145 437 #[sI p0,sI p1,sI p2,sI p3,sI p4,sI r1,sI r2,sI r3,sI r4,sI r5,sI r6,sI r7,sI nn,sR b75,.val .null,sU] [.null] (fun t k => X145.checkcastNull hx (g := (mkF m 434 #[sI p0,sI p1,sI p2,sI p3,sI p4,sI r1,sI r2,sI r3,sI r4,sI r5,sI r6,sI r7,sI nn,sR b75,.val .null,sU] [.null])) rfl rfl (hb hby at_434) _ k) ?_
      refine gv T145 439 #[sI p0,sI p1,sI p2,sI p3,sI p4,sI r1,sI r2,sI r3,sI r4,sI r5,sI r6,sI r7,sI nn,sR b75,.val .null,.val .null] [] (fun t k => XS.astore X145.here hx rfl (hb hby at_437) rfl rfl (l' := #[sI p0,sI p1,sI p2,sI p3,sI p4,sI r1,sI r2,sI r3,sI r4,sI r5,sI r6,sI r7,sI nn,sR b75,.val .null,.val .null]) rfl k) ?_
      refine gv T145 441 #[sI p0,sI p1,sI p2,sI p3,sI p4,sI r1,sI r2,sI r3,sI r4,sI r5,sI r6,sI r7,sI nn,sR b75,.val .null,.val .null] [.null] (fun t k => XS.aload X145.here hx rfl (hb hby at_439) rfl rfl k) ?_
      refine gv T145 443 #[sI p0,sI p1,sI p2,sI p3,sI p4,sI r1,sI r2,sI r3,sI r4,sI r5,sI r6,sI r7,sI nn,sR b75,.val .null,.val .null] [.null,.null] (fun t k => XS.aload X145.here hx rfl (hb hby at_441) rfl rfl k) ?_
      refine gv T145 446 #[sI p0,sI p1,sI p2,sI p3,sI p4,sI r1,sI r2,sI r3,sI r4,sI r5,sI r6,sI r7,sI nn,sR b75,.val .null,.val .null] [] (fun t k => Jvm.RoadKit.acmp (g := (mkF m 443 #[sI p0,sI p1,sI p2,sI p3,sI p4,sI r1,sI r2,sI r3,sI r4,sI r5,sI r6,sI r7,sI nn,sR b75,.val .null,.val .null] [.null,.null])) X145 hx rfl rfl rfl (pc0 := 443) (pc' := 446) (same := true) rfl (hb hby at_443) rfl (decide_eq_true rfl) (by decide) (by decide) k) ?_
      refine gv T145 447 #[sI p0,sI p1,sI p2,sI p3,sI p4,sI r1,sI r2,sI r3,sI r4,sI r5,sI r6,sI r7,sI nn,sR b75,.val .null,.val .null] [(.int 1)] (fun t k => XS.iconst X145.here hx rfl (hb hby at_446) k) ?_
      refine gv T145 451 #[sI p0,sI p1,sI p2,sI p3,sI p4,sI r1,sI r2,sI r3,sI r4,sI r5,sI r6,sI r7,sI nn,sR b75,.val .null,.val .null] [(.int 1)] (fun t k => XS.goto X145.here hx rfl (pc0 := 447) (pc' := 451) rfl (hb hby at_447) (by decide) (by decide) k) ?_
      exact own_retW X145 hx Bd.notSynchronized Bd.returns rfl (Or.inl ⟨rfl,by simp,_,rfl⟩) (hb hby at_451) eq145 hS112 hk129 hZ (own_EW hw) CR129 hh ⟨rfl,N145⟩ (by decide) (by decide)
    · refine gv T7 130 #[sI p0,sI p1,sI p2,sI p3,sI p4,sI r1,sI r2,sI r3,sI r4,sI r5,sI r6,sI r7,sI nn,sU,sU,sU] [] (fun t k => XS.icmpYes X7.here hx rfl (pc0 := 107) (pc' := 130) rfl (hb hby at_107) rfl (feq hc74).2 (by decide) (by decide) k) ?_
      refine gv T7 132 #[sI p0,sI p1,sI p2,sI p3,sI p4,sI r1,sI r2,sI r3,sI r4,sI r5,sI r6,sI r7,sI nn,sU,sU,sU] [(.int nn)] (fun t k => XS.iload X7.here hx rfl (hb hby at_130) rfl k) ?_
      refine gv T7 133 #[sI p0,sI p1,sI p2,sI p3,sI p4,sI r1,sI r2,sI r3,sI r4,sI r5,sI r6,sI r7,sI nn,sU,sU,sU] [(.int 2),(.int nn)] (fun t k => XS.iconst X7.here hx rfl (hb hby at_132) k) ?_
      by_cases hc147 : (nn = (2 : Int32))
      · refine gv T7 136 #[sI p0,sI p1,sI p2,sI p3,sI p4,sI r1,sI r2,sI r3,sI r4,sI r5,sI r6,sI r7,sI nn,sU,sU,sU] [] (fun t k => XS.icmpNo X7.here hx rfl (hb hby at_133) rfl (teq hc147).2 k) ?_
        obtain ⟨T148,h148,X148,e148,E148,A148,D148,-,st148⟩ := newO X7 hx hZ hown (w_ hw 50 rfl) (w_ hw 9 rfl) (w_ hw 8 rfl) rfl (g := (mkF m 136 #[sI p0,sI p1,sI p2,sI p3,sI p4,sI r1,sI r2,sI r3,sI r4,sI r5,sI r6,sI r7,sI nn,sU,sU,sU] [])) rfl (hb hby at_136) (by decide) (by decide)
        obtain ⟨b148,g148⟩ : ∃ z,z = T7.heap.size := ⟨_,rfl⟩
        rw [← g148] at A148 D148 st148
        have cr148 := CHr.ext E148 CH7
        have CR148 := CR7.trans cr148
        have CH148 := cr148.1
        have hk148 := Nat.le_trans hk7 cr148.2.1
        have K148 := Keep.ext K7 E148
        have Z148 := Nat.le_trans Z0 K148.1
        have g_b148 : n0 ≤ b148 := Nat.le_trans Z7 (Nat.le_of_eq g148.symm)
        have sz_b148 : h0.size ≤ b148 := Nat.le_trans (K7).1 (Nat.le_of_eq g148.symm)
        have f149 : Exa Z h148 b148 "java/lang/String" := A148
        have f150 := Safe.ext E148 CH7 (Safe.new (Nat.le_of_eq g148.symm))
        have f151 : Fld Z h148 b148 "java/lang/String" "value" "[B" .null := D148 (Or.inr (w_ hw 11 rfl)) (ty := (.array .byte)) (by decide)
        have f152 : Fld Z h148 b148 "java/lang/String" "coder" "B" (.int 0) := D148 (Or.inr (w_ hw 12 rfl)) (ty := .byte) (by decide)
        refine gv T148 139 #[sI p0,sI p1,sI p2,sI p3,sI p4,sI r1,sI r2,sI r3,sI r4,sI r5,sI r6,sI r7,sI nn,sU,sU,sU] [(.ref b148)] (fun t k => st148 _ k) ?_
        refine gv T148 140 #[sI p0,sI p1,sI p2,sI p3,sI p4,sI r1,sI r2,sI r3,sI r4,sI r5,sI r6,sI r7,sI nn,sU,sU,sU] [(.ref b148),(.ref b148)] (fun t k => XS.dup X148.here hx rfl (hb hby at_139) rfl rfl k) ?_
        refine gv T148 141 #[sI p0,sI p1,sI p2,sI p3,sI p4,sI r1,sI r2,sI r3,sI r4,sI r5,sI r6,sI r7,sI nn,sU,sU,sU] [(.int 2),(.ref b148),(.ref b148)] (fun t k => XS.iconst X148.here hx rfl (hb hby at_140) k) ?_
        obtain ⟨T153,h153,k153,X153,e153,E153,A153,st153⟩ := newP X148 hx hZ (w_ hw 51 rfl) e148 (g := (mkF m 141 #[sI p0,sI p1,sI p2,sI p3,sI p4,sI r1,sI r2,sI r3,sI r4,sI r5,sI r6,sI r7,sI nn,sU,sU,sU] [(.int 2),(.ref b148),(.ref b148)])) rfl (hb hby at_141) rfl (by decide) (cap := 2) (by decide) (by decide) (by decide) (by decide)
        obtain ⟨b153,g153⟩ : ∃ z,z = h148.size := ⟨_,rfl⟩
        rw [← g153] at A153 st153
        have f154 := f149.ext E153
        have f155 := Safe.ext E153 CH148 f150
        have f156 := f151.ext E153
        have f157 := f152.ext E153
        have cr153 := CHr.ext E153 CH148
        have CR153 := CR148.trans cr153
        have CH153 := cr153.1
        have hk153 := Nat.le_trans hk148 cr153.2.1
        have K153 := Keep.ext K148 E153
        have Z153 := Nat.le_trans Z0 K153.1
        have g_b153 : n0 ≤ b153 := Nat.le_trans Z148 (Nat.le_of_eq g153.symm)
        have sz_b153 : h0.size ≤ b153 := Nat.le_trans (K148).1 (Nat.le_of_eq g153.symm)
        have ne_b148_b153 : b148 ≠ b153 := Nat.ne_of_lt (Nat.lt_of_lt_of_le f149.lt (Nat.le_of_eq g153.symm))
        have f158 : Arv Z h153 b153 k153 .char (2 : Int32) [(.int 0),(.int 0)] (.int 0) := (Arv.new A153 (by decide)).pad (pad_rep [] (.int 0) 2)
        have f159 := Safe.ext E153 CH148 (Safe.new (Nat.le_of_eq g153.symm))
        refine gv T153 143 #[sI p0,sI p1,sI p2,sI p3,sI p4,sI r1,sI r2,sI r3,sI r4,sI r5,sI r6,sI r7,sI nn,sU,sU,sU] [(.ref b153),(.ref b148),(.ref b148)] (fun t k => st153 _ k) ?_
        refine gv T153 144 #[sI p0,sI p1,sI p2,sI p3,sI p4,sI r1,sI r2,sI r3,sI r4,sI r5,sI r6,sI r7,sI nn,sU,sU,sU] [(.ref b153),(.ref b153),(.ref b148),(.ref b148)] (fun t k => XS.dup X153.here hx rfl (hb hby at_143) rfl rfl k) ?_
        refine gv T153 145 #[sI p0,sI p1,sI p2,sI p3,sI p4,sI r1,sI r2,sI r3,sI r4,sI r5,sI r6,sI r7,sI nn,sU,sU,sU] [(.int 0),(.ref b153),(.ref b153),(.ref b148),(.ref b148)] (fun t k => XS.iconst X153.here hx rfl (hb hby at_144) k) ?_
        refine gv T153 147 #[sI p0,sI p1,sI p2,sI p3,sI p4,sI r1,sI r2,sI r3,sI r4,sI r5,sI r6,sI r7,sI nn,sU,sU,sU] [(.int r1),(.int 0),(.ref b153),(.ref b153),(.ref b148),(.ref b148)] (fun t k => XS.iload X153.here hx rfl (hb hby at_145) rfl k) ?_
        obtain ⟨cl160,Ar160,q160,S160,M160,Hs160,G160⟩ := id f158
        have hin160 : ¬ ((0 : Int32) < 0 ∨ cl160.slots.size ≤ ((0 : Int32)).toNatClampNeg) := inb_of S160 ⟨by decide,by decide⟩
        obtain ⟨T160,h160,X160,e160,W160,st160⟩ := stC X153 hx hZ e153 Ar160 (j := (0 : Int32)) hin160 (g := (mkF m 147 #[sI p0,sI p1,sI p2,sI p3,sI p4,sI r1,sI r2,sI r3,sI r4,sI r5,sI r6,sI r7,sI nn,sU,sU,sU] [(.int r1),(.int 0),(.ref b153),(.ref b153),(.ref b148),(.ref b148)])) rfl rfl (hb hby at_147)
        have f161 := f154.wr W160
        have f162 := Safe.wr W160 f159 CH153 f155
        have f163 := f156.other W160 (Or.inl ne_b148_b153)
        have f164 := f157.other W160 (Or.inl ne_b148_b153)
        have f165 := Safe.wr W160 f159 CH153 f159
        have f166 : Arv Z h160 b153 k153 .char (2 : Int32) [(.int (nar .char r1)),(.int 0)] (.int 0) := Arv.set Ar160 q160 S160 M160 Hs160 G160 (fits_nar_char _) W160 0 rfl (Nat.le_of_ble_eq_true rfl)
        have cr160 := CHr.wr W160 f159 CH153
        have CR160 := CR153.trans cr160
        have CH160 := cr160.1
        have hk160 := Nat.le_trans hk153 cr160.2.1
        have K160 := Keep.wr K153 W160 (Or.inr sz_b153)
        have Z160 := Nat.le_trans Z0 K160.1
        have N160 := Fr.snoc X160 N7 g_b153
        refine gv T160 148 #[sI p0,sI p1,sI p2,sI p3,sI p4,sI r1,sI r2,sI r3,sI r4,sI r5,sI r6,sI r7,sI nn,sU,sU,sU] [(.ref b153),(.ref b148),(.ref b148)] (fun t k => st160 _ k) ?_
        refine gv T160 149 #[sI p0,sI p1,sI p2,sI p3,sI p4,sI r1,sI r2,sI r3,sI r4,sI r5,sI r6,sI r7,sI nn,sU,sU,sU] [(.ref b153),(.ref b153),(.ref b148),(.ref b148)] (fun t k => XS.dup X160.here hx rfl (hb hby at_148) rfl rfl k) ?_
        refine gv T160 150 #[sI p0,sI p1,sI p2,sI p3,sI p4,sI r1,sI r2,sI r3,sI r4,sI r5,sI r6,sI r7,sI nn,sU,sU,sU] [(.int 1),(.ref b153),(.ref b153),(.ref b148),(.ref b148)] (fun t k => XS.iconst X160.here hx rfl (hb hby at_149) k) ?_
        refine gv T160 152 #[sI p0,sI p1,sI p2,sI p3,sI p4,sI r1,sI r2,sI r3,sI r4,sI r5,sI r6,sI r7,sI nn,sU,sU,sU] [(.int r2),(.int 1),(.ref b153),(.ref b153),(.ref b148),(.ref b148)] (fun t k => XS.iload X160.here hx rfl (hb hby at_150) rfl k) ?_
        obtain ⟨cl167,Ar167,q167,S167,M167,Hs167,G167⟩ := id f166
        have hin167 : ¬ ((1 : Int32) < 0 ∨ cl167.slots.size ≤ ((1 : Int32)).toNatClampNeg) := inb_of S167 ⟨by decide,by decide⟩
        obtain ⟨T167,h167,X167,e167,W167,st167⟩ := stC X160 hx hZ e160 Ar167 (j := (1 : Int32)) hin167 (g := (mkF m 152 #[sI p0,sI p1,sI p2,sI p3,sI p4,sI r1,sI r2,sI r3,sI r4,sI r5,sI r6,sI r7,sI nn,sU,sU,sU] [(.int r2),(.int 1),(.ref b153),(.ref b153),(.ref b148),(.ref b148)])) rfl rfl (hb hby at_152)
        have f168 := f161.wr W167
        have f169 := Safe.wr W167 f165 CH160 f162
        have f170 := f163.other W167 (Or.inl ne_b148_b153)
        have f171 := f164.other W167 (Or.inl ne_b148_b153)
        have f172 := Safe.wr W167 f165 CH160 f165
        have f173 : Arv Z h167 b153 k153 .char (2 : Int32) [(.int (nar .char r1)),(.int (nar .char r2))] (.int 0) := Arv.set Ar167 q167 S167 M167 Hs167 G167 (fits_nar_char _) W167 1 rfl (Nat.le_of_ble_eq_true rfl)
        have cr167 := CHr.wr W167 f165 CH160
        have CR167 := CR160.trans cr167
        have CH167 := cr167.1
        have hk167 := Nat.le_trans hk160 cr167.2.1
        have K167 := Keep.wr K160 W167 (Or.inr sz_b153)
        have Z167 := Nat.le_trans Z0 K167.1
        have N167 := Fr.snoc X167 N160 g_b153
        refine gv T167 153 #[sI p0,sI p1,sI p2,sI p3,sI p4,sI r1,sI r2,sI r3,sI r4,sI r5,sI r6,sI r7,sI nn,sU,sU,sU] [(.ref b153),(.ref b148),(.ref b148)] (fun t k => st167 _ k) ?_
        obtain ⟨_,_,⟨T174,L174,k174,n174⟩,-,X174,⟨Lc174,hQ174,l174,y174,z174⟩,st174⟩ := X167.specialBack hx (y := (⟨"java/lang/String","<init>","([C)V"⟩ : MethodName)) rfl hown (mvT hZ (w_ hw 52 rfl)) (mvT hZ (w_ hw 53 rfl)) (mvT hZ (w_ hw 54 rfl)) (by decide) (backOf (W := 1) (rm102 l Z a0 hw [] b148 b153 k153 wc (.int 0) .null (nar .char r1) (nar .char r2) h167 n0 Z167 f168 f171 f170 f173 (own_staKeep f0_COMPACT_STRINGS K167 all0) ne_b148_b153 g_b148 (own_ncR hr1) (own_ncR hr2) hwc) hZ (w_ hw 54 rfl) (w_ hw 8 rfl) (by decide) (by decide)) (g := (mkF m 153 #[sI p0,sI p1,sI p2,sI p3,sI p4,sI r1,sI r2,sI r3,sI r4,sI r5,sI r6,sI r7,sI nn,sU,sU,sU] [(.ref b153),(.ref b148),(.ref b148)])) rfl (by rw [hml]; rfl) (Steps.refl _) (a := b148) (argsL := [(.ref b153)]) (rest := [(.ref b148)]) (lenOf pd_20 rfl) rfl (own_rm rfl) (hb hby at_153) (fun _ _ => ⟨rfl,e167,(by decide : 16 + 1 ≤ _),(by decide : 174 + 2 ≤ _)⟩)
        dsimp only [Pt.U, Pt.locs, Pt.cells, Pt.slots] at X174 l174 y174 z174 st174 hQ174
        replace X174 := own_cast X174 l174 y174 z174
        obtain ⟨yb_174,kb_174,rfl,N174q,K174q,po174_0,po174_1,po174_2,po174_3,px174_g_yb,px174_sz_yb⟩ := hQ174
        have N174 := Fr.app N167 N174q
        have f175 := f168.keep K174q
        have f176 := Safe.keep K174q (allS f169 all0) CH167 f169
        have f177 := Safe.keep K174q (allS f169 all0) CH167 f172
        have f178 := f173.keep K174q (ninS (Ne.symm ne_b148_b153) nin0)
        have cr174 := CHr.keep K174q (allS f169 all0) CH167
        have CR174 := CR167.trans cr174
        have CH174 := cr174.1
        have hk174 := Nat.le_trans hk167 cr174.2.1
        have K174 := Keep.trans K167 K174q (allS (Or.inr sz_b148) all0)
        have Z174 := Nat.le_trans Z0 K174.1
        have g_yb_174 := px174_g_yb
        have sz_yb_174 : h0.size ≤ yb_174 := Nat.le_trans (K167).1 px174_sz_yb
        have ne_b148_yb_174 : b148 ≠ yb_174 := Nat.ne_of_lt (Nat.lt_of_lt_of_le f168.lt px174_sz_yb)
        have ne_b153_yb_174 : b153 ≠ yb_174 := Nat.ne_of_lt (Nat.lt_of_lt_of_le f173.lt px174_sz_yb)
        refine gv T174 156 #[sI p0,sI p1,sI p2,sI p3,sI p4,sI r1,sI r2,sI r3,sI r4,sI r5,sI r6,sI r7,sI nn,sU,sU,sU] [(.ref b148)] (fun t k => st174.trans k) ?_
        refine gv T174 158 #[sI p0,sI p1,sI p2,sI p3,sI p4,sI r1,sI r2,sI r3,sI r4,sI r5,sI r6,sI r7,sI nn,sR b148,sU,sU] [] (fun t k => XS.astore X174.here hx rfl (hb hby at_156) rfl rfl (l' := #[sI p0,sI p1,sI p2,sI p3,sI p4,sI r1,sI r2,sI r3,sI r4,sI r5,sI r6,sI r7,sI nn,sR b148,sU,sU]) rfl k) ?_
        refine gv T174 386 #[sI p0,sI p1,sI p2,sI p3,sI p4,sI r1,sI r2,sI r3,sI r4,sI r5,sI r6,sI r7,sI nn,sR b148,sU,sU] [] (fun t k => XS.goto X174.here hx rfl (pc0 := 158) (pc' := 386) rfl (hb hby at_158) (by decide) (by decide) k) ?_
        refine gv T174 388 #[sI p0,sI p1,sI p2,sI p3,sI p4,sI r1,sI r2,sI r3,sI r4,sI r5,sI r6,sI r7,sI nn,sR b148,sU,sU] [(.ref b148)] (fun t k => XS.aload X174.here hx rfl (hb hby at_386) rfl rfl k) ?_
        obtain ⟨b179,T179,h179,kz179,d179,k179,X179,e179,E179,hS179,hk179,hZ,hown,A179,C179,V179,R179,lta179,ltb179,cr179,Lt179,Nn179,st179⟩ := ldcCH X174 hx hZ hown (w_ hw 7 rfl) (own_wS hw) rfl hS7 hk174 (own_EW hw) (own_mem (by decide)) CH174 (vs := [(.int 100),(.int 97),(.int 121)]) (z := (3 : Int32)) ⟨by decide,rfl⟩ (by decide) rfl (g := (mkF m 388 #[sI p0,sI p1,sI p2,sI p3,sI p4,sI r1,sI r2,sI r3,sI r4,sI r5,sI r6,sI r7,sI nn,sR b148,sU,sU] [(.ref b148)])) rfl (hb hby at_388) (n := 12) (by decide) (by decide) (by decide) (by decide)
        have f180 := po174_0.ext E179
        have f181 := f178.ext E179
        have f182 := po174_1.ext E179
        have f183 := po174_2.ext E179
        have f184 := po174_3.ext E179
        have CR179 := CR174.trans cr179
        have CH179 := cr179.1
        have f185 := CHr.safe cr179 po174_0.lt f176
        have f186 := CHr.safe cr179 f178.lt f177
        have K179 := Keep.ext K174 E179
        have Z179 := Nat.le_trans Z0 K179.1
        have f187 : Exa Z h179 b179 "java/lang/String" := A179
        have f188 : Fld Z h179 b179 "java/lang/String" "coder" "B" (.int 0) := C179
        have f189 : Fld Z h179 b179 "java/lang/String" "value" "[B" (.ref d179) := V179
        have f190 : Arv Z h179 d179 k179 .byte (3 : Int32) [(.int 100),(.int 97),(.int 121)] (.int 0) := R179
        refine gv T179 390 #[sI p0,sI p1,sI p2,sI p3,sI p4,sI r1,sI r2,sI r3,sI r4,sI r5,sI r6,sI r7,sI nn,sR b148,sU,sU] [(.ref b179),(.ref b148)] (fun t k => st179 _ k) ?_
        obtain ⟨cq191,kq191,q191a,q191b,q191c⟩ := isOf hZ e179 f180
        obtain ⟨_,_,⟨T191,L191,k191,n191⟩,-,X191,⟨Lc191,hQ191,l191,y191,z191⟩,st191⟩ := X179.virtualBack hx (y := (⟨"java/lang/String","equals","(Ljava/lang/Object;)Z"⟩ : MethodName)) (z := (⟨"java/lang/String","equals","(Ljava/lang/Object;)Z"⟩ : MethodName)) hown (mvT hZ (w_ hw 72 rfl)) (mvT hZ (w_ hw 73 rfl)) (notFace_of_selects (args := #[]) (mvT hZ (w_ hw 75 rfl))) (mvT hZ (w_ hw 75 rfl)) (mvT hZ (w_ hw 74 rfl)) (by decide) (backOf (W := 0) (rm16x l Z a0 hw [] b148 b179 yb_174 d179 kb_174 k179 (2 : Int32) (3 : Int32) ([(.int (bN r1)),(.int (bN r2))] : List Value) ([(.int 100),(.int 97),(.int 121)] : List Value) wc h179 n0 Z179 f180 f182 f183 f184 f187 f188 f189 f190 (own_staKeep f0_COMPACT_STRINGS K179 all0) (Nn179 _ f185).1 (by decide) hwc) hZ (w_ hw 76 rfl) (w_ hw 8 rfl) (by decide) (by decide)) q191a q191c (g := (mkF m 390 #[sI p0,sI p1,sI p2,sI p3,sI p4,sI r1,sI r2,sI r3,sI r4,sI r5,sI r6,sI r7,sI nn,sR b148,sU,sU] [(.ref b179),(.ref b148)])) rfl (by rw [hml]; rfl) (Steps.refl _) (argsL := [(.ref b179)]) (rest := []) (lenOf pd_16 rfl) rfl (own_rm rfl) (hb hby at_390) (fun _ _ => ⟨rfl,e179,(by decide : 19 + 0 ≤ _),(by decide : 192 + 0 ≤ _)⟩)
        dsimp only [Pt.U, Pt.locs, Pt.cells, Pt.slots] at X191 l191 y191 z191 st191 hQ191
        replace X191 := own_cast X191 l191 y191 z191
        obtain ⟨rfl,N191q,eq191⟩ := hQ191
        have N191 := Fr.app N174 N191q
        refine gv T191 393 #[sI p0,sI p1,sI p2,sI p3,sI p4,sI r1,sI r2,sI r3,sI r4,sI r5,sI r6,sI r7,sI nn,sR b148,sU,sU] [(.int 0)] (fun t k => st191.trans k) ?_
        refine gv T191 404 #[sI p0,sI p1,sI p2,sI p3,sI p4,sI r1,sI r2,sI r3,sI r4,sI r5,sI r6,sI r7,sI nn,sR b148,sU,sU] [] (fun t k => XS.ifYes X191.here hx rfl (pc0 := 393) (pc' := 404) rfl (hb hby at_393) rfl ((if0 _ _).trans (teq rfl).1) (by decide) (by decide) k) ?_
        refine gv T191 406 #[sI p0,sI p1,sI p2,sI p3,sI p4,sI r1,sI r2,sI r3,sI r4,sI r5,sI r6,sI r7,sI nn,sR b148,sU,sU] [(.ref b148)] (fun t k => XS.aload X191.here hx rfl (hb hby at_404) rfl rfl k) ?_
        obtain ⟨b192,T192,h192,kz192,d192,k192,X192,e192,E192,hS192,hk192,hZ,hown,A192,C192,V192,R192,lta192,ltb192,cr192,Lt192,Nn192,st192⟩ := ldcCH X191 hx hZ hown (w_ hw 130 rfl) (own_wS hw) eq191 hS179 hk179 (own_EW hw) (own_mem (by decide)) CH179 (vs := [(.int 109),(.int 111),(.int 110),(.int 116),(.int 104)]) (z := (5 : Int32)) ⟨by decide,rfl⟩ (by decide) rfl (g := (mkF m 406 #[sI p0,sI p1,sI p2,sI p3,sI p4,sI r1,sI r2,sI r3,sI r4,sI r5,sI r6,sI r7,sI nn,sR b148,sU,sU] [(.ref b148)])) rfl (hb hby at_406) (n := 20) (by decide) (by decide) (by decide) (by decide)
        have f193 := f180.ext E192
        have f194 := f181.ext E192
        have f195 := f182.ext E192
        have f196 := f183.ext E192
        have f197 := f184.ext E192
        have f198 := f187.ext E192
        have f199 := f188.ext E192
        have f200 := f189.ext E192
        have f201 := f190.ext E192
        have CR192 := CR179.trans cr192
        have CH192 := cr192.1
        have f202 := CHr.safe cr192 f180.lt f185
        have f203 := CHr.safe cr192 f181.lt f186
        have K192 := Keep.ext K179 E192
        have Z192 := Nat.le_trans Z0 K192.1
        have f204 : Exa Z h192 b192 "java/lang/String" := A192
        have f205 : Fld Z h192 b192 "java/lang/String" "coder" "B" (.int 0) := C192
        have f206 : Fld Z h192 b192 "java/lang/String" "value" "[B" (.ref d192) := V192
        have f207 : Arv Z h192 d192 k192 .byte (5 : Int32) [(.int 109),(.int 111),(.int 110),(.int 116),(.int 104)] (.int 0) := R192
        refine gv T192 408 #[sI p0,sI p1,sI p2,sI p3,sI p4,sI r1,sI r2,sI r3,sI r4,sI r5,sI r6,sI r7,sI nn,sR b148,sU,sU] [(.ref b192),(.ref b148)] (fun t k => st192 _ k) ?_
        obtain ⟨cq208,kq208,q208a,q208b,q208c⟩ := isOf hZ e192 f193
        obtain ⟨_,_,⟨T208,L208,k208,n208⟩,-,X208,⟨Lc208,hQ208,l208,y208,z208⟩,st208⟩ := X192.virtualBack hx (y := (⟨"java/lang/String","equals","(Ljava/lang/Object;)Z"⟩ : MethodName)) (z := (⟨"java/lang/String","equals","(Ljava/lang/Object;)Z"⟩ : MethodName)) hown (mvT hZ (w_ hw 72 rfl)) (mvT hZ (w_ hw 73 rfl)) (notFace_of_selects (args := #[]) (mvT hZ (w_ hw 75 rfl))) (mvT hZ (w_ hw 75 rfl)) (mvT hZ (w_ hw 74 rfl)) (by decide) (backOf (W := 0) (rm16x l Z a0 hw [] b148 b192 yb_174 d192 kb_174 k192 (2 : Int32) (5 : Int32) ([(.int (bN r1)),(.int (bN r2))] : List Value) ([(.int 109),(.int 111),(.int 110),(.int 116),(.int 104)] : List Value) wc h192 n0 Z192 f193 f195 f196 f197 f204 f205 f206 f207 (own_staKeep f0_COMPACT_STRINGS K192 all0) (Nn192 _ f202).1 (by decide) hwc) hZ (w_ hw 76 rfl) (w_ hw 8 rfl) (by decide) (by decide)) q208a q208c (g := (mkF m 408 #[sI p0,sI p1,sI p2,sI p3,sI p4,sI r1,sI r2,sI r3,sI r4,sI r5,sI r6,sI r7,sI nn,sR b148,sU,sU] [(.ref b192),(.ref b148)])) rfl (by rw [hml]; rfl) (Steps.refl _) (argsL := [(.ref b192)]) (rest := []) (lenOf pd_16 rfl) rfl (own_rm rfl) (hb hby at_408) (fun _ _ => ⟨rfl,e192,(by decide : 21 + 0 ≤ _),(by decide : 216 + 0 ≤ _)⟩)
        dsimp only [Pt.U, Pt.locs, Pt.cells, Pt.slots] at X208 l208 y208 z208 st208 hQ208
        replace X208 := own_cast X208 l208 y208 z208
        obtain ⟨rfl,N208q,eq208⟩ := hQ208
        have N208 := Fr.app N191 N208q
        refine gv T208 411 #[sI p0,sI p1,sI p2,sI p3,sI p4,sI r1,sI r2,sI r3,sI r4,sI r5,sI r6,sI r7,sI nn,sR b148,sU,sU] [(.int 0)] (fun t k => st208.trans k) ?_
        refine gv T208 422 #[sI p0,sI p1,sI p2,sI p3,sI p4,sI r1,sI r2,sI r3,sI r4,sI r5,sI r6,sI r7,sI nn,sR b148,sU,sU] [] (fun t k => XS.ifYes X208.here hx rfl (pc0 := 411) (pc' := 422) rfl (hb hby at_411) rfl ((if0 _ _).trans (teq rfl).1) (by decide) (by decide) k) ?_
        refine gv T208 423 #[sI p0,sI p1,sI p2,sI p3,sI p4,sI r1,sI r2,sI r3,sI r4,sI r5,sI r6,sI r7,sI nn,sR b148,sU,sU] [.null] (fun t k => XS.aconstNull X208.here hx rfl (hb hby at_422) k) ?_
        refine gv T208 425 #[sI p0,sI p1,sI p2,sI p3,sI p4,sI r1,sI r2,sI r3,sI r4,sI r5,sI r6,sI r7,sI nn,sR b148,.val .null,sU] [] (fun t k => XS.astore X208.here hx rfl (hb hby at_423) rfl rfl (l' := #[sI p0,sI p1,sI p2,sI p3,sI p4,sI r1,sI r2,sI r3,sI r4,sI r5,sI r6,sI r7,sI nn,sR b148,.val .null,sU]) rfl k) ?_
        refine gv T208 427 #[sI p0,sI p1,sI p2,sI p3,sI p4,sI r1,sI r2,sI r3,sI r4,sI r5,sI r6,sI r7,sI nn,sR b148,.val .null,sU] [(.ref b148)] (fun t k => XS.aload X208.here hx rfl (hb hby at_425) rfl rfl k) ?_
        obtain ⟨_,_,⟨T209,L209,k209,n209⟩,-,X209,⟨Lc209,hQ209,l209,y209,z209⟩,st209⟩ := Jvm.LawKit.callS X208 hx (y := (⟨"com/example/tallyman/tallyman/ledger/Period","named","(Ljava/lang/String;)Ljava/util/Optional;"⟩ : MethodName)) hown (mvT hZ (w_ hw 84 rfl)) (mvT hZ (w_ hw 85 rfl)) (mvT hZ (w_ hw 82 rfl)) (mvT hZ (w_ hw 86 rfl)) (by decide) (backOf (W := 0) (rm18x l Z a0 hw [] b148 yV kV dd mm td bd kd tm bm km oe wc yb_174 kb_174 (2 : Int32) ([(.int (bN r1)),(.int (bN r2))] : List Value) h192 n0 Z192 (own_staKeep f4__VALUES K192 all0) (f5_yV.keep K192 nin0) (f6_yV.keep K192) (f9_dd_text.keep K192 nin0) (f10_td.keep K192) (f11_td_coder.keep K192 nin0) (f12_td_value.keep K192 nin0) (f13_bd.keep K192 nin0) (f14_mm_text.keep K192 nin0) (f15_tm.keep K192) (f16_tm_coder.keep K192 nin0) (f17_tm_value.keep K192 nin0) (f18_bm.keep K192 nin0) (own_staKeep f19_EMPTY K192 all0) (own_staKeep f0_COMPACT_STRINGS K192 all0) f193 f195 f196 f197 (Nat.ne_of_lt (Nat.lt_of_lt_of_le f10_td.lt sz_b148)) (Nat.ne_of_lt (Nat.lt_of_lt_of_le f15_tm.lt sz_b148)) hwc (by decide) (by decide)) hZ (w_ hw 86 rfl) (w_ hw 82 rfl) (by decide) (by decide)) (g := (mkF m 427 #[sI p0,sI p1,sI p2,sI p3,sI p4,sI r1,sI r2,sI r3,sI r4,sI r5,sI r6,sI r7,sI nn,sR b148,.val .null,sU] [(.ref b148)])) rfl (by rw [hml]; rfl) (argsL := [(.ref b148)]) (rest := []) (lenOf pd_21 rfl) rfl (own_rm rfl) (hb hby at_427) (fun _ _ => ⟨rfl,eq208,(by decide : 21 + 1 ≤ _),(by decide : 216 + 2 ≤ _)⟩)
        dsimp only [Pt.U, Pt.locs, Pt.cells, Pt.slots] at X209 l209 y209 z209 st209 hQ209
        replace X209 := own_cast X209 l209 y209 z209
        obtain ⟨rfl,N209q,K209q⟩ := hQ209
        have N209 := Fr.app N208 N209q
        have f210 := f193.keep K209q
        have f211 := f194.keep K209q nin0
        have f212 := f195.keep K209q nin0
        have f213 := f196.keep K209q nin0
        have f214 := f197.keep K209q nin0
        have f215 := f198.keep K209q
        have f216 := f199.keep K209q nin0
        have f217 := f200.keep K209q nin0
        have f218 := f201.keep K209q nin0
        have f219 := Safe.keep K209q all0 CH192 f202
        have f220 := Safe.keep K209q all0 CH192 f203
        have f221 := f204.keep K209q
        have f222 := f205.keep K209q nin0
        have f223 := f206.keep K209q nin0
        have f224 := f207.keep K209q nin0
        have cr209 := CHr.keep K209q all0 CH192
        have CR209 := CR192.trans cr209
        have CH209 := cr209.1
        have hk209 := Nat.le_trans hk192 cr209.2.1
        have K209 := Keep.trans K192 K209q all0
        have Z209 := Nat.le_trans Z0 K209.1
        refine gv T209 430 #[sI p0,sI p1,sI p2,sI p3,sI p4,sI r1,sI r2,sI r3,sI r4,sI r5,sI r6,sI r7,sI nn,sR b148,.val .null,sU] [(.ref oe)] (fun t k => st209 _ k) ?_
        refine gv T209 431 #[sI p0,sI p1,sI p2,sI p3,sI p4,sI r1,sI r2,sI r3,sI r4,sI r5,sI r6,sI r7,sI nn,sR b148,.val .null,sU] [.null,(.ref oe)] (fun t k => XS.aconstNull X209.here hx rfl (hb hby at_430) k) ?_
        obtain ⟨cq225,kq225,q225a,q225b,q225c⟩ := isOf hZ rfl (f20_oe.keep K209)
        obtain ⟨_,_,⟨T225,L225,k225,n225⟩,-,X225,⟨Lc225,hQ225,l225,y225,z225⟩,st225⟩ := X209.virtualBack hx (y := (⟨"java/util/Optional","orElse","(Ljava/lang/Object;)Ljava/lang/Object;"⟩ : MethodName)) (z := (⟨"java/util/Optional","orElse","(Ljava/lang/Object;)Ljava/lang/Object;"⟩ : MethodName)) hown (mvT hZ (w_ hw 123 rfl)) (mvT hZ (w_ hw 124 rfl)) (notFace_of_selects (args := #[]) (mvT hZ (w_ hw 126 rfl))) (mvT hZ (w_ hw 126 rfl)) (mvT hZ (w_ hw 125 rfl)) (by decide) (backOf (W := 0) (rm23n l Z a0 hw [] oe T209.heap n0 Z209 (f21_oe_value.keep K209 nin0)) hZ (w_ hw 127 rfl) (w_ hw 108 rfl) (by decide) (by decide)) q225a q225c (g := (mkF m 431 #[sI p0,sI p1,sI p2,sI p3,sI p4,sI r1,sI r2,sI r3,sI r4,sI r5,sI r6,sI r7,sI nn,sR b148,.val .null,sU] [.null,(.ref oe)])) rfl (by rw [hml]; rfl) (Steps.refl _) (argsL := [.null]) (rest := []) (lenOf pd_13 rfl) rfl (own_rm rfl) (hb hby at_431) (fun _ _ => ⟨rfl,rfl,(by decide : 22 + 0 ≤ _),(by decide : 218 + 0 ≤ _)⟩)
        dsimp only [Pt.U, Pt.locs, Pt.cells, Pt.slots] at X225 l225 y225 z225 st225 hQ225
        replace X225 := own_cast X225 l225 y225 z225
        obtain ⟨rfl,N225q,eq225⟩ := hQ225
        have N225 := Fr.app N209 N225q
        refine gv T225 434 #[sI p0,sI p1,sI p2,sI p3,sI p4,sI r1,sI r2,sI r3,sI r4,sI r5,sI r6,sI r7,sI nn,sR b148,.val .null,sU] [.null] (fun t k => st225.trans k) ?_
        refine gv T225 437 #[sI p0,sI p1,sI p2,sI p3,sI p4,sI r1,sI r2,sI r3,sI r4,sI r5,sI r6,sI r7,sI nn,sR b148,.val .null,sU] [.null] (fun t k => X225.checkcastNull hx (g := (mkF m 434 #[sI p0,sI p1,sI p2,sI p3,sI p4,sI r1,sI r2,sI r3,sI r4,sI r5,sI r6,sI r7,sI nn,sR b148,.val .null,sU] [.null])) rfl rfl (hb hby at_434) _ k) ?_
        refine gv T225 439 #[sI p0,sI p1,sI p2,sI p3,sI p4,sI r1,sI r2,sI r3,sI r4,sI r5,sI r6,sI r7,sI nn,sR b148,.val .null,.val .null] [] (fun t k => XS.astore X225.here hx rfl (hb hby at_437) rfl rfl (l' := #[sI p0,sI p1,sI p2,sI p3,sI p4,sI r1,sI r2,sI r3,sI r4,sI r5,sI r6,sI r7,sI nn,sR b148,.val .null,.val .null]) rfl k) ?_
        refine gv T225 441 #[sI p0,sI p1,sI p2,sI p3,sI p4,sI r1,sI r2,sI r3,sI r4,sI r5,sI r6,sI r7,sI nn,sR b148,.val .null,.val .null] [.null] (fun t k => XS.aload X225.here hx rfl (hb hby at_439) rfl rfl k) ?_
        refine gv T225 443 #[sI p0,sI p1,sI p2,sI p3,sI p4,sI r1,sI r2,sI r3,sI r4,sI r5,sI r6,sI r7,sI nn,sR b148,.val .null,.val .null] [.null,.null] (fun t k => XS.aload X225.here hx rfl (hb hby at_441) rfl rfl k) ?_
        refine gv T225 446 #[sI p0,sI p1,sI p2,sI p3,sI p4,sI r1,sI r2,sI r3,sI r4,sI r5,sI r6,sI r7,sI nn,sR b148,.val .null,.val .null] [] (fun t k => Jvm.RoadKit.acmp (g := (mkF m 443 #[sI p0,sI p1,sI p2,sI p3,sI p4,sI r1,sI r2,sI r3,sI r4,sI r5,sI r6,sI r7,sI nn,sR b148,.val .null,.val .null] [.null,.null])) X225 hx rfl rfl rfl (pc0 := 443) (pc' := 446) (same := true) rfl (hb hby at_443) rfl (decide_eq_true rfl) (by decide) (by decide) k) ?_
        refine gv T225 447 #[sI p0,sI p1,sI p2,sI p3,sI p4,sI r1,sI r2,sI r3,sI r4,sI r5,sI r6,sI r7,sI nn,sR b148,.val .null,.val .null] [(.int 1)] (fun t k => XS.iconst X225.here hx rfl (hb hby at_446) k) ?_
        refine gv T225 451 #[sI p0,sI p1,sI p2,sI p3,sI p4,sI r1,sI r2,sI r3,sI r4,sI r5,sI r6,sI r7,sI nn,sR b148,.val .null,.val .null] [(.int 1)] (fun t k => XS.goto X225.here hx rfl (pc0 := 447) (pc' := 451) rfl (hb hby at_447) (by decide) (by decide) k) ?_
        exact own_retW X225 hx Bd.notSynchronized Bd.returns rfl (Or.inl ⟨rfl,by simp,_,rfl⟩) (hb hby at_451) eq225 hS192 hk209 hZ (own_EW hw) CR209 hh ⟨rfl,N225⟩ (by decide) (by decide)
      · refine gv T7 161 #[sI p0,sI p1,sI p2,sI p3,sI p4,sI r1,sI r2,sI r3,sI r4,sI r5,sI r6,sI r7,sI nn,sU,sU,sU] [] (fun t k => XS.icmpYes X7.here hx rfl (pc0 := 133) (pc' := 161) rfl (hb hby at_133) rfl (feq hc147).2 (by decide) (by decide) k) ?_
        refine gv T7 163 #[sI p0,sI p1,sI p2,sI p3,sI p4,sI r1,sI r2,sI r3,sI r4,sI r5,sI r6,sI r7,sI nn,sU,sU,sU] [(.int nn)] (fun t k => XS.iload X7.here hx rfl (hb hby at_161) rfl k) ?_
        refine gv T7 164 #[sI p0,sI p1,sI p2,sI p3,sI p4,sI r1,sI r2,sI r3,sI r4,sI r5,sI r6,sI r7,sI nn,sU,sU,sU] [(.int 3),(.int nn)] (fun t k => XS.iconst X7.here hx rfl (hb hby at_163) k) ?_
        by_cases hc227 : (nn = (3 : Int32))
        · refine gv T7 167 #[sI p0,sI p1,sI p2,sI p3,sI p4,sI r1,sI r2,sI r3,sI r4,sI r5,sI r6,sI r7,sI nn,sU,sU,sU] [] (fun t k => XS.icmpNo X7.here hx rfl (hb hby at_164) rfl (teq hc227).2 k) ?_
          obtain ⟨T228,h228,X228,e228,E228,A228,D228,-,st228⟩ := newO X7 hx hZ hown (w_ hw 50 rfl) (w_ hw 9 rfl) (w_ hw 8 rfl) rfl (g := (mkF m 167 #[sI p0,sI p1,sI p2,sI p3,sI p4,sI r1,sI r2,sI r3,sI r4,sI r5,sI r6,sI r7,sI nn,sU,sU,sU] [])) rfl (hb hby at_167) (by decide) (by decide)
          obtain ⟨b228,g228⟩ : ∃ z,z = T7.heap.size := ⟨_,rfl⟩
          rw [← g228] at A228 D228 st228
          have cr228 := CHr.ext E228 CH7
          have CR228 := CR7.trans cr228
          have CH228 := cr228.1
          have hk228 := Nat.le_trans hk7 cr228.2.1
          have K228 := Keep.ext K7 E228
          have Z228 := Nat.le_trans Z0 K228.1
          have g_b228 : n0 ≤ b228 := Nat.le_trans Z7 (Nat.le_of_eq g228.symm)
          have sz_b228 : h0.size ≤ b228 := Nat.le_trans (K7).1 (Nat.le_of_eq g228.symm)
          have f229 : Exa Z h228 b228 "java/lang/String" := A228
          have f230 := Safe.ext E228 CH7 (Safe.new (Nat.le_of_eq g228.symm))
          have f231 : Fld Z h228 b228 "java/lang/String" "value" "[B" .null := D228 (Or.inr (w_ hw 11 rfl)) (ty := (.array .byte)) (by decide)
          have f232 : Fld Z h228 b228 "java/lang/String" "coder" "B" (.int 0) := D228 (Or.inr (w_ hw 12 rfl)) (ty := .byte) (by decide)
          refine gv T228 170 #[sI p0,sI p1,sI p2,sI p3,sI p4,sI r1,sI r2,sI r3,sI r4,sI r5,sI r6,sI r7,sI nn,sU,sU,sU] [(.ref b228)] (fun t k => st228 _ k) ?_
          refine gv T228 171 #[sI p0,sI p1,sI p2,sI p3,sI p4,sI r1,sI r2,sI r3,sI r4,sI r5,sI r6,sI r7,sI nn,sU,sU,sU] [(.ref b228),(.ref b228)] (fun t k => XS.dup X228.here hx rfl (hb hby at_170) rfl rfl k) ?_
          refine gv T228 172 #[sI p0,sI p1,sI p2,sI p3,sI p4,sI r1,sI r2,sI r3,sI r4,sI r5,sI r6,sI r7,sI nn,sU,sU,sU] [(.int 3),(.ref b228),(.ref b228)] (fun t k => XS.iconst X228.here hx rfl (hb hby at_171) k) ?_
          obtain ⟨T233,h233,k233,X233,e233,E233,A233,st233⟩ := newP X228 hx hZ (w_ hw 51 rfl) e228 (g := (mkF m 172 #[sI p0,sI p1,sI p2,sI p3,sI p4,sI r1,sI r2,sI r3,sI r4,sI r5,sI r6,sI r7,sI nn,sU,sU,sU] [(.int 3),(.ref b228),(.ref b228)])) rfl (hb hby at_172) rfl (by decide) (cap := 3) (by decide) (by decide) (by decide) (by decide)
          obtain ⟨b233,g233⟩ : ∃ z,z = h228.size := ⟨_,rfl⟩
          rw [← g233] at A233 st233
          have f234 := f229.ext E233
          have f235 := Safe.ext E233 CH228 f230
          have f236 := f231.ext E233
          have f237 := f232.ext E233
          have cr233 := CHr.ext E233 CH228
          have CR233 := CR228.trans cr233
          have CH233 := cr233.1
          have hk233 := Nat.le_trans hk228 cr233.2.1
          have K233 := Keep.ext K228 E233
          have Z233 := Nat.le_trans Z0 K233.1
          have g_b233 : n0 ≤ b233 := Nat.le_trans Z228 (Nat.le_of_eq g233.symm)
          have sz_b233 : h0.size ≤ b233 := Nat.le_trans (K228).1 (Nat.le_of_eq g233.symm)
          have ne_b228_b233 : b228 ≠ b233 := Nat.ne_of_lt (Nat.lt_of_lt_of_le f229.lt (Nat.le_of_eq g233.symm))
          have f238 : Arv Z h233 b233 k233 .char (3 : Int32) [(.int 0),(.int 0),(.int 0)] (.int 0) := (Arv.new A233 (by decide)).pad (pad_rep [] (.int 0) 3)
          have f239 := Safe.ext E233 CH228 (Safe.new (Nat.le_of_eq g233.symm))
          refine gv T233 174 #[sI p0,sI p1,sI p2,sI p3,sI p4,sI r1,sI r2,sI r3,sI r4,sI r5,sI r6,sI r7,sI nn,sU,sU,sU] [(.ref b233),(.ref b228),(.ref b228)] (fun t k => st233 _ k) ?_
          refine gv T233 175 #[sI p0,sI p1,sI p2,sI p3,sI p4,sI r1,sI r2,sI r3,sI r4,sI r5,sI r6,sI r7,sI nn,sU,sU,sU] [(.ref b233),(.ref b233),(.ref b228),(.ref b228)] (fun t k => XS.dup X233.here hx rfl (hb hby at_174) rfl rfl k) ?_
          refine gv T233 176 #[sI p0,sI p1,sI p2,sI p3,sI p4,sI r1,sI r2,sI r3,sI r4,sI r5,sI r6,sI r7,sI nn,sU,sU,sU] [(.int 0),(.ref b233),(.ref b233),(.ref b228),(.ref b228)] (fun t k => XS.iconst X233.here hx rfl (hb hby at_175) k) ?_
          refine gv T233 178 #[sI p0,sI p1,sI p2,sI p3,sI p4,sI r1,sI r2,sI r3,sI r4,sI r5,sI r6,sI r7,sI nn,sU,sU,sU] [(.int r1),(.int 0),(.ref b233),(.ref b233),(.ref b228),(.ref b228)] (fun t k => XS.iload X233.here hx rfl (hb hby at_176) rfl k) ?_
          obtain ⟨cl240,Ar240,q240,S240,M240,Hs240,G240⟩ := id f238
          have hin240 : ¬ ((0 : Int32) < 0 ∨ cl240.slots.size ≤ ((0 : Int32)).toNatClampNeg) := inb_of S240 ⟨by decide,by decide⟩
          obtain ⟨T240,h240,X240,e240,W240,st240⟩ := stC X233 hx hZ e233 Ar240 (j := (0 : Int32)) hin240 (g := (mkF m 178 #[sI p0,sI p1,sI p2,sI p3,sI p4,sI r1,sI r2,sI r3,sI r4,sI r5,sI r6,sI r7,sI nn,sU,sU,sU] [(.int r1),(.int 0),(.ref b233),(.ref b233),(.ref b228),(.ref b228)])) rfl rfl (hb hby at_178)
          have f241 := f234.wr W240
          have f242 := Safe.wr W240 f239 CH233 f235
          have f243 := f236.other W240 (Or.inl ne_b228_b233)
          have f244 := f237.other W240 (Or.inl ne_b228_b233)
          have f245 := Safe.wr W240 f239 CH233 f239
          have f246 : Arv Z h240 b233 k233 .char (3 : Int32) [(.int (nar .char r1)),(.int 0),(.int 0)] (.int 0) := Arv.set Ar240 q240 S240 M240 Hs240 G240 (fits_nar_char _) W240 0 rfl (Nat.le_of_ble_eq_true rfl)
          have cr240 := CHr.wr W240 f239 CH233
          have CR240 := CR233.trans cr240
          have CH240 := cr240.1
          have hk240 := Nat.le_trans hk233 cr240.2.1
          have K240 := Keep.wr K233 W240 (Or.inr sz_b233)
          have Z240 := Nat.le_trans Z0 K240.1
          have N240 := Fr.snoc X240 N7 g_b233
          refine gv T240 179 #[sI p0,sI p1,sI p2,sI p3,sI p4,sI r1,sI r2,sI r3,sI r4,sI r5,sI r6,sI r7,sI nn,sU,sU,sU] [(.ref b233),(.ref b228),(.ref b228)] (fun t k => st240 _ k) ?_
          refine gv T240 180 #[sI p0,sI p1,sI p2,sI p3,sI p4,sI r1,sI r2,sI r3,sI r4,sI r5,sI r6,sI r7,sI nn,sU,sU,sU] [(.ref b233),(.ref b233),(.ref b228),(.ref b228)] (fun t k => XS.dup X240.here hx rfl (hb hby at_179) rfl rfl k) ?_
          refine gv T240 181 #[sI p0,sI p1,sI p2,sI p3,sI p4,sI r1,sI r2,sI r3,sI r4,sI r5,sI r6,sI r7,sI nn,sU,sU,sU] [(.int 1),(.ref b233),(.ref b233),(.ref b228),(.ref b228)] (fun t k => XS.iconst X240.here hx rfl (hb hby at_180) k) ?_
          refine gv T240 183 #[sI p0,sI p1,sI p2,sI p3,sI p4,sI r1,sI r2,sI r3,sI r4,sI r5,sI r6,sI r7,sI nn,sU,sU,sU] [(.int r2),(.int 1),(.ref b233),(.ref b233),(.ref b228),(.ref b228)] (fun t k => XS.iload X240.here hx rfl (hb hby at_181) rfl k) ?_
          obtain ⟨cl247,Ar247,q247,S247,M247,Hs247,G247⟩ := id f246
          have hin247 : ¬ ((1 : Int32) < 0 ∨ cl247.slots.size ≤ ((1 : Int32)).toNatClampNeg) := inb_of S247 ⟨by decide,by decide⟩
          obtain ⟨T247,h247,X247,e247,W247,st247⟩ := stC X240 hx hZ e240 Ar247 (j := (1 : Int32)) hin247 (g := (mkF m 183 #[sI p0,sI p1,sI p2,sI p3,sI p4,sI r1,sI r2,sI r3,sI r4,sI r5,sI r6,sI r7,sI nn,sU,sU,sU] [(.int r2),(.int 1),(.ref b233),(.ref b233),(.ref b228),(.ref b228)])) rfl rfl (hb hby at_183)
          have f248 := f241.wr W247
          have f249 := Safe.wr W247 f245 CH240 f242
          have f250 := f243.other W247 (Or.inl ne_b228_b233)
          have f251 := f244.other W247 (Or.inl ne_b228_b233)
          have f252 := Safe.wr W247 f245 CH240 f245
          have f253 : Arv Z h247 b233 k233 .char (3 : Int32) [(.int (nar .char r1)),(.int (nar .char r2)),(.int 0)] (.int 0) := Arv.set Ar247 q247 S247 M247 Hs247 G247 (fits_nar_char _) W247 1 rfl (Nat.le_of_ble_eq_true rfl)
          have cr247 := CHr.wr W247 f245 CH240
          have CR247 := CR240.trans cr247
          have CH247 := cr247.1
          have hk247 := Nat.le_trans hk240 cr247.2.1
          have K247 := Keep.wr K240 W247 (Or.inr sz_b233)
          have Z247 := Nat.le_trans Z0 K247.1
          have N247 := Fr.snoc X247 N240 g_b233
          refine gv T247 184 #[sI p0,sI p1,sI p2,sI p3,sI p4,sI r1,sI r2,sI r3,sI r4,sI r5,sI r6,sI r7,sI nn,sU,sU,sU] [(.ref b233),(.ref b228),(.ref b228)] (fun t k => st247 _ k) ?_
          refine gv T247 185 #[sI p0,sI p1,sI p2,sI p3,sI p4,sI r1,sI r2,sI r3,sI r4,sI r5,sI r6,sI r7,sI nn,sU,sU,sU] [(.ref b233),(.ref b233),(.ref b228),(.ref b228)] (fun t k => XS.dup X247.here hx rfl (hb hby at_184) rfl rfl k) ?_
          refine gv T247 186 #[sI p0,sI p1,sI p2,sI p3,sI p4,sI r1,sI r2,sI r3,sI r4,sI r5,sI r6,sI r7,sI nn,sU,sU,sU] [(.int 2),(.ref b233),(.ref b233),(.ref b228),(.ref b228)] (fun t k => XS.iconst X247.here hx rfl (hb hby at_185) k) ?_
          refine gv T247 188 #[sI p0,sI p1,sI p2,sI p3,sI p4,sI r1,sI r2,sI r3,sI r4,sI r5,sI r6,sI r7,sI nn,sU,sU,sU] [(.int r3),(.int 2),(.ref b233),(.ref b233),(.ref b228),(.ref b228)] (fun t k => XS.iload X247.here hx rfl (hb hby at_186) rfl k) ?_
          obtain ⟨cl254,Ar254,q254,S254,M254,Hs254,G254⟩ := id f253
          have hin254 : ¬ ((2 : Int32) < 0 ∨ cl254.slots.size ≤ ((2 : Int32)).toNatClampNeg) := inb_of S254 ⟨by decide,by decide⟩
          obtain ⟨T254,h254,X254,e254,W254,st254⟩ := stC X247 hx hZ e247 Ar254 (j := (2 : Int32)) hin254 (g := (mkF m 188 #[sI p0,sI p1,sI p2,sI p3,sI p4,sI r1,sI r2,sI r3,sI r4,sI r5,sI r6,sI r7,sI nn,sU,sU,sU] [(.int r3),(.int 2),(.ref b233),(.ref b233),(.ref b228),(.ref b228)])) rfl rfl (hb hby at_188)
          have f255 := f248.wr W254
          have f256 := Safe.wr W254 f252 CH247 f249
          have f257 := f250.other W254 (Or.inl ne_b228_b233)
          have f258 := f251.other W254 (Or.inl ne_b228_b233)
          have f259 := Safe.wr W254 f252 CH247 f252
          have f260 : Arv Z h254 b233 k233 .char (3 : Int32) [(.int (nar .char r1)),(.int (nar .char r2)),(.int (nar .char r3))] (.int 0) := Arv.set Ar254 q254 S254 M254 Hs254 G254 (fits_nar_char _) W254 2 rfl (Nat.le_of_ble_eq_true rfl)
          have cr254 := CHr.wr W254 f252 CH247
          have CR254 := CR247.trans cr254
          have CH254 := cr254.1
          have hk254 := Nat.le_trans hk247 cr254.2.1
          have K254 := Keep.wr K247 W254 (Or.inr sz_b233)
          have Z254 := Nat.le_trans Z0 K254.1
          have N254 := Fr.snoc X254 N247 g_b233
          refine gv T254 189 #[sI p0,sI p1,sI p2,sI p3,sI p4,sI r1,sI r2,sI r3,sI r4,sI r5,sI r6,sI r7,sI nn,sU,sU,sU] [(.ref b233),(.ref b228),(.ref b228)] (fun t k => st254 _ k) ?_
          obtain ⟨_,_,⟨T261,L261,k261,n261⟩,-,X261,⟨Lc261,hQ261,l261,y261,z261⟩,st261⟩ := X254.specialBack hx (y := (⟨"java/lang/String","<init>","([C)V"⟩ : MethodName)) rfl hown (mvT hZ (w_ hw 52 rfl)) (mvT hZ (w_ hw 53 rfl)) (mvT hZ (w_ hw 54 rfl)) (by decide) (backOf (W := 1) (rm103 l Z a0 hw [] b228 b233 k233 wc (.int 0) .null (nar .char r1) (nar .char r2) (nar .char r3) h254 n0 Z254 f255 f258 f257 f260 (own_staKeep f0_COMPACT_STRINGS K254 all0) ne_b228_b233 g_b228 (own_ncR hr1) (own_ncR hr2) (own_ncR hr3) hwc) hZ (w_ hw 54 rfl) (w_ hw 8 rfl) (by decide) (by decide)) (g := (mkF m 189 #[sI p0,sI p1,sI p2,sI p3,sI p4,sI r1,sI r2,sI r3,sI r4,sI r5,sI r6,sI r7,sI nn,sU,sU,sU] [(.ref b233),(.ref b228),(.ref b228)])) rfl (by rw [hml]; rfl) (Steps.refl _) (a := b228) (argsL := [(.ref b233)]) (rest := [(.ref b228)]) (lenOf pd_20 rfl) rfl (own_rm rfl) (hb hby at_189) (fun _ _ => ⟨rfl,e254,(by decide : 16 + 1 ≤ _),(by decide : 175 + 3 ≤ _)⟩)
          dsimp only [Pt.U, Pt.locs, Pt.cells, Pt.slots] at X261 l261 y261 z261 st261 hQ261
          replace X261 := own_cast X261 l261 y261 z261
          obtain ⟨yb_261,kb_261,rfl,N261q,K261q,po261_0,po261_1,po261_2,po261_3,px261_g_yb,px261_sz_yb⟩ := hQ261
          have N261 := Fr.app N254 N261q
          have f262 := f255.keep K261q
          have f263 := Safe.keep K261q (allS f256 all0) CH254 f256
          have f264 := Safe.keep K261q (allS f256 all0) CH254 f259
          have f265 := f260.keep K261q (ninS (Ne.symm ne_b228_b233) nin0)
          have cr261 := CHr.keep K261q (allS f256 all0) CH254
          have CR261 := CR254.trans cr261
          have CH261 := cr261.1
          have hk261 := Nat.le_trans hk254 cr261.2.1
          have K261 := Keep.trans K254 K261q (allS (Or.inr sz_b228) all0)
          have Z261 := Nat.le_trans Z0 K261.1
          have g_yb_261 := px261_g_yb
          have sz_yb_261 : h0.size ≤ yb_261 := Nat.le_trans (K254).1 px261_sz_yb
          have ne_b228_yb_261 : b228 ≠ yb_261 := Nat.ne_of_lt (Nat.lt_of_lt_of_le f255.lt px261_sz_yb)
          have ne_b233_yb_261 : b233 ≠ yb_261 := Nat.ne_of_lt (Nat.lt_of_lt_of_le f260.lt px261_sz_yb)
          refine gv T261 192 #[sI p0,sI p1,sI p2,sI p3,sI p4,sI r1,sI r2,sI r3,sI r4,sI r5,sI r6,sI r7,sI nn,sU,sU,sU] [(.ref b228)] (fun t k => st261.trans k) ?_
          refine gv T261 194 #[sI p0,sI p1,sI p2,sI p3,sI p4,sI r1,sI r2,sI r3,sI r4,sI r5,sI r6,sI r7,sI nn,sR b228,sU,sU] [] (fun t k => XS.astore X261.here hx rfl (hb hby at_192) rfl rfl (l' := #[sI p0,sI p1,sI p2,sI p3,sI p4,sI r1,sI r2,sI r3,sI r4,sI r5,sI r6,sI r7,sI nn,sR b228,sU,sU]) rfl k) ?_
          refine gv T261 386 #[sI p0,sI p1,sI p2,sI p3,sI p4,sI r1,sI r2,sI r3,sI r4,sI r5,sI r6,sI r7,sI nn,sR b228,sU,sU] [] (fun t k => XS.goto X261.here hx rfl (pc0 := 194) (pc' := 386) rfl (hb hby at_194) (by decide) (by decide) k) ?_
          refine gv T261 388 #[sI p0,sI p1,sI p2,sI p3,sI p4,sI r1,sI r2,sI r3,sI r4,sI r5,sI r6,sI r7,sI nn,sR b228,sU,sU] [(.ref b228)] (fun t k => XS.aload X261.here hx rfl (hb hby at_386) rfl rfl k) ?_
          obtain ⟨b266,T266,h266,kz266,d266,k266,X266,e266,E266,hS266,hk266,hZ,hown,A266,C266,V266,R266,lta266,ltb266,cr266,Lt266,Nn266,st266⟩ := ldcCH X261 hx hZ hown (w_ hw 7 rfl) (own_wS hw) rfl hS7 hk261 (own_EW hw) (own_mem (by decide)) CH261 (vs := [(.int 100),(.int 97),(.int 121)]) (z := (3 : Int32)) ⟨by decide,rfl⟩ (by decide) rfl (g := (mkF m 388 #[sI p0,sI p1,sI p2,sI p3,sI p4,sI r1,sI r2,sI r3,sI r4,sI r5,sI r6,sI r7,sI nn,sR b228,sU,sU] [(.ref b228)])) rfl (hb hby at_388) (n := 12) (by decide) (by decide) (by decide) (by decide)
          have f267 := po261_0.ext E266
          have f268 := f265.ext E266
          have f269 := po261_1.ext E266
          have f270 := po261_2.ext E266
          have f271 := po261_3.ext E266
          have CR266 := CR261.trans cr266
          have CH266 := cr266.1
          have f272 := CHr.safe cr266 po261_0.lt f263
          have f273 := CHr.safe cr266 f265.lt f264
          have K266 := Keep.ext K261 E266
          have Z266 := Nat.le_trans Z0 K266.1
          have f274 : Exa Z h266 b266 "java/lang/String" := A266
          have f275 : Fld Z h266 b266 "java/lang/String" "coder" "B" (.int 0) := C266
          have f276 : Fld Z h266 b266 "java/lang/String" "value" "[B" (.ref d266) := V266
          have f277 : Arv Z h266 d266 k266 .byte (3 : Int32) [(.int 100),(.int 97),(.int 121)] (.int 0) := R266
          refine gv T266 390 #[sI p0,sI p1,sI p2,sI p3,sI p4,sI r1,sI r2,sI r3,sI r4,sI r5,sI r6,sI r7,sI nn,sR b228,sU,sU] [(.ref b266),(.ref b228)] (fun t k => st266 _ k) ?_
          obtain ⟨cq278,kq278,q278a,q278b,q278c⟩ := isOf hZ e266 f267
          obtain ⟨_,_,⟨T278,L278,k278,n278⟩,-,X278,⟨Lc278,hQ278,l278,y278,z278⟩,st278⟩ := X266.virtualBack hx (y := (⟨"java/lang/String","equals","(Ljava/lang/Object;)Z"⟩ : MethodName)) (z := (⟨"java/lang/String","equals","(Ljava/lang/Object;)Z"⟩ : MethodName)) hown (mvT hZ (w_ hw 72 rfl)) (mvT hZ (w_ hw 73 rfl)) (notFace_of_selects (args := #[]) (mvT hZ (w_ hw 75 rfl))) (mvT hZ (w_ hw 75 rfl)) (mvT hZ (w_ hw 74 rfl)) (by decide) (backOf (W := 0) (rm163 l Z a0 hw [] b228 b266 yb_261 d266 kb_261 k266 wc (bN r1) (bN r2) (bN r3) (100 : Int32) (97 : Int32) (121 : Int32) h266 n0 Z266 f267 f269 f270 f271 f274 f275 f276 f277 (own_staKeep f0_COMPACT_STRINGS K266 all0) (Nn266 _ f272).1 hwc) hZ (w_ hw 76 rfl) (w_ hw 8 rfl) (by decide) (by decide)) q278a q278c (g := (mkF m 390 #[sI p0,sI p1,sI p2,sI p3,sI p4,sI r1,sI r2,sI r3,sI r4,sI r5,sI r6,sI r7,sI nn,sR b228,sU,sU] [(.ref b266),(.ref b228)])) rfl (by rw [hml]; rfl) (Steps.refl _) (argsL := [(.ref b266)]) (rest := []) (lenOf pd_16 rfl) rfl (own_rm rfl) (hb hby at_390) (fun _ _ => ⟨rfl,e266,(by decide : 19 + 0 ≤ _),(by decide : 194 + 0 ≤ _)⟩)
          dsimp only [Pt.U, Pt.locs, Pt.cells, Pt.slots] at X278 l278 y278 z278 st278 hQ278
          replace X278 := own_cast X278 l278 y278 z278
          obtain ⟨r278,rfl,hr278,N278q,eq278⟩ := hQ278
          have N278 := Fr.app N261 N278q
          refine gv T278 393 #[sI p0,sI p1,sI p2,sI p3,sI p4,sI r1,sI r2,sI r3,sI r4,sI r5,sI r6,sI r7,sI nn,sR b228,sU,sU] [(.int r278)] (fun t k => st278.trans k) ?_
          by_cases hc280 : (((bN r1) = (100 : Int32)) ∧ (((bN r2) = (97 : Int32)) ∧ ((bN r3) = (121 : Int32))))
          · refine gv T278 396 #[sI p0,sI p1,sI p2,sI p3,sI p4,sI r1,sI r2,sI r3,sI r4,sI r5,sI r6,sI r7,sI nn,sR b228,sU,sU] [] (fun t k => XS.ifNo X278.here hx rfl (hb hby at_393) rfl ((if0 _ _).trans (feq (own_b1 hr278 hc280)).1) k) ?_
            obtain ⟨T281,X281,e281,st281⟩ := getS2 X278 hx hZ hown (host := "") (Or.inl (w_ hw 81 rfl)) Via.refl eq278 (own_staKeep f2_DAY K266 all0) (g := (mkF m 396 #[sI p0,sI p1,sI p2,sI p3,sI p4,sI r1,sI r2,sI r3,sI r4,sI r5,sI r6,sI r7,sI nn,sR b228,sU,sU] [])) rfl (hb hby at_396)
            refine gv T281 399 #[sI p0,sI p1,sI p2,sI p3,sI p4,sI r1,sI r2,sI r3,sI r4,sI r5,sI r6,sI r7,sI nn,sR b228,sU,sU] [(.ref dd)] (fun t k => st281 _ k) ?_
            refine gv T281 401 #[sI p0,sI p1,sI p2,sI p3,sI p4,sI r1,sI r2,sI r3,sI r4,sI r5,sI r6,sI r7,sI nn,sR b228,sR dd,sU] [] (fun t k => XS.astore X281.here hx rfl (hb hby at_399) rfl rfl (l' := #[sI p0,sI p1,sI p2,sI p3,sI p4,sI r1,sI r2,sI r3,sI r4,sI r5,sI r6,sI r7,sI nn,sR b228,sR dd,sU]) rfl k) ?_
            refine gv T281 425 #[sI p0,sI p1,sI p2,sI p3,sI p4,sI r1,sI r2,sI r3,sI r4,sI r5,sI r6,sI r7,sI nn,sR b228,sR dd,sU] [] (fun t k => XS.goto X281.here hx rfl (pc0 := 401) (pc' := 425) rfl (hb hby at_401) (by decide) (by decide) k) ?_
            refine gv T281 427 #[sI p0,sI p1,sI p2,sI p3,sI p4,sI r1,sI r2,sI r3,sI r4,sI r5,sI r6,sI r7,sI nn,sR b228,sR dd,sU] [(.ref b228)] (fun t k => XS.aload X281.here hx rfl (hb hby at_425) rfl rfl k) ?_
            obtain ⟨_,_,⟨T282,L282,k282,n282⟩,-,X282,⟨Lc282,hQ282,l282,y282,z282⟩,st282⟩ := Jvm.LawKit.callS X281 hx (y := (⟨"com/example/tallyman/tallyman/ledger/Period","named","(Ljava/lang/String;)Ljava/util/Optional;"⟩ : MethodName)) hown (mvT hZ (w_ hw 84 rfl)) (mvT hZ (w_ hw 85 rfl)) (mvT hZ (w_ hw 82 rfl)) (mvT hZ (w_ hw 86 rfl)) (by decide) (backOf (W := 0) (rm183t l Z a0 hw [] b228 yV kV dd mm td bd kd tm bm km oe wc yb_261 kb_261 (bN r1) (bN r2) (bN r3) h266 n0 Z266 (own_staKeep f4__VALUES K266 all0) (f5_yV.keep K266 nin0) (f6_yV.keep K266) (f9_dd_text.keep K266 nin0) (f10_td.keep K266) (f11_td_coder.keep K266 nin0) (f12_td_value.keep K266 nin0) (f13_bd.keep K266 nin0) (f14_mm_text.keep K266 nin0) (f15_tm.keep K266) (f16_tm_coder.keep K266 nin0) (f17_tm_value.keep K266 nin0) (f18_bm.keep K266 nin0) (own_staKeep f19_EMPTY K266 all0) (own_staKeep f0_COMPACT_STRINGS K266 all0) f267 f269 f270 f271 (Nat.ne_of_lt (Nat.lt_of_lt_of_le f10_td.lt sz_b228)) (Nat.ne_of_lt (Nat.lt_of_lt_of_le f15_tm.lt sz_b228)) hwc (own_flip3 hc280)) hZ (w_ hw 86 rfl) (w_ hw 82 rfl) (by decide) (by decide)) (g := (mkF m 427 #[sI p0,sI p1,sI p2,sI p3,sI p4,sI r1,sI r2,sI r3,sI r4,sI r5,sI r6,sI r7,sI nn,sR b228,sR dd,sU] [(.ref b228)])) rfl (by rw [hml]; rfl) (argsL := [(.ref b228)]) (rest := []) (lenOf pd_21 rfl) rfl (own_rm rfl) (hb hby at_427) (fun _ _ => ⟨rfl,e281,(by decide : 19 + 2 ≤ _),(by decide : 194 + 3 ≤ _)⟩)
            dsimp only [Pt.U, Pt.locs, Pt.cells, Pt.slots] at X282 l282 y282 z282 st282 hQ282
            replace X282 := own_cast X282 l282 y282 z282
            obtain ⟨yo_282,rfl,N282q,K282q,po282_0,po282_1,px282_g_yo,px282_sz_yo⟩ := hQ282
            have N282 := Fr.app N278 N282q
            have f283 := f267.keep K282q
            have f284 := f268.keep K282q nin0
            have f285 := f269.keep K282q nin0
            have f286 := f270.keep K282q nin0
            have f287 := f271.keep K282q nin0
            have f288 := Safe.keep K282q all0 CH266 f272
            have f289 := Safe.keep K282q all0 CH266 f273
            have f290 := f274.keep K282q
            have f291 := f275.keep K282q nin0
            have f292 := f276.keep K282q nin0
            have f293 := f277.keep K282q nin0
            have cr282 := CHr.keep K282q all0 CH266
            have CR282 := CR266.trans cr282
            have CH282 := cr282.1
            have hk282 := Nat.le_trans hk266 cr282.2.1
            have K282 := Keep.trans K266 K282q all0
            have Z282 := Nat.le_trans Z0 K282.1
            have g_yo_282 := px282_g_yo
            have sz_yo_282 : h0.size ≤ yo_282 := Nat.le_trans (K266).1 px282_sz_yo
            have ne_b228_yo_282 : b228 ≠ yo_282 := Nat.ne_of_lt (Nat.lt_of_lt_of_le f267.lt px282_sz_yo)
            have ne_b233_yo_282 : b233 ≠ yo_282 := Nat.ne_of_lt (Nat.lt_of_lt_of_le f268.lt px282_sz_yo)
            have ne_yb_261_yo_282 : yb_261 ≠ yo_282 := Nat.ne_of_lt (Nat.lt_of_lt_of_le f271.lt px282_sz_yo)
            have ne_b266_yo_282 : b266 ≠ yo_282 := Nat.ne_of_lt (Nat.lt_of_lt_of_le f274.lt px282_sz_yo)
            have ne_d266_yo_282 : d266 ≠ yo_282 := Nat.ne_of_lt (Nat.lt_of_lt_of_le f277.lt px282_sz_yo)
            refine gv T282 430 #[sI p0,sI p1,sI p2,sI p3,sI p4,sI r1,sI r2,sI r3,sI r4,sI r5,sI r6,sI r7,sI nn,sR b228,sR dd,sU] [(.ref yo_282)] (fun t k => st282 _ k) ?_
            refine gv T282 431 #[sI p0,sI p1,sI p2,sI p3,sI p4,sI r1,sI r2,sI r3,sI r4,sI r5,sI r6,sI r7,sI nn,sR b228,sR dd,sU] [.null,(.ref yo_282)] (fun t k => XS.aconstNull X282.here hx rfl (hb hby at_430) k) ?_
            obtain ⟨cq294,kq294,q294a,q294b,q294c⟩ := isOf hZ rfl po282_0
            obtain ⟨_,_,⟨T294,L294,k294,n294⟩,-,X294,⟨Lc294,hQ294,l294,y294,z294⟩,st294⟩ := X282.virtualBack hx (y := (⟨"java/util/Optional","orElse","(Ljava/lang/Object;)Ljava/lang/Object;"⟩ : MethodName)) (z := (⟨"java/util/Optional","orElse","(Ljava/lang/Object;)Ljava/lang/Object;"⟩ : MethodName)) hown (mvT hZ (w_ hw 123 rfl)) (mvT hZ (w_ hw 124 rfl)) (notFace_of_selects (args := #[]) (mvT hZ (w_ hw 126 rfl))) (mvT hZ (w_ hw 126 rfl)) (mvT hZ (w_ hw 125 rfl)) (by decide) (backOf (W := 0) (rm23v l Z a0 hw [] yo_282 dd T282.heap n0 Z282 po282_1) hZ (w_ hw 127 rfl) (w_ hw 108 rfl) (by decide) (by decide)) q294a q294c (g := (mkF m 431 #[sI p0,sI p1,sI p2,sI p3,sI p4,sI r1,sI r2,sI r3,sI r4,sI r5,sI r6,sI r7,sI nn,sR b228,sR dd,sU] [.null,(.ref yo_282)])) rfl (by rw [hml]; rfl) (Steps.refl _) (argsL := [.null]) (rest := []) (lenOf pd_13 rfl) rfl (own_rm rfl) (hb hby at_431) (fun _ _ => ⟨rfl,rfl,(by decide : 21 + 0 ≤ _),(by decide : 197 + 0 ≤ _)⟩)
            dsimp only [Pt.U, Pt.locs, Pt.cells, Pt.slots] at X294 l294 y294 z294 st294 hQ294
            replace X294 := own_cast X294 l294 y294 z294
            obtain ⟨rfl,N294q,eq294⟩ := hQ294
            have N294 := Fr.app N282 N294q
            refine gv T294 434 #[sI p0,sI p1,sI p2,sI p3,sI p4,sI r1,sI r2,sI r3,sI r4,sI r5,sI r6,sI r7,sI nn,sR b228,sR dd,sU] [(.ref dd)] (fun t k => st294.trans k) ?_
            obtain ⟨T295,X295,e295,st295⟩ := castY X294 hx hZ hown (w_ hw 128 rfl) eq294 (Ins.self (f7_dd.keep K282)) (g := (mkF m 434 #[sI p0,sI p1,sI p2,sI p3,sI p4,sI r1,sI r2,sI r3,sI r4,sI r5,sI r6,sI r7,sI nn,sR b228,sR dd,sU] [(.ref dd)])) rfl rfl (hb hby at_434)
            refine gv T295 437 #[sI p0,sI p1,sI p2,sI p3,sI p4,sI r1,sI r2,sI r3,sI r4,sI r5,sI r6,sI r7,sI nn,sR b228,sR dd,sU] [(.ref dd)] (fun t k => st295 _ k) ?_
            refine gv T295 439 #[sI p0,sI p1,sI p2,sI p3,sI p4,sI r1,sI r2,sI r3,sI r4,sI r5,sI r6,sI r7,sI nn,sR b228,sR dd,sR dd] [] (fun t k => XS.astore X295.here hx rfl (hb hby at_437) rfl rfl (l' := #[sI p0,sI p1,sI p2,sI p3,sI p4,sI r1,sI r2,sI r3,sI r4,sI r5,sI r6,sI r7,sI nn,sR b228,sR dd,sR dd]) rfl k) ?_
            refine gv T295 441 #[sI p0,sI p1,sI p2,sI p3,sI p4,sI r1,sI r2,sI r3,sI r4,sI r5,sI r6,sI r7,sI nn,sR b228,sR dd,sR dd] [(.ref dd)] (fun t k => XS.aload X295.here hx rfl (hb hby at_439) rfl rfl k) ?_
            refine gv T295 443 #[sI p0,sI p1,sI p2,sI p3,sI p4,sI r1,sI r2,sI r3,sI r4,sI r5,sI r6,sI r7,sI nn,sR b228,sR dd,sR dd] [(.ref dd),(.ref dd)] (fun t k => XS.aload X295.here hx rfl (hb hby at_441) rfl rfl k) ?_
            refine gv T295 446 #[sI p0,sI p1,sI p2,sI p3,sI p4,sI r1,sI r2,sI r3,sI r4,sI r5,sI r6,sI r7,sI nn,sR b228,sR dd,sR dd] [] (fun t k => Jvm.RoadKit.acmp (g := (mkF m 443 #[sI p0,sI p1,sI p2,sI p3,sI p4,sI r1,sI r2,sI r3,sI r4,sI r5,sI r6,sI r7,sI nn,sR b228,sR dd,sR dd] [(.ref dd),(.ref dd)])) X295 hx rfl rfl rfl (pc0 := 443) (pc' := 446) (same := true) rfl (hb hby at_443) rfl (decide_eq_true rfl) (by decide) (by decide) k) ?_
            refine gv T295 447 #[sI p0,sI p1,sI p2,sI p3,sI p4,sI r1,sI r2,sI r3,sI r4,sI r5,sI r6,sI r7,sI nn,sR b228,sR dd,sR dd] [(.int 1)] (fun t k => XS.iconst X295.here hx rfl (hb hby at_446) k) ?_
            refine gv T295 451 #[sI p0,sI p1,sI p2,sI p3,sI p4,sI r1,sI r2,sI r3,sI r4,sI r5,sI r6,sI r7,sI nn,sR b228,sR dd,sR dd] [(.int 1)] (fun t k => XS.goto X295.here hx rfl (pc0 := 447) (pc' := 451) rfl (hb hby at_447) (by decide) (by decide) k) ?_
            exact own_retW X295 hx Bd.notSynchronized Bd.returns rfl (Or.inl ⟨rfl,by simp,_,rfl⟩) (hb hby at_451) e295 hS266 hk282 hZ (own_EW hw) CR282 hh ⟨rfl,N294⟩ (by decide) (by decide)
          · refine gv T278 404 #[sI p0,sI p1,sI p2,sI p3,sI p4,sI r1,sI r2,sI r3,sI r4,sI r5,sI r6,sI r7,sI nn,sR b228,sU,sU] [] (fun t k => XS.ifYes X278.here hx rfl (pc0 := 393) (pc' := 404) rfl (hb hby at_393) rfl ((if0 _ _).trans (teq (own_b0 hr278 hc280)).1) (by decide) (by decide) k) ?_
            refine gv T278 406 #[sI p0,sI p1,sI p2,sI p3,sI p4,sI r1,sI r2,sI r3,sI r4,sI r5,sI r6,sI r7,sI nn,sR b228,sU,sU] [(.ref b228)] (fun t k => XS.aload X278.here hx rfl (hb hby at_404) rfl rfl k) ?_
            obtain ⟨b296,T296,h296,kz296,d296,k296,X296,e296,E296,hS296,hk296,hZ,hown,A296,C296,V296,R296,lta296,ltb296,cr296,Lt296,Nn296,st296⟩ := ldcCH X278 hx hZ hown (w_ hw 130 rfl) (own_wS hw) eq278 hS266 hk266 (own_EW hw) (own_mem (by decide)) CH266 (vs := [(.int 109),(.int 111),(.int 110),(.int 116),(.int 104)]) (z := (5 : Int32)) ⟨by decide,rfl⟩ (by decide) rfl (g := (mkF m 406 #[sI p0,sI p1,sI p2,sI p3,sI p4,sI r1,sI r2,sI r3,sI r4,sI r5,sI r6,sI r7,sI nn,sR b228,sU,sU] [(.ref b228)])) rfl (hb hby at_406) (n := 20) (by decide) (by decide) (by decide) (by decide)
            have f297 := f267.ext E296
            have f298 := f268.ext E296
            have f299 := f269.ext E296
            have f300 := f270.ext E296
            have f301 := f271.ext E296
            have f302 := f274.ext E296
            have f303 := f275.ext E296
            have f304 := f276.ext E296
            have f305 := f277.ext E296
            have CR296 := CR266.trans cr296
            have CH296 := cr296.1
            have f306 := CHr.safe cr296 f267.lt f272
            have f307 := CHr.safe cr296 f268.lt f273
            have K296 := Keep.ext K266 E296
            have Z296 := Nat.le_trans Z0 K296.1
            have f308 : Exa Z h296 b296 "java/lang/String" := A296
            have f309 : Fld Z h296 b296 "java/lang/String" "coder" "B" (.int 0) := C296
            have f310 : Fld Z h296 b296 "java/lang/String" "value" "[B" (.ref d296) := V296
            have f311 : Arv Z h296 d296 k296 .byte (5 : Int32) [(.int 109),(.int 111),(.int 110),(.int 116),(.int 104)] (.int 0) := R296
            refine gv T296 408 #[sI p0,sI p1,sI p2,sI p3,sI p4,sI r1,sI r2,sI r3,sI r4,sI r5,sI r6,sI r7,sI nn,sR b228,sU,sU] [(.ref b296),(.ref b228)] (fun t k => st296 _ k) ?_
            obtain ⟨cq312,kq312,q312a,q312b,q312c⟩ := isOf hZ e296 f297
            obtain ⟨_,_,⟨T312,L312,k312,n312⟩,-,X312,⟨Lc312,hQ312,l312,y312,z312⟩,st312⟩ := X296.virtualBack hx (y := (⟨"java/lang/String","equals","(Ljava/lang/Object;)Z"⟩ : MethodName)) (z := (⟨"java/lang/String","equals","(Ljava/lang/Object;)Z"⟩ : MethodName)) hown (mvT hZ (w_ hw 72 rfl)) (mvT hZ (w_ hw 73 rfl)) (notFace_of_selects (args := #[]) (mvT hZ (w_ hw 75 rfl))) (mvT hZ (w_ hw 75 rfl)) (mvT hZ (w_ hw 74 rfl)) (by decide) (backOf (W := 0) (rm16x l Z a0 hw [] b228 b296 yb_261 d296 kb_261 k296 (3 : Int32) (5 : Int32) ([(.int (bN r1)),(.int (bN r2)),(.int (bN r3))] : List Value) ([(.int 109),(.int 111),(.int 110),(.int 116),(.int 104)] : List Value) wc h296 n0 Z296 f297 f299 f300 f301 f308 f309 f310 f311 (own_staKeep f0_COMPACT_STRINGS K296 all0) (Nn296 _ f306).1 (by decide) hwc) hZ (w_ hw 76 rfl) (w_ hw 8 rfl) (by decide) (by decide)) q312a q312c (g := (mkF m 408 #[sI p0,sI p1,sI p2,sI p3,sI p4,sI r1,sI r2,sI r3,sI r4,sI r5,sI r6,sI r7,sI nn,sR b228,sU,sU] [(.ref b296),(.ref b228)])) rfl (by rw [hml]; rfl) (Steps.refl _) (argsL := [(.ref b296)]) (rest := []) (lenOf pd_16 rfl) rfl (own_rm rfl) (hb hby at_408) (fun _ _ => ⟨rfl,e296,(by decide : 21 + 0 ≤ _),(by decide : 218 + 0 ≤ _)⟩)
            dsimp only [Pt.U, Pt.locs, Pt.cells, Pt.slots] at X312 l312 y312 z312 st312 hQ312
            replace X312 := own_cast X312 l312 y312 z312
            obtain ⟨rfl,N312q,eq312⟩ := hQ312
            have N312 := Fr.app N278 N312q
            refine gv T312 411 #[sI p0,sI p1,sI p2,sI p3,sI p4,sI r1,sI r2,sI r3,sI r4,sI r5,sI r6,sI r7,sI nn,sR b228,sU,sU] [(.int 0)] (fun t k => st312.trans k) ?_
            refine gv T312 422 #[sI p0,sI p1,sI p2,sI p3,sI p4,sI r1,sI r2,sI r3,sI r4,sI r5,sI r6,sI r7,sI nn,sR b228,sU,sU] [] (fun t k => XS.ifYes X312.here hx rfl (pc0 := 411) (pc' := 422) rfl (hb hby at_411) rfl ((if0 _ _).trans (teq rfl).1) (by decide) (by decide) k) ?_
            refine gv T312 423 #[sI p0,sI p1,sI p2,sI p3,sI p4,sI r1,sI r2,sI r3,sI r4,sI r5,sI r6,sI r7,sI nn,sR b228,sU,sU] [.null] (fun t k => XS.aconstNull X312.here hx rfl (hb hby at_422) k) ?_
            refine gv T312 425 #[sI p0,sI p1,sI p2,sI p3,sI p4,sI r1,sI r2,sI r3,sI r4,sI r5,sI r6,sI r7,sI nn,sR b228,.val .null,sU] [] (fun t k => XS.astore X312.here hx rfl (hb hby at_423) rfl rfl (l' := #[sI p0,sI p1,sI p2,sI p3,sI p4,sI r1,sI r2,sI r3,sI r4,sI r5,sI r6,sI r7,sI nn,sR b228,.val .null,sU]) rfl k) ?_
            refine gv T312 427 #[sI p0,sI p1,sI p2,sI p3,sI p4,sI r1,sI r2,sI r3,sI r4,sI r5,sI r6,sI r7,sI nn,sR b228,.val .null,sU] [(.ref b228)] (fun t k => XS.aload X312.here hx rfl (hb hby at_425) rfl rfl k) ?_
            obtain ⟨_,_,⟨T313,L313,k313,n313⟩,-,X313,⟨Lc313,hQ313,l313,y313,z313⟩,st313⟩ := Jvm.LawKit.callS X312 hx (y := (⟨"com/example/tallyman/tallyman/ledger/Period","named","(Ljava/lang/String;)Ljava/util/Optional;"⟩ : MethodName)) hown (mvT hZ (w_ hw 84 rfl)) (mvT hZ (w_ hw 85 rfl)) (mvT hZ (w_ hw 82 rfl)) (mvT hZ (w_ hw 86 rfl)) (by decide) (backOf (W := 0) (rm183f l Z a0 hw [] b228 yV kV dd mm td bd kd tm bm km oe wc yb_261 kb_261 (bN r1) (bN r2) (bN r3) h296 n0 Z296 (own_staKeep f4__VALUES K296 all0) (f5_yV.keep K296 nin0) (f6_yV.keep K296) (f9_dd_text.keep K296 nin0) (f10_td.keep K296) (f11_td_coder.keep K296 nin0) (f12_td_value.keep K296 nin0) (f13_bd.keep K296 nin0) (f14_mm_text.keep K296 nin0) (f15_tm.keep K296) (f16_tm_coder.keep K296 nin0) (f17_tm_value.keep K296 nin0) (f18_bm.keep K296 nin0) (own_staKeep f19_EMPTY K296 all0) (own_staKeep f0_COMPACT_STRINGS K296 all0) f297 f299 f300 f301 (Nat.ne_of_lt (Nat.lt_of_lt_of_le f10_td.lt sz_b228)) (Nat.ne_of_lt (Nat.lt_of_lt_of_le f15_tm.lt sz_b228)) hwc (fun q => hc280 (own_flip3 q))) hZ (w_ hw 86 rfl) (w_ hw 82 rfl) (by decide) (by decide)) (g := (mkF m 427 #[sI p0,sI p1,sI p2,sI p3,sI p4,sI r1,sI r2,sI r3,sI r4,sI r5,sI r6,sI r7,sI nn,sR b228,.val .null,sU] [(.ref b228)])) rfl (by rw [hml]; rfl) (argsL := [(.ref b228)]) (rest := []) (lenOf pd_21 rfl) rfl (own_rm rfl) (hb hby at_427) (fun _ _ => ⟨rfl,eq312,(by decide : 21 + 1 ≤ _),(by decide : 218 + 2 ≤ _)⟩)
            dsimp only [Pt.U, Pt.locs, Pt.cells, Pt.slots] at X313 l313 y313 z313 st313 hQ313
            replace X313 := own_cast X313 l313 y313 z313
            obtain ⟨rfl,N313q,K313q⟩ := hQ313
            have N313 := Fr.app N312 N313q
            have f314 := f297.keep K313q
            have f315 := f298.keep K313q nin0
            have f316 := f299.keep K313q nin0
            have f317 := f300.keep K313q nin0
            have f318 := f301.keep K313q nin0
            have f319 := f302.keep K313q
            have f320 := f303.keep K313q nin0
            have f321 := f304.keep K313q nin0
            have f322 := f305.keep K313q nin0
            have f323 := Safe.keep K313q all0 CH296 f306
            have f324 := Safe.keep K313q all0 CH296 f307
            have f325 := f308.keep K313q
            have f326 := f309.keep K313q nin0
            have f327 := f310.keep K313q nin0
            have f328 := f311.keep K313q nin0
            have cr313 := CHr.keep K313q all0 CH296
            have CR313 := CR296.trans cr313
            have CH313 := cr313.1
            have hk313 := Nat.le_trans hk296 cr313.2.1
            have K313 := Keep.trans K296 K313q all0
            have Z313 := Nat.le_trans Z0 K313.1
            refine gv T313 430 #[sI p0,sI p1,sI p2,sI p3,sI p4,sI r1,sI r2,sI r3,sI r4,sI r5,sI r6,sI r7,sI nn,sR b228,.val .null,sU] [(.ref oe)] (fun t k => st313 _ k) ?_
            refine gv T313 431 #[sI p0,sI p1,sI p2,sI p3,sI p4,sI r1,sI r2,sI r3,sI r4,sI r5,sI r6,sI r7,sI nn,sR b228,.val .null,sU] [.null,(.ref oe)] (fun t k => XS.aconstNull X313.here hx rfl (hb hby at_430) k) ?_
            obtain ⟨cq329,kq329,q329a,q329b,q329c⟩ := isOf hZ rfl (f20_oe.keep K313)
            obtain ⟨_,_,⟨T329,L329,k329,n329⟩,-,X329,⟨Lc329,hQ329,l329,y329,z329⟩,st329⟩ := X313.virtualBack hx (y := (⟨"java/util/Optional","orElse","(Ljava/lang/Object;)Ljava/lang/Object;"⟩ : MethodName)) (z := (⟨"java/util/Optional","orElse","(Ljava/lang/Object;)Ljava/lang/Object;"⟩ : MethodName)) hown (mvT hZ (w_ hw 123 rfl)) (mvT hZ (w_ hw 124 rfl)) (notFace_of_selects (args := #[]) (mvT hZ (w_ hw 126 rfl))) (mvT hZ (w_ hw 126 rfl)) (mvT hZ (w_ hw 125 rfl)) (by decide) (backOf (W := 0) (rm23n l Z a0 hw [] oe T313.heap n0 Z313 (f21_oe_value.keep K313 nin0)) hZ (w_ hw 127 rfl) (w_ hw 108 rfl) (by decide) (by decide)) q329a q329c (g := (mkF m 431 #[sI p0,sI p1,sI p2,sI p3,sI p4,sI r1,sI r2,sI r3,sI r4,sI r5,sI r6,sI r7,sI nn,sR b228,.val .null,sU] [.null,(.ref oe)])) rfl (by rw [hml]; rfl) (Steps.refl _) (argsL := [.null]) (rest := []) (lenOf pd_13 rfl) rfl (own_rm rfl) (hb hby at_431) (fun _ _ => ⟨rfl,rfl,(by decide : 22 + 0 ≤ _),(by decide : 220 + 0 ≤ _)⟩)
            dsimp only [Pt.U, Pt.locs, Pt.cells, Pt.slots] at X329 l329 y329 z329 st329 hQ329
            replace X329 := own_cast X329 l329 y329 z329
            obtain ⟨rfl,N329q,eq329⟩ := hQ329
            have N329 := Fr.app N313 N329q
            refine gv T329 434 #[sI p0,sI p1,sI p2,sI p3,sI p4,sI r1,sI r2,sI r3,sI r4,sI r5,sI r6,sI r7,sI nn,sR b228,.val .null,sU] [.null] (fun t k => st329.trans k) ?_
            refine gv T329 437 #[sI p0,sI p1,sI p2,sI p3,sI p4,sI r1,sI r2,sI r3,sI r4,sI r5,sI r6,sI r7,sI nn,sR b228,.val .null,sU] [.null] (fun t k => X329.checkcastNull hx (g := (mkF m 434 #[sI p0,sI p1,sI p2,sI p3,sI p4,sI r1,sI r2,sI r3,sI r4,sI r5,sI r6,sI r7,sI nn,sR b228,.val .null,sU] [.null])) rfl rfl (hb hby at_434) _ k) ?_
            refine gv T329 439 #[sI p0,sI p1,sI p2,sI p3,sI p4,sI r1,sI r2,sI r3,sI r4,sI r5,sI r6,sI r7,sI nn,sR b228,.val .null,.val .null] [] (fun t k => XS.astore X329.here hx rfl (hb hby at_437) rfl rfl (l' := #[sI p0,sI p1,sI p2,sI p3,sI p4,sI r1,sI r2,sI r3,sI r4,sI r5,sI r6,sI r7,sI nn,sR b228,.val .null,.val .null]) rfl k) ?_
            refine gv T329 441 #[sI p0,sI p1,sI p2,sI p3,sI p4,sI r1,sI r2,sI r3,sI r4,sI r5,sI r6,sI r7,sI nn,sR b228,.val .null,.val .null] [.null] (fun t k => XS.aload X329.here hx rfl (hb hby at_439) rfl rfl k) ?_
            refine gv T329 443 #[sI p0,sI p1,sI p2,sI p3,sI p4,sI r1,sI r2,sI r3,sI r4,sI r5,sI r6,sI r7,sI nn,sR b228,.val .null,.val .null] [.null,.null] (fun t k => XS.aload X329.here hx rfl (hb hby at_441) rfl rfl k) ?_
            refine gv T329 446 #[sI p0,sI p1,sI p2,sI p3,sI p4,sI r1,sI r2,sI r3,sI r4,sI r5,sI r6,sI r7,sI nn,sR b228,.val .null,.val .null] [] (fun t k => Jvm.RoadKit.acmp (g := (mkF m 443 #[sI p0,sI p1,sI p2,sI p3,sI p4,sI r1,sI r2,sI r3,sI r4,sI r5,sI r6,sI r7,sI nn,sR b228,.val .null,.val .null] [.null,.null])) X329 hx rfl rfl rfl (pc0 := 443) (pc' := 446) (same := true) rfl (hb hby at_443) rfl (decide_eq_true rfl) (by decide) (by decide) k) ?_
            refine gv T329 447 #[sI p0,sI p1,sI p2,sI p3,sI p4,sI r1,sI r2,sI r3,sI r4,sI r5,sI r6,sI r7,sI nn,sR b228,.val .null,.val .null] [(.int 1)] (fun t k => XS.iconst X329.here hx rfl (hb hby at_446) k) ?_
            refine gv T329 451 #[sI p0,sI p1,sI p2,sI p3,sI p4,sI r1,sI r2,sI r3,sI r4,sI r5,sI r6,sI r7,sI nn,sR b228,.val .null,.val .null] [(.int 1)] (fun t k => XS.goto X329.here hx rfl (pc0 := 447) (pc' := 451) rfl (hb hby at_447) (by decide) (by decide) k) ?_
            exact own_retW X329 hx Bd.notSynchronized Bd.returns rfl (Or.inl ⟨rfl,by simp,_,rfl⟩) (hb hby at_451) eq329 hS296 hk313 hZ (own_EW hw) CR313 hh ⟨rfl,N329⟩ (by decide) (by decide)
        · refine gv T7 197 #[sI p0,sI p1,sI p2,sI p3,sI p4,sI r1,sI r2,sI r3,sI r4,sI r5,sI r6,sI r7,sI nn,sU,sU,sU] [] (fun t k => XS.icmpYes X7.here hx rfl (pc0 := 164) (pc' := 197) rfl (hb hby at_164) rfl (feq hc227).2 (by decide) (by decide) k) ?_
          refine gv T7 199 #[sI p0,sI p1,sI p2,sI p3,sI p4,sI r1,sI r2,sI r3,sI r4,sI r5,sI r6,sI r7,sI nn,sU,sU,sU] [(.int nn)] (fun t k => XS.iload X7.here hx rfl (hb hby at_197) rfl k) ?_
          refine gv T7 200 #[sI p0,sI p1,sI p2,sI p3,sI p4,sI r1,sI r2,sI r3,sI r4,sI r5,sI r6,sI r7,sI nn,sU,sU,sU] [(.int 4),(.int nn)] (fun t k => XS.iconst X7.here hx rfl (hb hby at_199) k) ?_
          by_cases hc331 : (nn = (4 : Int32))
          · refine gv T7 203 #[sI p0,sI p1,sI p2,sI p3,sI p4,sI r1,sI r2,sI r3,sI r4,sI r5,sI r6,sI r7,sI nn,sU,sU,sU] [] (fun t k => XS.icmpNo X7.here hx rfl (hb hby at_200) rfl (teq hc331).2 k) ?_
            obtain ⟨T332,h332,X332,e332,E332,A332,D332,-,st332⟩ := newO X7 hx hZ hown (w_ hw 50 rfl) (w_ hw 9 rfl) (w_ hw 8 rfl) rfl (g := (mkF m 203 #[sI p0,sI p1,sI p2,sI p3,sI p4,sI r1,sI r2,sI r3,sI r4,sI r5,sI r6,sI r7,sI nn,sU,sU,sU] [])) rfl (hb hby at_203) (by decide) (by decide)
            obtain ⟨b332,g332⟩ : ∃ z,z = T7.heap.size := ⟨_,rfl⟩
            rw [← g332] at A332 D332 st332
            have cr332 := CHr.ext E332 CH7
            have CR332 := CR7.trans cr332
            have CH332 := cr332.1
            have hk332 := Nat.le_trans hk7 cr332.2.1
            have K332 := Keep.ext K7 E332
            have Z332 := Nat.le_trans Z0 K332.1
            have g_b332 : n0 ≤ b332 := Nat.le_trans Z7 (Nat.le_of_eq g332.symm)
            have sz_b332 : h0.size ≤ b332 := Nat.le_trans (K7).1 (Nat.le_of_eq g332.symm)
            have f333 : Exa Z h332 b332 "java/lang/String" := A332
            have f334 := Safe.ext E332 CH7 (Safe.new (Nat.le_of_eq g332.symm))
            have f335 : Fld Z h332 b332 "java/lang/String" "value" "[B" .null := D332 (Or.inr (w_ hw 11 rfl)) (ty := (.array .byte)) (by decide)
            have f336 : Fld Z h332 b332 "java/lang/String" "coder" "B" (.int 0) := D332 (Or.inr (w_ hw 12 rfl)) (ty := .byte) (by decide)
            refine gv T332 206 #[sI p0,sI p1,sI p2,sI p3,sI p4,sI r1,sI r2,sI r3,sI r4,sI r5,sI r6,sI r7,sI nn,sU,sU,sU] [(.ref b332)] (fun t k => st332 _ k) ?_
            refine gv T332 207 #[sI p0,sI p1,sI p2,sI p3,sI p4,sI r1,sI r2,sI r3,sI r4,sI r5,sI r6,sI r7,sI nn,sU,sU,sU] [(.ref b332),(.ref b332)] (fun t k => XS.dup X332.here hx rfl (hb hby at_206) rfl rfl k) ?_
            refine gv T332 208 #[sI p0,sI p1,sI p2,sI p3,sI p4,sI r1,sI r2,sI r3,sI r4,sI r5,sI r6,sI r7,sI nn,sU,sU,sU] [(.int 4),(.ref b332),(.ref b332)] (fun t k => XS.iconst X332.here hx rfl (hb hby at_207) k) ?_
            obtain ⟨T337,h337,k337,X337,e337,E337,A337,st337⟩ := newP X332 hx hZ (w_ hw 51 rfl) e332 (g := (mkF m 208 #[sI p0,sI p1,sI p2,sI p3,sI p4,sI r1,sI r2,sI r3,sI r4,sI r5,sI r6,sI r7,sI nn,sU,sU,sU] [(.int 4),(.ref b332),(.ref b332)])) rfl (hb hby at_208) rfl (by decide) (cap := 4) (by decide) (by decide) (by decide) (by decide)
            obtain ⟨b337,g337⟩ : ∃ z,z = h332.size := ⟨_,rfl⟩
            rw [← g337] at A337 st337
            have f338 := f333.ext E337
            have f339 := Safe.ext E337 CH332 f334
            have f340 := f335.ext E337
            have f341 := f336.ext E337
            have cr337 := CHr.ext E337 CH332
            have CR337 := CR332.trans cr337
            have CH337 := cr337.1
            have hk337 := Nat.le_trans hk332 cr337.2.1
            have K337 := Keep.ext K332 E337
            have Z337 := Nat.le_trans Z0 K337.1
            have g_b337 : n0 ≤ b337 := Nat.le_trans Z332 (Nat.le_of_eq g337.symm)
            have sz_b337 : h0.size ≤ b337 := Nat.le_trans (K332).1 (Nat.le_of_eq g337.symm)
            have ne_b332_b337 : b332 ≠ b337 := Nat.ne_of_lt (Nat.lt_of_lt_of_le f333.lt (Nat.le_of_eq g337.symm))
            have f342 : Arv Z h337 b337 k337 .char (4 : Int32) [(.int 0),(.int 0),(.int 0),(.int 0)] (.int 0) := (Arv.new A337 (by decide)).pad (pad_rep [] (.int 0) 4)
            have f343 := Safe.ext E337 CH332 (Safe.new (Nat.le_of_eq g337.symm))
            refine gv T337 210 #[sI p0,sI p1,sI p2,sI p3,sI p4,sI r1,sI r2,sI r3,sI r4,sI r5,sI r6,sI r7,sI nn,sU,sU,sU] [(.ref b337),(.ref b332),(.ref b332)] (fun t k => st337 _ k) ?_
            refine gv T337 211 #[sI p0,sI p1,sI p2,sI p3,sI p4,sI r1,sI r2,sI r3,sI r4,sI r5,sI r6,sI r7,sI nn,sU,sU,sU] [(.ref b337),(.ref b337),(.ref b332),(.ref b332)] (fun t k => XS.dup X337.here hx rfl (hb hby at_210) rfl rfl k) ?_
            refine gv T337 212 #[sI p0,sI p1,sI p2,sI p3,sI p4,sI r1,sI r2,sI r3,sI r4,sI r5,sI r6,sI r7,sI nn,sU,sU,sU] [(.int 0),(.ref b337),(.ref b337),(.ref b332),(.ref b332)] (fun t k => XS.iconst X337.here hx rfl (hb hby at_211) k) ?_
            refine gv T337 214 #[sI p0,sI p1,sI p2,sI p3,sI p4,sI r1,sI r2,sI r3,sI r4,sI r5,sI r6,sI r7,sI nn,sU,sU,sU] [(.int r1),(.int 0),(.ref b337),(.ref b337),(.ref b332),(.ref b332)] (fun t k => XS.iload X337.here hx rfl (hb hby at_212) rfl k) ?_
            obtain ⟨cl344,Ar344,q344,S344,M344,Hs344,G344⟩ := id f342
            have hin344 : ¬ ((0 : Int32) < 0 ∨ cl344.slots.size ≤ ((0 : Int32)).toNatClampNeg) := inb_of S344 ⟨by decide,by decide⟩
            obtain ⟨T344,h344,X344,e344,W344,st344⟩ := stC X337 hx hZ e337 Ar344 (j := (0 : Int32)) hin344 (g := (mkF m 214 #[sI p0,sI p1,sI p2,sI p3,sI p4,sI r1,sI r2,sI r3,sI r4,sI r5,sI r6,sI r7,sI nn,sU,sU,sU] [(.int r1),(.int 0),(.ref b337),(.ref b337),(.ref b332),(.ref b332)])) rfl rfl (hb hby at_214)
            have f345 := f338.wr W344
            have f346 := Safe.wr W344 f343 CH337 f339
            have f347 := f340.other W344 (Or.inl ne_b332_b337)
            have f348 := f341.other W344 (Or.inl ne_b332_b337)
            have f349 := Safe.wr W344 f343 CH337 f343
            have f350 : Arv Z h344 b337 k337 .char (4 : Int32) [(.int (nar .char r1)),(.int 0),(.int 0),(.int 0)] (.int 0) := Arv.set Ar344 q344 S344 M344 Hs344 G344 (fits_nar_char _) W344 0 rfl (Nat.le_of_ble_eq_true rfl)
            have cr344 := CHr.wr W344 f343 CH337
            have CR344 := CR337.trans cr344
            have CH344 := cr344.1
            have hk344 := Nat.le_trans hk337 cr344.2.1
            have K344 := Keep.wr K337 W344 (Or.inr sz_b337)
            have Z344 := Nat.le_trans Z0 K344.1
            have N344 := Fr.snoc X344 N7 g_b337
            refine gv T344 215 #[sI p0,sI p1,sI p2,sI p3,sI p4,sI r1,sI r2,sI r3,sI r4,sI r5,sI r6,sI r7,sI nn,sU,sU,sU] [(.ref b337),(.ref b332),(.ref b332)] (fun t k => st344 _ k) ?_
            refine gv T344 216 #[sI p0,sI p1,sI p2,sI p3,sI p4,sI r1,sI r2,sI r3,sI r4,sI r5,sI r6,sI r7,sI nn,sU,sU,sU] [(.ref b337),(.ref b337),(.ref b332),(.ref b332)] (fun t k => XS.dup X344.here hx rfl (hb hby at_215) rfl rfl k) ?_
            refine gv T344 217 #[sI p0,sI p1,sI p2,sI p3,sI p4,sI r1,sI r2,sI r3,sI r4,sI r5,sI r6,sI r7,sI nn,sU,sU,sU] [(.int 1),(.ref b337),(.ref b337),(.ref b332),(.ref b332)] (fun t k => XS.iconst X344.here hx rfl (hb hby at_216) k) ?_
            refine gv T344 219 #[sI p0,sI p1,sI p2,sI p3,sI p4,sI r1,sI r2,sI r3,sI r4,sI r5,sI r6,sI r7,sI nn,sU,sU,sU] [(.int r2),(.int 1),(.ref b337),(.ref b337),(.ref b332),(.ref b332)] (fun t k => XS.iload X344.here hx rfl (hb hby at_217) rfl k) ?_
            obtain ⟨cl351,Ar351,q351,S351,M351,Hs351,G351⟩ := id f350
            have hin351 : ¬ ((1 : Int32) < 0 ∨ cl351.slots.size ≤ ((1 : Int32)).toNatClampNeg) := inb_of S351 ⟨by decide,by decide⟩
            obtain ⟨T351,h351,X351,e351,W351,st351⟩ := stC X344 hx hZ e344 Ar351 (j := (1 : Int32)) hin351 (g := (mkF m 219 #[sI p0,sI p1,sI p2,sI p3,sI p4,sI r1,sI r2,sI r3,sI r4,sI r5,sI r6,sI r7,sI nn,sU,sU,sU] [(.int r2),(.int 1),(.ref b337),(.ref b337),(.ref b332),(.ref b332)])) rfl rfl (hb hby at_219)
            have f352 := f345.wr W351
            have f353 := Safe.wr W351 f349 CH344 f346
            have f354 := f347.other W351 (Or.inl ne_b332_b337)
            have f355 := f348.other W351 (Or.inl ne_b332_b337)
            have f356 := Safe.wr W351 f349 CH344 f349
            have f357 : Arv Z h351 b337 k337 .char (4 : Int32) [(.int (nar .char r1)),(.int (nar .char r2)),(.int 0),(.int 0)] (.int 0) := Arv.set Ar351 q351 S351 M351 Hs351 G351 (fits_nar_char _) W351 1 rfl (Nat.le_of_ble_eq_true rfl)
            have cr351 := CHr.wr W351 f349 CH344
            have CR351 := CR344.trans cr351
            have CH351 := cr351.1
            have hk351 := Nat.le_trans hk344 cr351.2.1
            have K351 := Keep.wr K344 W351 (Or.inr sz_b337)
            have Z351 := Nat.le_trans Z0 K351.1
            have N351 := Fr.snoc X351 N344 g_b337
            refine gv T351 220 #[sI p0,sI p1,sI p2,sI p3,sI p4,sI r1,sI r2,sI r3,sI r4,sI r5,sI r6,sI r7,sI nn,sU,sU,sU] [(.ref b337),(.ref b332),(.ref b332)] (fun t k => st351 _ k) ?_
            refine gv T351 221 #[sI p0,sI p1,sI p2,sI p3,sI p4,sI r1,sI r2,sI r3,sI r4,sI r5,sI r6,sI r7,sI nn,sU,sU,sU] [(.ref b337),(.ref b337),(.ref b332),(.ref b332)] (fun t k => XS.dup X351.here hx rfl (hb hby at_220) rfl rfl k) ?_
            refine gv T351 222 #[sI p0,sI p1,sI p2,sI p3,sI p4,sI r1,sI r2,sI r3,sI r4,sI r5,sI r6,sI r7,sI nn,sU,sU,sU] [(.int 2),(.ref b337),(.ref b337),(.ref b332),(.ref b332)] (fun t k => XS.iconst X351.here hx rfl (hb hby at_221) k) ?_
            refine gv T351 224 #[sI p0,sI p1,sI p2,sI p3,sI p4,sI r1,sI r2,sI r3,sI r4,sI r5,sI r6,sI r7,sI nn,sU,sU,sU] [(.int r3),(.int 2),(.ref b337),(.ref b337),(.ref b332),(.ref b332)] (fun t k => XS.iload X351.here hx rfl (hb hby at_222) rfl k) ?_
            obtain ⟨cl358,Ar358,q358,S358,M358,Hs358,G358⟩ := id f357
            have hin358 : ¬ ((2 : Int32) < 0 ∨ cl358.slots.size ≤ ((2 : Int32)).toNatClampNeg) := inb_of S358 ⟨by decide,by decide⟩
            obtain ⟨T358,h358,X358,e358,W358,st358⟩ := stC X351 hx hZ e351 Ar358 (j := (2 : Int32)) hin358 (g := (mkF m 224 #[sI p0,sI p1,sI p2,sI p3,sI p4,sI r1,sI r2,sI r3,sI r4,sI r5,sI r6,sI r7,sI nn,sU,sU,sU] [(.int r3),(.int 2),(.ref b337),(.ref b337),(.ref b332),(.ref b332)])) rfl rfl (hb hby at_224)
            have f359 := f352.wr W358
            have f360 := Safe.wr W358 f356 CH351 f353
            have f361 := f354.other W358 (Or.inl ne_b332_b337)
            have f362 := f355.other W358 (Or.inl ne_b332_b337)
            have f363 := Safe.wr W358 f356 CH351 f356
            have f364 : Arv Z h358 b337 k337 .char (4 : Int32) [(.int (nar .char r1)),(.int (nar .char r2)),(.int (nar .char r3)),(.int 0)] (.int 0) := Arv.set Ar358 q358 S358 M358 Hs358 G358 (fits_nar_char _) W358 2 rfl (Nat.le_of_ble_eq_true rfl)
            have cr358 := CHr.wr W358 f356 CH351
            have CR358 := CR351.trans cr358
            have CH358 := cr358.1
            have hk358 := Nat.le_trans hk351 cr358.2.1
            have K358 := Keep.wr K351 W358 (Or.inr sz_b337)
            have Z358 := Nat.le_trans Z0 K358.1
            have N358 := Fr.snoc X358 N351 g_b337
            refine gv T358 225 #[sI p0,sI p1,sI p2,sI p3,sI p4,sI r1,sI r2,sI r3,sI r4,sI r5,sI r6,sI r7,sI nn,sU,sU,sU] [(.ref b337),(.ref b332),(.ref b332)] (fun t k => st358 _ k) ?_
            refine gv T358 226 #[sI p0,sI p1,sI p2,sI p3,sI p4,sI r1,sI r2,sI r3,sI r4,sI r5,sI r6,sI r7,sI nn,sU,sU,sU] [(.ref b337),(.ref b337),(.ref b332),(.ref b332)] (fun t k => XS.dup X358.here hx rfl (hb hby at_225) rfl rfl k) ?_
            refine gv T358 227 #[sI p0,sI p1,sI p2,sI p3,sI p4,sI r1,sI r2,sI r3,sI r4,sI r5,sI r6,sI r7,sI nn,sU,sU,sU] [(.int 3),(.ref b337),(.ref b337),(.ref b332),(.ref b332)] (fun t k => XS.iconst X358.here hx rfl (hb hby at_226) k) ?_
            refine gv T358 229 #[sI p0,sI p1,sI p2,sI p3,sI p4,sI r1,sI r2,sI r3,sI r4,sI r5,sI r6,sI r7,sI nn,sU,sU,sU] [(.int r4),(.int 3),(.ref b337),(.ref b337),(.ref b332),(.ref b332)] (fun t k => XS.iload X358.here hx rfl (hb hby at_227) rfl k) ?_
            obtain ⟨cl365,Ar365,q365,S365,M365,Hs365,G365⟩ := id f364
            have hin365 : ¬ ((3 : Int32) < 0 ∨ cl365.slots.size ≤ ((3 : Int32)).toNatClampNeg) := inb_of S365 ⟨by decide,by decide⟩
            obtain ⟨T365,h365,X365,e365,W365,st365⟩ := stC X358 hx hZ e358 Ar365 (j := (3 : Int32)) hin365 (g := (mkF m 229 #[sI p0,sI p1,sI p2,sI p3,sI p4,sI r1,sI r2,sI r3,sI r4,sI r5,sI r6,sI r7,sI nn,sU,sU,sU] [(.int r4),(.int 3),(.ref b337),(.ref b337),(.ref b332),(.ref b332)])) rfl rfl (hb hby at_229)
            have f366 := f359.wr W365
            have f367 := Safe.wr W365 f363 CH358 f360
            have f368 := f361.other W365 (Or.inl ne_b332_b337)
            have f369 := f362.other W365 (Or.inl ne_b332_b337)
            have f370 := Safe.wr W365 f363 CH358 f363
            have f371 : Arv Z h365 b337 k337 .char (4 : Int32) [(.int (nar .char r1)),(.int (nar .char r2)),(.int (nar .char r3)),(.int (nar .char r4))] (.int 0) := Arv.set Ar365 q365 S365 M365 Hs365 G365 (fits_nar_char _) W365 3 rfl (Nat.le_of_ble_eq_true rfl)
            have cr365 := CHr.wr W365 f363 CH358
            have CR365 := CR358.trans cr365
            have CH365 := cr365.1
            have hk365 := Nat.le_trans hk358 cr365.2.1
            have K365 := Keep.wr K358 W365 (Or.inr sz_b337)
            have Z365 := Nat.le_trans Z0 K365.1
            have N365 := Fr.snoc X365 N358 g_b337
            refine gv T365 230 #[sI p0,sI p1,sI p2,sI p3,sI p4,sI r1,sI r2,sI r3,sI r4,sI r5,sI r6,sI r7,sI nn,sU,sU,sU] [(.ref b337),(.ref b332),(.ref b332)] (fun t k => st365 _ k) ?_
            obtain ⟨_,_,⟨T372,L372,k372,n372⟩,-,X372,⟨Lc372,hQ372,l372,y372,z372⟩,st372⟩ := X365.specialBack hx (y := (⟨"java/lang/String","<init>","([C)V"⟩ : MethodName)) rfl hown (mvT hZ (w_ hw 52 rfl)) (mvT hZ (w_ hw 53 rfl)) (mvT hZ (w_ hw 54 rfl)) (by decide) (backOf (W := 1) (rm104 l Z a0 hw [] b332 b337 k337 wc (.int 0) .null (nar .char r1) (nar .char r2) (nar .char r3) (nar .char r4) h365 n0 Z365 f366 f369 f368 f371 (own_staKeep f0_COMPACT_STRINGS K365 all0) ne_b332_b337 g_b332 (own_ncR hr1) (own_ncR hr2) (own_ncR hr3) (own_ncR hr4) hwc) hZ (w_ hw 54 rfl) (w_ hw 8 rfl) (by decide) (by decide)) (g := (mkF m 230 #[sI p0,sI p1,sI p2,sI p3,sI p4,sI r1,sI r2,sI r3,sI r4,sI r5,sI r6,sI r7,sI nn,sU,sU,sU] [(.ref b337),(.ref b332),(.ref b332)])) rfl (by rw [hml]; rfl) (Steps.refl _) (a := b332) (argsL := [(.ref b337)]) (rest := [(.ref b332)]) (lenOf pd_20 rfl) rfl (own_rm rfl) (hb hby at_230) (fun _ _ => ⟨rfl,e365,(by decide : 16 + 1 ≤ _),(by decide : 176 + 4 ≤ _)⟩)
            dsimp only [Pt.U, Pt.locs, Pt.cells, Pt.slots] at X372 l372 y372 z372 st372 hQ372
            replace X372 := own_cast X372 l372 y372 z372
            obtain ⟨yb_372,kb_372,rfl,N372q,K372q,po372_0,po372_1,po372_2,po372_3,px372_g_yb,px372_sz_yb⟩ := hQ372
            have N372 := Fr.app N365 N372q
            have f373 := f366.keep K372q
            have f374 := Safe.keep K372q (allS f367 all0) CH365 f367
            have f375 := Safe.keep K372q (allS f367 all0) CH365 f370
            have f376 := f371.keep K372q (ninS (Ne.symm ne_b332_b337) nin0)
            have cr372 := CHr.keep K372q (allS f367 all0) CH365
            have CR372 := CR365.trans cr372
            have CH372 := cr372.1
            have hk372 := Nat.le_trans hk365 cr372.2.1
            have K372 := Keep.trans K365 K372q (allS (Or.inr sz_b332) all0)
            have Z372 := Nat.le_trans Z0 K372.1
            have g_yb_372 := px372_g_yb
            have sz_yb_372 : h0.size ≤ yb_372 := Nat.le_trans (K365).1 px372_sz_yb
            have ne_b332_yb_372 : b332 ≠ yb_372 := Nat.ne_of_lt (Nat.lt_of_lt_of_le f366.lt px372_sz_yb)
            have ne_b337_yb_372 : b337 ≠ yb_372 := Nat.ne_of_lt (Nat.lt_of_lt_of_le f371.lt px372_sz_yb)
            refine gv T372 233 #[sI p0,sI p1,sI p2,sI p3,sI p4,sI r1,sI r2,sI r3,sI r4,sI r5,sI r6,sI r7,sI nn,sU,sU,sU] [(.ref b332)] (fun t k => st372.trans k) ?_
            refine gv T372 235 #[sI p0,sI p1,sI p2,sI p3,sI p4,sI r1,sI r2,sI r3,sI r4,sI r5,sI r6,sI r7,sI nn,sR b332,sU,sU] [] (fun t k => XS.astore X372.here hx rfl (hb hby at_233) rfl rfl (l' := #[sI p0,sI p1,sI p2,sI p3,sI p4,sI r1,sI r2,sI r3,sI r4,sI r5,sI r6,sI r7,sI nn,sR b332,sU,sU]) rfl k) ?_
            refine gv T372 386 #[sI p0,sI p1,sI p2,sI p3,sI p4,sI r1,sI r2,sI r3,sI r4,sI r5,sI r6,sI r7,sI nn,sR b332,sU,sU] [] (fun t k => XS.goto X372.here hx rfl (pc0 := 235) (pc' := 386) rfl (hb hby at_235) (by decide) (by decide) k) ?_
            refine gv T372 388 #[sI p0,sI p1,sI p2,sI p3,sI p4,sI r1,sI r2,sI r3,sI r4,sI r5,sI r6,sI r7,sI nn,sR b332,sU,sU] [(.ref b332)] (fun t k => XS.aload X372.here hx rfl (hb hby at_386) rfl rfl k) ?_
            obtain ⟨b377,T377,h377,kz377,d377,k377,X377,e377,E377,hS377,hk377,hZ,hown,A377,C377,V377,R377,lta377,ltb377,cr377,Lt377,Nn377,st377⟩ := ldcCH X372 hx hZ hown (w_ hw 7 rfl) (own_wS hw) rfl hS7 hk372 (own_EW hw) (own_mem (by decide)) CH372 (vs := [(.int 100),(.int 97),(.int 121)]) (z := (3 : Int32)) ⟨by decide,rfl⟩ (by decide) rfl (g := (mkF m 388 #[sI p0,sI p1,sI p2,sI p3,sI p4,sI r1,sI r2,sI r3,sI r4,sI r5,sI r6,sI r7,sI nn,sR b332,sU,sU] [(.ref b332)])) rfl (hb hby at_388) (n := 12) (by decide) (by decide) (by decide) (by decide)
            have f378 := po372_0.ext E377
            have f379 := f376.ext E377
            have f380 := po372_1.ext E377
            have f381 := po372_2.ext E377
            have f382 := po372_3.ext E377
            have CR377 := CR372.trans cr377
            have CH377 := cr377.1
            have f383 := CHr.safe cr377 po372_0.lt f374
            have f384 := CHr.safe cr377 f376.lt f375
            have K377 := Keep.ext K372 E377
            have Z377 := Nat.le_trans Z0 K377.1
            have f385 : Exa Z h377 b377 "java/lang/String" := A377
            have f386 : Fld Z h377 b377 "java/lang/String" "coder" "B" (.int 0) := C377
            have f387 : Fld Z h377 b377 "java/lang/String" "value" "[B" (.ref d377) := V377
            have f388 : Arv Z h377 d377 k377 .byte (3 : Int32) [(.int 100),(.int 97),(.int 121)] (.int 0) := R377
            refine gv T377 390 #[sI p0,sI p1,sI p2,sI p3,sI p4,sI r1,sI r2,sI r3,sI r4,sI r5,sI r6,sI r7,sI nn,sR b332,sU,sU] [(.ref b377),(.ref b332)] (fun t k => st377 _ k) ?_
            obtain ⟨cq389,kq389,q389a,q389b,q389c⟩ := isOf hZ e377 f378
            obtain ⟨_,_,⟨T389,L389,k389,n389⟩,-,X389,⟨Lc389,hQ389,l389,y389,z389⟩,st389⟩ := X377.virtualBack hx (y := (⟨"java/lang/String","equals","(Ljava/lang/Object;)Z"⟩ : MethodName)) (z := (⟨"java/lang/String","equals","(Ljava/lang/Object;)Z"⟩ : MethodName)) hown (mvT hZ (w_ hw 72 rfl)) (mvT hZ (w_ hw 73 rfl)) (notFace_of_selects (args := #[]) (mvT hZ (w_ hw 75 rfl))) (mvT hZ (w_ hw 75 rfl)) (mvT hZ (w_ hw 74 rfl)) (by decide) (backOf (W := 0) (rm16x l Z a0 hw [] b332 b377 yb_372 d377 kb_372 k377 (4 : Int32) (3 : Int32) ([(.int (bN r1)),(.int (bN r2)),(.int (bN r3)),(.int (bN r4))] : List Value) ([(.int 100),(.int 97),(.int 121)] : List Value) wc h377 n0 Z377 f378 f380 f381 f382 f385 f386 f387 f388 (own_staKeep f0_COMPACT_STRINGS K377 all0) (Nn377 _ f383).1 (by decide) hwc) hZ (w_ hw 76 rfl) (w_ hw 8 rfl) (by decide) (by decide)) q389a q389c (g := (mkF m 390 #[sI p0,sI p1,sI p2,sI p3,sI p4,sI r1,sI r2,sI r3,sI r4,sI r5,sI r6,sI r7,sI nn,sR b332,sU,sU] [(.ref b377),(.ref b332)])) rfl (by rw [hml]; rfl) (Steps.refl _) (argsL := [(.ref b377)]) (rest := []) (lenOf pd_16 rfl) rfl (own_rm rfl) (hb hby at_390) (fun _ _ => ⟨rfl,e377,(by decide : 19 + 0 ≤ _),(by decide : 196 + 0 ≤ _)⟩)
            dsimp only [Pt.U, Pt.locs, Pt.cells, Pt.slots] at X389 l389 y389 z389 st389 hQ389
            replace X389 := own_cast X389 l389 y389 z389
            obtain ⟨rfl,N389q,eq389⟩ := hQ389
            have N389 := Fr.app N372 N389q
            refine gv T389 393 #[sI p0,sI p1,sI p2,sI p3,sI p4,sI r1,sI r2,sI r3,sI r4,sI r5,sI r6,sI r7,sI nn,sR b332,sU,sU] [(.int 0)] (fun t k => st389.trans k) ?_
            refine gv T389 404 #[sI p0,sI p1,sI p2,sI p3,sI p4,sI r1,sI r2,sI r3,sI r4,sI r5,sI r6,sI r7,sI nn,sR b332,sU,sU] [] (fun t k => XS.ifYes X389.here hx rfl (pc0 := 393) (pc' := 404) rfl (hb hby at_393) rfl ((if0 _ _).trans (teq rfl).1) (by decide) (by decide) k) ?_
            refine gv T389 406 #[sI p0,sI p1,sI p2,sI p3,sI p4,sI r1,sI r2,sI r3,sI r4,sI r5,sI r6,sI r7,sI nn,sR b332,sU,sU] [(.ref b332)] (fun t k => XS.aload X389.here hx rfl (hb hby at_404) rfl rfl k) ?_
            obtain ⟨b390,T390,h390,kz390,d390,k390,X390,e390,E390,hS390,hk390,hZ,hown,A390,C390,V390,R390,lta390,ltb390,cr390,Lt390,Nn390,st390⟩ := ldcCH X389 hx hZ hown (w_ hw 130 rfl) (own_wS hw) eq389 hS377 hk377 (own_EW hw) (own_mem (by decide)) CH377 (vs := [(.int 109),(.int 111),(.int 110),(.int 116),(.int 104)]) (z := (5 : Int32)) ⟨by decide,rfl⟩ (by decide) rfl (g := (mkF m 406 #[sI p0,sI p1,sI p2,sI p3,sI p4,sI r1,sI r2,sI r3,sI r4,sI r5,sI r6,sI r7,sI nn,sR b332,sU,sU] [(.ref b332)])) rfl (hb hby at_406) (n := 20) (by decide) (by decide) (by decide) (by decide)
            have f391 := f378.ext E390
            have f392 := f379.ext E390
            have f393 := f380.ext E390
            have f394 := f381.ext E390
            have f395 := f382.ext E390
            have f396 := f385.ext E390
            have f397 := f386.ext E390
            have f398 := f387.ext E390
            have f399 := f388.ext E390
            have CR390 := CR377.trans cr390
            have CH390 := cr390.1
            have f400 := CHr.safe cr390 f378.lt f383
            have f401 := CHr.safe cr390 f379.lt f384
            have K390 := Keep.ext K377 E390
            have Z390 := Nat.le_trans Z0 K390.1
            have f402 : Exa Z h390 b390 "java/lang/String" := A390
            have f403 : Fld Z h390 b390 "java/lang/String" "coder" "B" (.int 0) := C390
            have f404 : Fld Z h390 b390 "java/lang/String" "value" "[B" (.ref d390) := V390
            have f405 : Arv Z h390 d390 k390 .byte (5 : Int32) [(.int 109),(.int 111),(.int 110),(.int 116),(.int 104)] (.int 0) := R390
            refine gv T390 408 #[sI p0,sI p1,sI p2,sI p3,sI p4,sI r1,sI r2,sI r3,sI r4,sI r5,sI r6,sI r7,sI nn,sR b332,sU,sU] [(.ref b390),(.ref b332)] (fun t k => st390 _ k) ?_
            obtain ⟨cq406,kq406,q406a,q406b,q406c⟩ := isOf hZ e390 f391
            obtain ⟨_,_,⟨T406,L406,k406,n406⟩,-,X406,⟨Lc406,hQ406,l406,y406,z406⟩,st406⟩ := X390.virtualBack hx (y := (⟨"java/lang/String","equals","(Ljava/lang/Object;)Z"⟩ : MethodName)) (z := (⟨"java/lang/String","equals","(Ljava/lang/Object;)Z"⟩ : MethodName)) hown (mvT hZ (w_ hw 72 rfl)) (mvT hZ (w_ hw 73 rfl)) (notFace_of_selects (args := #[]) (mvT hZ (w_ hw 75 rfl))) (mvT hZ (w_ hw 75 rfl)) (mvT hZ (w_ hw 74 rfl)) (by decide) (backOf (W := 0) (rm16x l Z a0 hw [] b332 b390 yb_372 d390 kb_372 k390 (4 : Int32) (5 : Int32) ([(.int (bN r1)),(.int (bN r2)),(.int (bN r3)),(.int (bN r4))] : List Value) ([(.int 109),(.int 111),(.int 110),(.int 116),(.int 104)] : List Value) wc h390 n0 Z390 f391 f393 f394 f395 f402 f403 f404 f405 (own_staKeep f0_COMPACT_STRINGS K390 all0) (Nn390 _ f400).1 (by decide) hwc) hZ (w_ hw 76 rfl) (w_ hw 8 rfl) (by decide) (by decide)) q406a q406c (g := (mkF m 408 #[sI p0,sI p1,sI p2,sI p3,sI p4,sI r1,sI r2,sI r3,sI r4,sI r5,sI r6,sI r7,sI nn,sR b332,sU,sU] [(.ref b390),(.ref b332)])) rfl (by rw [hml]; rfl) (Steps.refl _) (argsL := [(.ref b390)]) (rest := []) (lenOf pd_16 rfl) rfl (own_rm rfl) (hb hby at_408) (fun _ _ => ⟨rfl,e390,(by decide : 21 + 0 ≤ _),(by decide : 220 + 0 ≤ _)⟩)
            dsimp only [Pt.U, Pt.locs, Pt.cells, Pt.slots] at X406 l406 y406 z406 st406 hQ406
            replace X406 := own_cast X406 l406 y406 z406
            obtain ⟨rfl,N406q,eq406⟩ := hQ406
            have N406 := Fr.app N389 N406q
            refine gv T406 411 #[sI p0,sI p1,sI p2,sI p3,sI p4,sI r1,sI r2,sI r3,sI r4,sI r5,sI r6,sI r7,sI nn,sR b332,sU,sU] [(.int 0)] (fun t k => st406.trans k) ?_
            refine gv T406 422 #[sI p0,sI p1,sI p2,sI p3,sI p4,sI r1,sI r2,sI r3,sI r4,sI r5,sI r6,sI r7,sI nn,sR b332,sU,sU] [] (fun t k => XS.ifYes X406.here hx rfl (pc0 := 411) (pc' := 422) rfl (hb hby at_411) rfl ((if0 _ _).trans (teq rfl).1) (by decide) (by decide) k) ?_
            refine gv T406 423 #[sI p0,sI p1,sI p2,sI p3,sI p4,sI r1,sI r2,sI r3,sI r4,sI r5,sI r6,sI r7,sI nn,sR b332,sU,sU] [.null] (fun t k => XS.aconstNull X406.here hx rfl (hb hby at_422) k) ?_
            refine gv T406 425 #[sI p0,sI p1,sI p2,sI p3,sI p4,sI r1,sI r2,sI r3,sI r4,sI r5,sI r6,sI r7,sI nn,sR b332,.val .null,sU] [] (fun t k => XS.astore X406.here hx rfl (hb hby at_423) rfl rfl (l' := #[sI p0,sI p1,sI p2,sI p3,sI p4,sI r1,sI r2,sI r3,sI r4,sI r5,sI r6,sI r7,sI nn,sR b332,.val .null,sU]) rfl k) ?_
            refine gv T406 427 #[sI p0,sI p1,sI p2,sI p3,sI p4,sI r1,sI r2,sI r3,sI r4,sI r5,sI r6,sI r7,sI nn,sR b332,.val .null,sU] [(.ref b332)] (fun t k => XS.aload X406.here hx rfl (hb hby at_425) rfl rfl k) ?_
            obtain ⟨_,_,⟨T407,L407,k407,n407⟩,-,X407,⟨Lc407,hQ407,l407,y407,z407⟩,st407⟩ := Jvm.LawKit.callS X406 hx (y := (⟨"com/example/tallyman/tallyman/ledger/Period","named","(Ljava/lang/String;)Ljava/util/Optional;"⟩ : MethodName)) hown (mvT hZ (w_ hw 84 rfl)) (mvT hZ (w_ hw 85 rfl)) (mvT hZ (w_ hw 82 rfl)) (mvT hZ (w_ hw 86 rfl)) (by decide) (backOf (W := 0) (rm18x l Z a0 hw [] b332 yV kV dd mm td bd kd tm bm km oe wc yb_372 kb_372 (4 : Int32) ([(.int (bN r1)),(.int (bN r2)),(.int (bN r3)),(.int (bN r4))] : List Value) h390 n0 Z390 (own_staKeep f4__VALUES K390 all0) (f5_yV.keep K390 nin0) (f6_yV.keep K390) (f9_dd_text.keep K390 nin0) (f10_td.keep K390) (f11_td_coder.keep K390 nin0) (f12_td_value.keep K390 nin0) (f13_bd.keep K390 nin0) (f14_mm_text.keep K390 nin0) (f15_tm.keep K390) (f16_tm_coder.keep K390 nin0) (f17_tm_value.keep K390 nin0) (f18_bm.keep K390 nin0) (own_staKeep f19_EMPTY K390 all0) (own_staKeep f0_COMPACT_STRINGS K390 all0) f391 f393 f394 f395 (Nat.ne_of_lt (Nat.lt_of_lt_of_le f10_td.lt sz_b332)) (Nat.ne_of_lt (Nat.lt_of_lt_of_le f15_tm.lt sz_b332)) hwc (by decide) (by decide)) hZ (w_ hw 86 rfl) (w_ hw 82 rfl) (by decide) (by decide)) (g := (mkF m 427 #[sI p0,sI p1,sI p2,sI p3,sI p4,sI r1,sI r2,sI r3,sI r4,sI r5,sI r6,sI r7,sI nn,sR b332,.val .null,sU] [(.ref b332)])) rfl (by rw [hml]; rfl) (argsL := [(.ref b332)]) (rest := []) (lenOf pd_21 rfl) rfl (own_rm rfl) (hb hby at_427) (fun _ _ => ⟨rfl,eq406,(by decide : 21 + 1 ≤ _),(by decide : 220 + 2 ≤ _)⟩)
            dsimp only [Pt.U, Pt.locs, Pt.cells, Pt.slots] at X407 l407 y407 z407 st407 hQ407
            replace X407 := own_cast X407 l407 y407 z407
            obtain ⟨rfl,N407q,K407q⟩ := hQ407
            have N407 := Fr.app N406 N407q
            have f408 := f391.keep K407q
            have f409 := f392.keep K407q nin0
            have f410 := f393.keep K407q nin0
            have f411 := f394.keep K407q nin0
            have f412 := f395.keep K407q nin0
            have f413 := f396.keep K407q
            have f414 := f397.keep K407q nin0
            have f415 := f398.keep K407q nin0
            have f416 := f399.keep K407q nin0
            have f417 := Safe.keep K407q all0 CH390 f400
            have f418 := Safe.keep K407q all0 CH390 f401
            have f419 := f402.keep K407q
            have f420 := f403.keep K407q nin0
            have f421 := f404.keep K407q nin0
            have f422 := f405.keep K407q nin0
            have cr407 := CHr.keep K407q all0 CH390
            have CR407 := CR390.trans cr407
            have CH407 := cr407.1
            have hk407 := Nat.le_trans hk390 cr407.2.1
            have K407 := Keep.trans K390 K407q all0
            have Z407 := Nat.le_trans Z0 K407.1
            refine gv T407 430 #[sI p0,sI p1,sI p2,sI p3,sI p4,sI r1,sI r2,sI r3,sI r4,sI r5,sI r6,sI r7,sI nn,sR b332,.val .null,sU] [(.ref oe)] (fun t k => st407 _ k) ?_
            refine gv T407 431 #[sI p0,sI p1,sI p2,sI p3,sI p4,sI r1,sI r2,sI r3,sI r4,sI r5,sI r6,sI r7,sI nn,sR b332,.val .null,sU] [.null,(.ref oe)] (fun t k => XS.aconstNull X407.here hx rfl (hb hby at_430) k) ?_
            obtain ⟨cq423,kq423,q423a,q423b,q423c⟩ := isOf hZ rfl (f20_oe.keep K407)
            obtain ⟨_,_,⟨T423,L423,k423,n423⟩,-,X423,⟨Lc423,hQ423,l423,y423,z423⟩,st423⟩ := X407.virtualBack hx (y := (⟨"java/util/Optional","orElse","(Ljava/lang/Object;)Ljava/lang/Object;"⟩ : MethodName)) (z := (⟨"java/util/Optional","orElse","(Ljava/lang/Object;)Ljava/lang/Object;"⟩ : MethodName)) hown (mvT hZ (w_ hw 123 rfl)) (mvT hZ (w_ hw 124 rfl)) (notFace_of_selects (args := #[]) (mvT hZ (w_ hw 126 rfl))) (mvT hZ (w_ hw 126 rfl)) (mvT hZ (w_ hw 125 rfl)) (by decide) (backOf (W := 0) (rm23n l Z a0 hw [] oe T407.heap n0 Z407 (f21_oe_value.keep K407 nin0)) hZ (w_ hw 127 rfl) (w_ hw 108 rfl) (by decide) (by decide)) q423a q423c (g := (mkF m 431 #[sI p0,sI p1,sI p2,sI p3,sI p4,sI r1,sI r2,sI r3,sI r4,sI r5,sI r6,sI r7,sI nn,sR b332,.val .null,sU] [.null,(.ref oe)])) rfl (by rw [hml]; rfl) (Steps.refl _) (argsL := [.null]) (rest := []) (lenOf pd_13 rfl) rfl (own_rm rfl) (hb hby at_431) (fun _ _ => ⟨rfl,rfl,(by decide : 22 + 0 ≤ _),(by decide : 222 + 0 ≤ _)⟩)
            dsimp only [Pt.U, Pt.locs, Pt.cells, Pt.slots] at X423 l423 y423 z423 st423 hQ423
            replace X423 := own_cast X423 l423 y423 z423
            obtain ⟨rfl,N423q,eq423⟩ := hQ423
            have N423 := Fr.app N407 N423q
            refine gv T423 434 #[sI p0,sI p1,sI p2,sI p3,sI p4,sI r1,sI r2,sI r3,sI r4,sI r5,sI r6,sI r7,sI nn,sR b332,.val .null,sU] [.null] (fun t k => st423.trans k) ?_
            refine gv T423 437 #[sI p0,sI p1,sI p2,sI p3,sI p4,sI r1,sI r2,sI r3,sI r4,sI r5,sI r6,sI r7,sI nn,sR b332,.val .null,sU] [.null] (fun t k => X423.checkcastNull hx (g := (mkF m 434 #[sI p0,sI p1,sI p2,sI p3,sI p4,sI r1,sI r2,sI r3,sI r4,sI r5,sI r6,sI r7,sI nn,sR b332,.val .null,sU] [.null])) rfl rfl (hb hby at_434) _ k) ?_
            refine gv T423 439 #[sI p0,sI p1,sI p2,sI p3,sI p4,sI r1,sI r2,sI r3,sI r4,sI r5,sI r6,sI r7,sI nn,sR b332,.val .null,.val .null] [] (fun t k => XS.astore X423.here hx rfl (hb hby at_437) rfl rfl (l' := #[sI p0,sI p1,sI p2,sI p3,sI p4,sI r1,sI r2,sI r3,sI r4,sI r5,sI r6,sI r7,sI nn,sR b332,.val .null,.val .null]) rfl k) ?_
            refine gv T423 441 #[sI p0,sI p1,sI p2,sI p3,sI p4,sI r1,sI r2,sI r3,sI r4,sI r5,sI r6,sI r7,sI nn,sR b332,.val .null,.val .null] [.null] (fun t k => XS.aload X423.here hx rfl (hb hby at_439) rfl rfl k) ?_
            refine gv T423 443 #[sI p0,sI p1,sI p2,sI p3,sI p4,sI r1,sI r2,sI r3,sI r4,sI r5,sI r6,sI r7,sI nn,sR b332,.val .null,.val .null] [.null,.null] (fun t k => XS.aload X423.here hx rfl (hb hby at_441) rfl rfl k) ?_
            refine gv T423 446 #[sI p0,sI p1,sI p2,sI p3,sI p4,sI r1,sI r2,sI r3,sI r4,sI r5,sI r6,sI r7,sI nn,sR b332,.val .null,.val .null] [] (fun t k => Jvm.RoadKit.acmp (g := (mkF m 443 #[sI p0,sI p1,sI p2,sI p3,sI p4,sI r1,sI r2,sI r3,sI r4,sI r5,sI r6,sI r7,sI nn,sR b332,.val .null,.val .null] [.null,.null])) X423 hx rfl rfl rfl (pc0 := 443) (pc' := 446) (same := true) rfl (hb hby at_443) rfl (decide_eq_true rfl) (by decide) (by decide) k) ?_
            refine gv T423 447 #[sI p0,sI p1,sI p2,sI p3,sI p4,sI r1,sI r2,sI r3,sI r4,sI r5,sI r6,sI r7,sI nn,sR b332,.val .null,.val .null] [(.int 1)] (fun t k => XS.iconst X423.here hx rfl (hb hby at_446) k) ?_
            refine gv T423 451 #[sI p0,sI p1,sI p2,sI p3,sI p4,sI r1,sI r2,sI r3,sI r4,sI r5,sI r6,sI r7,sI nn,sR b332,.val .null,.val .null] [(.int 1)] (fun t k => XS.goto X423.here hx rfl (pc0 := 447) (pc' := 451) rfl (hb hby at_447) (by decide) (by decide) k) ?_
            exact own_retW X423 hx Bd.notSynchronized Bd.returns rfl (Or.inl ⟨rfl,by simp,_,rfl⟩) (hb hby at_451) eq423 hS390 hk407 hZ (own_EW hw) CR407 hh ⟨rfl,N423⟩ (by decide) (by decide)
          · refine gv T7 238 #[sI p0,sI p1,sI p2,sI p3,sI p4,sI r1,sI r2,sI r3,sI r4,sI r5,sI r6,sI r7,sI nn,sU,sU,sU] [] (fun t k => XS.icmpYes X7.here hx rfl (pc0 := 200) (pc' := 238) rfl (hb hby at_200) rfl (feq hc331).2 (by decide) (by decide) k) ?_
            refine gv T7 240 #[sI p0,sI p1,sI p2,sI p3,sI p4,sI r1,sI r2,sI r3,sI r4,sI r5,sI r6,sI r7,sI nn,sU,sU,sU] [(.int nn)] (fun t k => XS.iload X7.here hx rfl (hb hby at_238) rfl k) ?_
            refine gv T7 241 #[sI p0,sI p1,sI p2,sI p3,sI p4,sI r1,sI r2,sI r3,sI r4,sI r5,sI r6,sI r7,sI nn,sU,sU,sU] [(.int 5),(.int nn)] (fun t k => XS.iconst X7.here hx rfl (hb hby at_240) k) ?_
            by_cases hc425 : (nn = (5 : Int32))
            · refine gv T7 244 #[sI p0,sI p1,sI p2,sI p3,sI p4,sI r1,sI r2,sI r3,sI r4,sI r5,sI r6,sI r7,sI nn,sU,sU,sU] [] (fun t k => XS.icmpNo X7.here hx rfl (hb hby at_241) rfl (teq hc425).2 k) ?_
              obtain ⟨T426,h426,X426,e426,E426,A426,D426,-,st426⟩ := newO X7 hx hZ hown (w_ hw 50 rfl) (w_ hw 9 rfl) (w_ hw 8 rfl) rfl (g := (mkF m 244 #[sI p0,sI p1,sI p2,sI p3,sI p4,sI r1,sI r2,sI r3,sI r4,sI r5,sI r6,sI r7,sI nn,sU,sU,sU] [])) rfl (hb hby at_244) (by decide) (by decide)
              obtain ⟨b426,g426⟩ : ∃ z,z = T7.heap.size := ⟨_,rfl⟩
              rw [← g426] at A426 D426 st426
              have cr426 := CHr.ext E426 CH7
              have CR426 := CR7.trans cr426
              have CH426 := cr426.1
              have hk426 := Nat.le_trans hk7 cr426.2.1
              have K426 := Keep.ext K7 E426
              have Z426 := Nat.le_trans Z0 K426.1
              have g_b426 : n0 ≤ b426 := Nat.le_trans Z7 (Nat.le_of_eq g426.symm)
              have sz_b426 : h0.size ≤ b426 := Nat.le_trans (K7).1 (Nat.le_of_eq g426.symm)
              have f427 : Exa Z h426 b426 "java/lang/String" := A426
              have f428 := Safe.ext E426 CH7 (Safe.new (Nat.le_of_eq g426.symm))
              have f429 : Fld Z h426 b426 "java/lang/String" "value" "[B" .null := D426 (Or.inr (w_ hw 11 rfl)) (ty := (.array .byte)) (by decide)
              have f430 : Fld Z h426 b426 "java/lang/String" "coder" "B" (.int 0) := D426 (Or.inr (w_ hw 12 rfl)) (ty := .byte) (by decide)
              refine gv T426 247 #[sI p0,sI p1,sI p2,sI p3,sI p4,sI r1,sI r2,sI r3,sI r4,sI r5,sI r6,sI r7,sI nn,sU,sU,sU] [(.ref b426)] (fun t k => st426 _ k) ?_
              refine gv T426 248 #[sI p0,sI p1,sI p2,sI p3,sI p4,sI r1,sI r2,sI r3,sI r4,sI r5,sI r6,sI r7,sI nn,sU,sU,sU] [(.ref b426),(.ref b426)] (fun t k => XS.dup X426.here hx rfl (hb hby at_247) rfl rfl k) ?_
              refine gv T426 249 #[sI p0,sI p1,sI p2,sI p3,sI p4,sI r1,sI r2,sI r3,sI r4,sI r5,sI r6,sI r7,sI nn,sU,sU,sU] [(.int 5),(.ref b426),(.ref b426)] (fun t k => XS.iconst X426.here hx rfl (hb hby at_248) k) ?_
              obtain ⟨T431,h431,k431,X431,e431,E431,A431,st431⟩ := newP X426 hx hZ (w_ hw 51 rfl) e426 (g := (mkF m 249 #[sI p0,sI p1,sI p2,sI p3,sI p4,sI r1,sI r2,sI r3,sI r4,sI r5,sI r6,sI r7,sI nn,sU,sU,sU] [(.int 5),(.ref b426),(.ref b426)])) rfl (hb hby at_249) rfl (by decide) (cap := 5) (by decide) (by decide) (by decide) (by decide)
              obtain ⟨b431,g431⟩ : ∃ z,z = h426.size := ⟨_,rfl⟩
              rw [← g431] at A431 st431
              have f432 := f427.ext E431
              have f433 := Safe.ext E431 CH426 f428
              have f434 := f429.ext E431
              have f435 := f430.ext E431
              have cr431 := CHr.ext E431 CH426
              have CR431 := CR426.trans cr431
              have CH431 := cr431.1
              have hk431 := Nat.le_trans hk426 cr431.2.1
              have K431 := Keep.ext K426 E431
              have Z431 := Nat.le_trans Z0 K431.1
              have g_b431 : n0 ≤ b431 := Nat.le_trans Z426 (Nat.le_of_eq g431.symm)
              have sz_b431 : h0.size ≤ b431 := Nat.le_trans (K426).1 (Nat.le_of_eq g431.symm)
              have ne_b426_b431 : b426 ≠ b431 := Nat.ne_of_lt (Nat.lt_of_lt_of_le f427.lt (Nat.le_of_eq g431.symm))
              have f436 : Arv Z h431 b431 k431 .char (5 : Int32) [(.int 0),(.int 0),(.int 0),(.int 0),(.int 0)] (.int 0) := (Arv.new A431 (by decide)).pad (pad_rep [] (.int 0) 5)
              have f437 := Safe.ext E431 CH426 (Safe.new (Nat.le_of_eq g431.symm))
              refine gv T431 251 #[sI p0,sI p1,sI p2,sI p3,sI p4,sI r1,sI r2,sI r3,sI r4,sI r5,sI r6,sI r7,sI nn,sU,sU,sU] [(.ref b431),(.ref b426),(.ref b426)] (fun t k => st431 _ k) ?_
              refine gv T431 252 #[sI p0,sI p1,sI p2,sI p3,sI p4,sI r1,sI r2,sI r3,sI r4,sI r5,sI r6,sI r7,sI nn,sU,sU,sU] [(.ref b431),(.ref b431),(.ref b426),(.ref b426)] (fun t k => XS.dup X431.here hx rfl (hb hby at_251) rfl rfl k) ?_
              refine gv T431 253 #[sI p0,sI p1,sI p2,sI p3,sI p4,sI r1,sI r2,sI r3,sI r4,sI r5,sI r6,sI r7,sI nn,sU,sU,sU] [(.int 0),(.ref b431),(.ref b431),(.ref b426),(.ref b426)] (fun t k => XS.iconst X431.here hx rfl (hb hby at_252) k) ?_
              refine gv T431 255 #[sI p0,sI p1,sI p2,sI p3,sI p4,sI r1,sI r2,sI r3,sI r4,sI r5,sI r6,sI r7,sI nn,sU,sU,sU] [(.int r1),(.int 0),(.ref b431),(.ref b431),(.ref b426),(.ref b426)] (fun t k => XS.iload X431.here hx rfl (hb hby at_253) rfl k) ?_
              obtain ⟨cl438,Ar438,q438,S438,M438,Hs438,G438⟩ := id f436
              have hin438 : ¬ ((0 : Int32) < 0 ∨ cl438.slots.size ≤ ((0 : Int32)).toNatClampNeg) := inb_of S438 ⟨by decide,by decide⟩
              obtain ⟨T438,h438,X438,e438,W438,st438⟩ := stC X431 hx hZ e431 Ar438 (j := (0 : Int32)) hin438 (g := (mkF m 255 #[sI p0,sI p1,sI p2,sI p3,sI p4,sI r1,sI r2,sI r3,sI r4,sI r5,sI r6,sI r7,sI nn,sU,sU,sU] [(.int r1),(.int 0),(.ref b431),(.ref b431),(.ref b426),(.ref b426)])) rfl rfl (hb hby at_255)
              have f439 := f432.wr W438
              have f440 := Safe.wr W438 f437 CH431 f433
              have f441 := f434.other W438 (Or.inl ne_b426_b431)
              have f442 := f435.other W438 (Or.inl ne_b426_b431)
              have f443 := Safe.wr W438 f437 CH431 f437
              have f444 : Arv Z h438 b431 k431 .char (5 : Int32) [(.int (nar .char r1)),(.int 0),(.int 0),(.int 0),(.int 0)] (.int 0) := Arv.set Ar438 q438 S438 M438 Hs438 G438 (fits_nar_char _) W438 0 rfl (Nat.le_of_ble_eq_true rfl)
              have cr438 := CHr.wr W438 f437 CH431
              have CR438 := CR431.trans cr438
              have CH438 := cr438.1
              have hk438 := Nat.le_trans hk431 cr438.2.1
              have K438 := Keep.wr K431 W438 (Or.inr sz_b431)
              have Z438 := Nat.le_trans Z0 K438.1
              have N438 := Fr.snoc X438 N7 g_b431
              refine gv T438 256 #[sI p0,sI p1,sI p2,sI p3,sI p4,sI r1,sI r2,sI r3,sI r4,sI r5,sI r6,sI r7,sI nn,sU,sU,sU] [(.ref b431),(.ref b426),(.ref b426)] (fun t k => st438 _ k) ?_
              refine gv T438 257 #[sI p0,sI p1,sI p2,sI p3,sI p4,sI r1,sI r2,sI r3,sI r4,sI r5,sI r6,sI r7,sI nn,sU,sU,sU] [(.ref b431),(.ref b431),(.ref b426),(.ref b426)] (fun t k => XS.dup X438.here hx rfl (hb hby at_256) rfl rfl k) ?_
              refine gv T438 258 #[sI p0,sI p1,sI p2,sI p3,sI p4,sI r1,sI r2,sI r3,sI r4,sI r5,sI r6,sI r7,sI nn,sU,sU,sU] [(.int 1),(.ref b431),(.ref b431),(.ref b426),(.ref b426)] (fun t k => XS.iconst X438.here hx rfl (hb hby at_257) k) ?_
              refine gv T438 260 #[sI p0,sI p1,sI p2,sI p3,sI p4,sI r1,sI r2,sI r3,sI r4,sI r5,sI r6,sI r7,sI nn,sU,sU,sU] [(.int r2),(.int 1),(.ref b431),(.ref b431),(.ref b426),(.ref b426)] (fun t k => XS.iload X438.here hx rfl (hb hby at_258) rfl k) ?_
              obtain ⟨cl445,Ar445,q445,S445,M445,Hs445,G445⟩ := id f444
              have hin445 : ¬ ((1 : Int32) < 0 ∨ cl445.slots.size ≤ ((1 : Int32)).toNatClampNeg) := inb_of S445 ⟨by decide,by decide⟩
              obtain ⟨T445,h445,X445,e445,W445,st445⟩ := stC X438 hx hZ e438 Ar445 (j := (1 : Int32)) hin445 (g := (mkF m 260 #[sI p0,sI p1,sI p2,sI p3,sI p4,sI r1,sI r2,sI r3,sI r4,sI r5,sI r6,sI r7,sI nn,sU,sU,sU] [(.int r2),(.int 1),(.ref b431),(.ref b431),(.ref b426),(.ref b426)])) rfl rfl (hb hby at_260)
              have f446 := f439.wr W445
              have f447 := Safe.wr W445 f443 CH438 f440
              have f448 := f441.other W445 (Or.inl ne_b426_b431)
              have f449 := f442.other W445 (Or.inl ne_b426_b431)
              have f450 := Safe.wr W445 f443 CH438 f443
              have f451 : Arv Z h445 b431 k431 .char (5 : Int32) [(.int (nar .char r1)),(.int (nar .char r2)),(.int 0),(.int 0),(.int 0)] (.int 0) := Arv.set Ar445 q445 S445 M445 Hs445 G445 (fits_nar_char _) W445 1 rfl (Nat.le_of_ble_eq_true rfl)
              have cr445 := CHr.wr W445 f443 CH438
              have CR445 := CR438.trans cr445
              have CH445 := cr445.1
              have hk445 := Nat.le_trans hk438 cr445.2.1
              have K445 := Keep.wr K438 W445 (Or.inr sz_b431)
              have Z445 := Nat.le_trans Z0 K445.1
              have N445 := Fr.snoc X445 N438 g_b431
              refine gv T445 261 #[sI p0,sI p1,sI p2,sI p3,sI p4,sI r1,sI r2,sI r3,sI r4,sI r5,sI r6,sI r7,sI nn,sU,sU,sU] [(.ref b431),(.ref b426),(.ref b426)] (fun t k => st445 _ k) ?_
              refine gv T445 262 #[sI p0,sI p1,sI p2,sI p3,sI p4,sI r1,sI r2,sI r3,sI r4,sI r5,sI r6,sI r7,sI nn,sU,sU,sU] [(.ref b431),(.ref b431),(.ref b426),(.ref b426)] (fun t k => XS.dup X445.here hx rfl (hb hby at_261) rfl rfl k) ?_
              refine gv T445 263 #[sI p0,sI p1,sI p2,sI p3,sI p4,sI r1,sI r2,sI r3,sI r4,sI r5,sI r6,sI r7,sI nn,sU,sU,sU] [(.int 2),(.ref b431),(.ref b431),(.ref b426),(.ref b426)] (fun t k => XS.iconst X445.here hx rfl (hb hby at_262) k) ?_
              refine gv T445 265 #[sI p0,sI p1,sI p2,sI p3,sI p4,sI r1,sI r2,sI r3,sI r4,sI r5,sI r6,sI r7,sI nn,sU,sU,sU] [(.int r3),(.int 2),(.ref b431),(.ref b431),(.ref b426),(.ref b426)] (fun t k => XS.iload X445.here hx rfl (hb hby at_263) rfl k) ?_
              obtain ⟨cl452,Ar452,q452,S452,M452,Hs452,G452⟩ := id f451
              have hin452 : ¬ ((2 : Int32) < 0 ∨ cl452.slots.size ≤ ((2 : Int32)).toNatClampNeg) := inb_of S452 ⟨by decide,by decide⟩
              obtain ⟨T452,h452,X452,e452,W452,st452⟩ := stC X445 hx hZ e445 Ar452 (j := (2 : Int32)) hin452 (g := (mkF m 265 #[sI p0,sI p1,sI p2,sI p3,sI p4,sI r1,sI r2,sI r3,sI r4,sI r5,sI r6,sI r7,sI nn,sU,sU,sU] [(.int r3),(.int 2),(.ref b431),(.ref b431),(.ref b426),(.ref b426)])) rfl rfl (hb hby at_265)
              have f453 := f446.wr W452
              have f454 := Safe.wr W452 f450 CH445 f447
              have f455 := f448.other W452 (Or.inl ne_b426_b431)
              have f456 := f449.other W452 (Or.inl ne_b426_b431)
              have f457 := Safe.wr W452 f450 CH445 f450
              have f458 : Arv Z h452 b431 k431 .char (5 : Int32) [(.int (nar .char r1)),(.int (nar .char r2)),(.int (nar .char r3)),(.int 0),(.int 0)] (.int 0) := Arv.set Ar452 q452 S452 M452 Hs452 G452 (fits_nar_char _) W452 2 rfl (Nat.le_of_ble_eq_true rfl)
              have cr452 := CHr.wr W452 f450 CH445
              have CR452 := CR445.trans cr452
              have CH452 := cr452.1
              have hk452 := Nat.le_trans hk445 cr452.2.1
              have K452 := Keep.wr K445 W452 (Or.inr sz_b431)
              have Z452 := Nat.le_trans Z0 K452.1
              have N452 := Fr.snoc X452 N445 g_b431
              refine gv T452 266 #[sI p0,sI p1,sI p2,sI p3,sI p4,sI r1,sI r2,sI r3,sI r4,sI r5,sI r6,sI r7,sI nn,sU,sU,sU] [(.ref b431),(.ref b426),(.ref b426)] (fun t k => st452 _ k) ?_
              refine gv T452 267 #[sI p0,sI p1,sI p2,sI p3,sI p4,sI r1,sI r2,sI r3,sI r4,sI r5,sI r6,sI r7,sI nn,sU,sU,sU] [(.ref b431),(.ref b431),(.ref b426),(.ref b426)] (fun t k => XS.dup X452.here hx rfl (hb hby at_266) rfl rfl k) ?_
              refine gv T452 268 #[sI p0,sI p1,sI p2,sI p3,sI p4,sI r1,sI r2,sI r3,sI r4,sI r5,sI r6,sI r7,sI nn,sU,sU,sU] [(.int 3),(.ref b431),(.ref b431),(.ref b426),(.ref b426)] (fun t k => XS.iconst X452.here hx rfl (hb hby at_267) k) ?_
              refine gv T452 270 #[sI p0,sI p1,sI p2,sI p3,sI p4,sI r1,sI r2,sI r3,sI r4,sI r5,sI r6,sI r7,sI nn,sU,sU,sU] [(.int r4),(.int 3),(.ref b431),(.ref b431),(.ref b426),(.ref b426)] (fun t k => XS.iload X452.here hx rfl (hb hby at_268) rfl k) ?_
              obtain ⟨cl459,Ar459,q459,S459,M459,Hs459,G459⟩ := id f458
              have hin459 : ¬ ((3 : Int32) < 0 ∨ cl459.slots.size ≤ ((3 : Int32)).toNatClampNeg) := inb_of S459 ⟨by decide,by decide⟩
              obtain ⟨T459,h459,X459,e459,W459,st459⟩ := stC X452 hx hZ e452 Ar459 (j := (3 : Int32)) hin459 (g := (mkF m 270 #[sI p0,sI p1,sI p2,sI p3,sI p4,sI r1,sI r2,sI r3,sI r4,sI r5,sI r6,sI r7,sI nn,sU,sU,sU] [(.int r4),(.int 3),(.ref b431),(.ref b431),(.ref b426),(.ref b426)])) rfl rfl (hb hby at_270)
              have f460 := f453.wr W459
              have f461 := Safe.wr W459 f457 CH452 f454
              have f462 := f455.other W459 (Or.inl ne_b426_b431)
              have f463 := f456.other W459 (Or.inl ne_b426_b431)
              have f464 := Safe.wr W459 f457 CH452 f457
              have f465 : Arv Z h459 b431 k431 .char (5 : Int32) [(.int (nar .char r1)),(.int (nar .char r2)),(.int (nar .char r3)),(.int (nar .char r4)),(.int 0)] (.int 0) := Arv.set Ar459 q459 S459 M459 Hs459 G459 (fits_nar_char _) W459 3 rfl (Nat.le_of_ble_eq_true rfl)
              have cr459 := CHr.wr W459 f457 CH452
              have CR459 := CR452.trans cr459
              have CH459 := cr459.1
              have hk459 := Nat.le_trans hk452 cr459.2.1
              have K459 := Keep.wr K452 W459 (Or.inr sz_b431)
              have Z459 := Nat.le_trans Z0 K459.1
              have N459 := Fr.snoc X459 N452 g_b431
              refine gv T459 271 #[sI p0,sI p1,sI p2,sI p3,sI p4,sI r1,sI r2,sI r3,sI r4,sI r5,sI r6,sI r7,sI nn,sU,sU,sU] [(.ref b431),(.ref b426),(.ref b426)] (fun t k => st459 _ k) ?_
              refine gv T459 272 #[sI p0,sI p1,sI p2,sI p3,sI p4,sI r1,sI r2,sI r3,sI r4,sI r5,sI r6,sI r7,sI nn,sU,sU,sU] [(.ref b431),(.ref b431),(.ref b426),(.ref b426)] (fun t k => XS.dup X459.here hx rfl (hb hby at_271) rfl rfl k) ?_
              refine gv T459 273 #[sI p0,sI p1,sI p2,sI p3,sI p4,sI r1,sI r2,sI r3,sI r4,sI r5,sI r6,sI r7,sI nn,sU,sU,sU] [(.int 4),(.ref b431),(.ref b431),(.ref b426),(.ref b426)] (fun t k => XS.iconst X459.here hx rfl (hb hby at_272) k) ?_
              refine gv T459 275 #[sI p0,sI p1,sI p2,sI p3,sI p4,sI r1,sI r2,sI r3,sI r4,sI r5,sI r6,sI r7,sI nn,sU,sU,sU] [(.int r5),(.int 4),(.ref b431),(.ref b431),(.ref b426),(.ref b426)] (fun t k => XS.iload X459.here hx rfl (hb hby at_273) rfl k) ?_
              obtain ⟨cl466,Ar466,q466,S466,M466,Hs466,G466⟩ := id f465
              have hin466 : ¬ ((4 : Int32) < 0 ∨ cl466.slots.size ≤ ((4 : Int32)).toNatClampNeg) := inb_of S466 ⟨by decide,by decide⟩
              obtain ⟨T466,h466,X466,e466,W466,st466⟩ := stC X459 hx hZ e459 Ar466 (j := (4 : Int32)) hin466 (g := (mkF m 275 #[sI p0,sI p1,sI p2,sI p3,sI p4,sI r1,sI r2,sI r3,sI r4,sI r5,sI r6,sI r7,sI nn,sU,sU,sU] [(.int r5),(.int 4),(.ref b431),(.ref b431),(.ref b426),(.ref b426)])) rfl rfl (hb hby at_275)
              have f467 := f460.wr W466
              have f468 := Safe.wr W466 f464 CH459 f461
              have f469 := f462.other W466 (Or.inl ne_b426_b431)
              have f470 := f463.other W466 (Or.inl ne_b426_b431)
              have f471 := Safe.wr W466 f464 CH459 f464
              have f472 : Arv Z h466 b431 k431 .char (5 : Int32) [(.int (nar .char r1)),(.int (nar .char r2)),(.int (nar .char r3)),(.int (nar .char r4)),(.int (nar .char r5))] (.int 0) := Arv.set Ar466 q466 S466 M466 Hs466 G466 (fits_nar_char _) W466 4 rfl (Nat.le_of_ble_eq_true rfl)
              have cr466 := CHr.wr W466 f464 CH459
              have CR466 := CR459.trans cr466
              have CH466 := cr466.1
              have hk466 := Nat.le_trans hk459 cr466.2.1
              have K466 := Keep.wr K459 W466 (Or.inr sz_b431)
              have Z466 := Nat.le_trans Z0 K466.1
              have N466 := Fr.snoc X466 N459 g_b431
              refine gv T466 276 #[sI p0,sI p1,sI p2,sI p3,sI p4,sI r1,sI r2,sI r3,sI r4,sI r5,sI r6,sI r7,sI nn,sU,sU,sU] [(.ref b431),(.ref b426),(.ref b426)] (fun t k => st466 _ k) ?_
              obtain ⟨_,_,⟨T473,L473,k473,n473⟩,-,X473,⟨Lc473,hQ473,l473,y473,z473⟩,st473⟩ := X466.specialBack hx (y := (⟨"java/lang/String","<init>","([C)V"⟩ : MethodName)) rfl hown (mvT hZ (w_ hw 52 rfl)) (mvT hZ (w_ hw 53 rfl)) (mvT hZ (w_ hw 54 rfl)) (by decide) (backOf (W := 1) (rm105 l Z a0 hw [] b426 b431 k431 wc (.int 0) .null (nar .char r1) (nar .char r2) (nar .char r3) (nar .char r4) (nar .char r5) h466 n0 Z466 f467 f470 f469 f472 (own_staKeep f0_COMPACT_STRINGS K466 all0) ne_b426_b431 g_b426 (own_ncR hr1) (own_ncR hr2) (own_ncR hr3) (own_ncR hr4) (own_ncR hr5) hwc) hZ (w_ hw 54 rfl) (w_ hw 8 rfl) (by decide) (by decide)) (g := (mkF m 276 #[sI p0,sI p1,sI p2,sI p3,sI p4,sI r1,sI r2,sI r3,sI r4,sI r5,sI r6,sI r7,sI nn,sU,sU,sU] [(.ref b431),(.ref b426),(.ref b426)])) rfl (by rw [hml]; rfl) (Steps.refl _) (a := b426) (argsL := [(.ref b431)]) (rest := [(.ref b426)]) (lenOf pd_20 rfl) rfl (own_rm rfl) (hb hby at_276) (fun _ _ => ⟨rfl,e466,(by decide : 16 + 1 ≤ _),(by decide : 177 + 5 ≤ _)⟩)
              dsimp only [Pt.U, Pt.locs, Pt.cells, Pt.slots] at X473 l473 y473 z473 st473 hQ473
              replace X473 := own_cast X473 l473 y473 z473
              obtain ⟨yb_473,kb_473,rfl,N473q,K473q,po473_0,po473_1,po473_2,po473_3,px473_g_yb,px473_sz_yb⟩ := hQ473
              have N473 := Fr.app N466 N473q
              have f474 := f467.keep K473q
              have f475 := Safe.keep K473q (allS f468 all0) CH466 f468
              have f476 := Safe.keep K473q (allS f468 all0) CH466 f471
              have f477 := f472.keep K473q (ninS (Ne.symm ne_b426_b431) nin0)
              have cr473 := CHr.keep K473q (allS f468 all0) CH466
              have CR473 := CR466.trans cr473
              have CH473 := cr473.1
              have hk473 := Nat.le_trans hk466 cr473.2.1
              have K473 := Keep.trans K466 K473q (allS (Or.inr sz_b426) all0)
              have Z473 := Nat.le_trans Z0 K473.1
              have g_yb_473 := px473_g_yb
              have sz_yb_473 : h0.size ≤ yb_473 := Nat.le_trans (K466).1 px473_sz_yb
              have ne_b426_yb_473 : b426 ≠ yb_473 := Nat.ne_of_lt (Nat.lt_of_lt_of_le f467.lt px473_sz_yb)
              have ne_b431_yb_473 : b431 ≠ yb_473 := Nat.ne_of_lt (Nat.lt_of_lt_of_le f472.lt px473_sz_yb)
              refine gv T473 279 #[sI p0,sI p1,sI p2,sI p3,sI p4,sI r1,sI r2,sI r3,sI r4,sI r5,sI r6,sI r7,sI nn,sU,sU,sU] [(.ref b426)] (fun t k => st473.trans k) ?_
              refine gv T473 281 #[sI p0,sI p1,sI p2,sI p3,sI p4,sI r1,sI r2,sI r3,sI r4,sI r5,sI r6,sI r7,sI nn,sR b426,sU,sU] [] (fun t k => XS.astore X473.here hx rfl (hb hby at_279) rfl rfl (l' := #[sI p0,sI p1,sI p2,sI p3,sI p4,sI r1,sI r2,sI r3,sI r4,sI r5,sI r6,sI r7,sI nn,sR b426,sU,sU]) rfl k) ?_
              refine gv T473 386 #[sI p0,sI p1,sI p2,sI p3,sI p4,sI r1,sI r2,sI r3,sI r4,sI r5,sI r6,sI r7,sI nn,sR b426,sU,sU] [] (fun t k => XS.goto X473.here hx rfl (pc0 := 281) (pc' := 386) rfl (hb hby at_281) (by decide) (by decide) k) ?_
              refine gv T473 388 #[sI p0,sI p1,sI p2,sI p3,sI p4,sI r1,sI r2,sI r3,sI r4,sI r5,sI r6,sI r7,sI nn,sR b426,sU,sU] [(.ref b426)] (fun t k => XS.aload X473.here hx rfl (hb hby at_386) rfl rfl k) ?_
              obtain ⟨b478,T478,h478,kz478,d478,k478,X478,e478,E478,hS478,hk478,hZ,hown,A478,C478,V478,R478,lta478,ltb478,cr478,Lt478,Nn478,st478⟩ := ldcCH X473 hx hZ hown (w_ hw 7 rfl) (own_wS hw) rfl hS7 hk473 (own_EW hw) (own_mem (by decide)) CH473 (vs := [(.int 100),(.int 97),(.int 121)]) (z := (3 : Int32)) ⟨by decide,rfl⟩ (by decide) rfl (g := (mkF m 388 #[sI p0,sI p1,sI p2,sI p3,sI p4,sI r1,sI r2,sI r3,sI r4,sI r5,sI r6,sI r7,sI nn,sR b426,sU,sU] [(.ref b426)])) rfl (hb hby at_388) (n := 12) (by decide) (by decide) (by decide) (by decide)
              have f479 := po473_0.ext E478
              have f480 := f477.ext E478
              have f481 := po473_1.ext E478
              have f482 := po473_2.ext E478
              have f483 := po473_3.ext E478
              have CR478 := CR473.trans cr478
              have CH478 := cr478.1
              have f484 := CHr.safe cr478 po473_0.lt f475
              have f485 := CHr.safe cr478 f477.lt f476
              have K478 := Keep.ext K473 E478
              have Z478 := Nat.le_trans Z0 K478.1
              have f486 : Exa Z h478 b478 "java/lang/String" := A478
              have f487 : Fld Z h478 b478 "java/lang/String" "coder" "B" (.int 0) := C478
              have f488 : Fld Z h478 b478 "java/lang/String" "value" "[B" (.ref d478) := V478
              have f489 : Arv Z h478 d478 k478 .byte (3 : Int32) [(.int 100),(.int 97),(.int 121)] (.int 0) := R478
              refine gv T478 390 #[sI p0,sI p1,sI p2,sI p3,sI p4,sI r1,sI r2,sI r3,sI r4,sI r5,sI r6,sI r7,sI nn,sR b426,sU,sU] [(.ref b478),(.ref b426)] (fun t k => st478 _ k) ?_
              obtain ⟨cq490,kq490,q490a,q490b,q490c⟩ := isOf hZ e478 f479
              obtain ⟨_,_,⟨T490,L490,k490,n490⟩,-,X490,⟨Lc490,hQ490,l490,y490,z490⟩,st490⟩ := X478.virtualBack hx (y := (⟨"java/lang/String","equals","(Ljava/lang/Object;)Z"⟩ : MethodName)) (z := (⟨"java/lang/String","equals","(Ljava/lang/Object;)Z"⟩ : MethodName)) hown (mvT hZ (w_ hw 72 rfl)) (mvT hZ (w_ hw 73 rfl)) (notFace_of_selects (args := #[]) (mvT hZ (w_ hw 75 rfl))) (mvT hZ (w_ hw 75 rfl)) (mvT hZ (w_ hw 74 rfl)) (by decide) (backOf (W := 0) (rm16x l Z a0 hw [] b426 b478 yb_473 d478 kb_473 k478 (5 : Int32) (3 : Int32) ([(.int (bN r1)),(.int (bN r2)),(.int (bN r3)),(.int (bN r4)),(.int (bN r5))] : List Value) ([(.int 100),(.int 97),(.int 121)] : List Value) wc h478 n0 Z478 f479 f481 f482 f483 f486 f487 f488 f489 (own_staKeep f0_COMPACT_STRINGS K478 all0) (Nn478 _ f484).1 (by decide) hwc) hZ (w_ hw 76 rfl) (w_ hw 8 rfl) (by decide) (by decide)) q490a q490c (g := (mkF m 390 #[sI p0,sI p1,sI p2,sI p3,sI p4,sI r1,sI r2,sI r3,sI r4,sI r5,sI r6,sI r7,sI nn,sR b426,sU,sU] [(.ref b478),(.ref b426)])) rfl (by rw [hml]; rfl) (Steps.refl _) (argsL := [(.ref b478)]) (rest := []) (lenOf pd_16 rfl) rfl (own_rm rfl) (hb hby at_390) (fun _ _ => ⟨rfl,e478,(by decide : 19 + 0 ≤ _),(by decide : 198 + 0 ≤ _)⟩)
              dsimp only [Pt.U, Pt.locs, Pt.cells, Pt.slots] at X490 l490 y490 z490 st490 hQ490
              replace X490 := own_cast X490 l490 y490 z490
              obtain ⟨rfl,N490q,eq490⟩ := hQ490
              have N490 := Fr.app N473 N490q
              refine gv T490 393 #[sI p0,sI p1,sI p2,sI p3,sI p4,sI r1,sI r2,sI r3,sI r4,sI r5,sI r6,sI r7,sI nn,sR b426,sU,sU] [(.int 0)] (fun t k => st490.trans k) ?_
              refine gv T490 404 #[sI p0,sI p1,sI p2,sI p3,sI p4,sI r1,sI r2,sI r3,sI r4,sI r5,sI r6,sI r7,sI nn,sR b426,sU,sU] [] (fun t k => XS.ifYes X490.here hx rfl (pc0 := 393) (pc' := 404) rfl (hb hby at_393) rfl ((if0 _ _).trans (teq rfl).1) (by decide) (by decide) k) ?_
              refine gv T490 406 #[sI p0,sI p1,sI p2,sI p3,sI p4,sI r1,sI r2,sI r3,sI r4,sI r5,sI r6,sI r7,sI nn,sR b426,sU,sU] [(.ref b426)] (fun t k => XS.aload X490.here hx rfl (hb hby at_404) rfl rfl k) ?_
              obtain ⟨b491,T491,h491,kz491,d491,k491,X491,e491,E491,hS491,hk491,hZ,hown,A491,C491,V491,R491,lta491,ltb491,cr491,Lt491,Nn491,st491⟩ := ldcCH X490 hx hZ hown (w_ hw 130 rfl) (own_wS hw) eq490 hS478 hk478 (own_EW hw) (own_mem (by decide)) CH478 (vs := [(.int 109),(.int 111),(.int 110),(.int 116),(.int 104)]) (z := (5 : Int32)) ⟨by decide,rfl⟩ (by decide) rfl (g := (mkF m 406 #[sI p0,sI p1,sI p2,sI p3,sI p4,sI r1,sI r2,sI r3,sI r4,sI r5,sI r6,sI r7,sI nn,sR b426,sU,sU] [(.ref b426)])) rfl (hb hby at_406) (n := 20) (by decide) (by decide) (by decide) (by decide)
              have f492 := f479.ext E491
              have f493 := f480.ext E491
              have f494 := f481.ext E491
              have f495 := f482.ext E491
              have f496 := f483.ext E491
              have f497 := f486.ext E491
              have f498 := f487.ext E491
              have f499 := f488.ext E491
              have f500 := f489.ext E491
              have CR491 := CR478.trans cr491
              have CH491 := cr491.1
              have f501 := CHr.safe cr491 f479.lt f484
              have f502 := CHr.safe cr491 f480.lt f485
              have K491 := Keep.ext K478 E491
              have Z491 := Nat.le_trans Z0 K491.1
              have f503 : Exa Z h491 b491 "java/lang/String" := A491
              have f504 : Fld Z h491 b491 "java/lang/String" "coder" "B" (.int 0) := C491
              have f505 : Fld Z h491 b491 "java/lang/String" "value" "[B" (.ref d491) := V491
              have f506 : Arv Z h491 d491 k491 .byte (5 : Int32) [(.int 109),(.int 111),(.int 110),(.int 116),(.int 104)] (.int 0) := R491
              refine gv T491 408 #[sI p0,sI p1,sI p2,sI p3,sI p4,sI r1,sI r2,sI r3,sI r4,sI r5,sI r6,sI r7,sI nn,sR b426,sU,sU] [(.ref b491),(.ref b426)] (fun t k => st491 _ k) ?_
              obtain ⟨cq507,kq507,q507a,q507b,q507c⟩ := isOf hZ e491 f492
              obtain ⟨_,_,⟨T507,L507,k507,n507⟩,-,X507,⟨Lc507,hQ507,l507,y507,z507⟩,st507⟩ := X491.virtualBack hx (y := (⟨"java/lang/String","equals","(Ljava/lang/Object;)Z"⟩ : MethodName)) (z := (⟨"java/lang/String","equals","(Ljava/lang/Object;)Z"⟩ : MethodName)) hown (mvT hZ (w_ hw 72 rfl)) (mvT hZ (w_ hw 73 rfl)) (notFace_of_selects (args := #[]) (mvT hZ (w_ hw 75 rfl))) (mvT hZ (w_ hw 75 rfl)) (mvT hZ (w_ hw 74 rfl)) (by decide) (backOf (W := 0) (rm165 l Z a0 hw [] b426 b491 yb_473 d491 kb_473 k491 wc (bN r1) (bN r2) (bN r3) (bN r4) (bN r5) (109 : Int32) (111 : Int32) (110 : Int32) (116 : Int32) (104 : Int32) h491 n0 Z491 f492 f494 f495 f496 f503 f504 f505 f506 (own_staKeep f0_COMPACT_STRINGS K491 all0) (Nn491 _ f501).1 hwc) hZ (w_ hw 76 rfl) (w_ hw 8 rfl) (by decide) (by decide)) q507a q507c (g := (mkF m 408 #[sI p0,sI p1,sI p2,sI p3,sI p4,sI r1,sI r2,sI r3,sI r4,sI r5,sI r6,sI r7,sI nn,sR b426,sU,sU] [(.ref b491),(.ref b426)])) rfl (by rw [hml]; rfl) (Steps.refl _) (argsL := [(.ref b491)]) (rest := []) (lenOf pd_16 rfl) rfl (own_rm rfl) (hb hby at_408) (fun _ _ => ⟨rfl,e491,(by decide : 21 + 0 ≤ _),(by decide : 222 + 0 ≤ _)⟩)
              dsimp only [Pt.U, Pt.locs, Pt.cells, Pt.slots] at X507 l507 y507 z507 st507 hQ507
              replace X507 := own_cast X507 l507 y507 z507
              obtain ⟨r507,rfl,hr507,N507q,eq507⟩ := hQ507
              have N507 := Fr.app N490 N507q
              refine gv T507 411 #[sI p0,sI p1,sI p2,sI p3,sI p4,sI r1,sI r2,sI r3,sI r4,sI r5,sI r6,sI r7,sI nn,sR b426,sU,sU] [(.int r507)] (fun t k => st507.trans k) ?_
              by_cases hc509 : (((bN r1) = (109 : Int32)) ∧ (((bN r2) = (111 : Int32)) ∧ (((bN r3) = (110 : Int32)) ∧ (((bN r4) = (116 : Int32)) ∧ ((bN r5) = (104 : Int32))))))
              · refine gv T507 414 #[sI p0,sI p1,sI p2,sI p3,sI p4,sI r1,sI r2,sI r3,sI r4,sI r5,sI r6,sI r7,sI nn,sR b426,sU,sU] [] (fun t k => XS.ifNo X507.here hx rfl (hb hby at_411) rfl ((if0 _ _).trans (feq (own_b1 hr507 hc509)).1) k) ?_
                obtain ⟨T510,X510,e510,st510⟩ := getS2 X507 hx hZ hown (host := "") (Or.inl (w_ hw 136 rfl)) Via.refl eq507 (own_staKeep f3_MONTH K491 all0) (g := (mkF m 414 #[sI p0,sI p1,sI p2,sI p3,sI p4,sI r1,sI r2,sI r3,sI r4,sI r5,sI r6,sI r7,sI nn,sR b426,sU,sU] [])) rfl (hb hby at_414)
                refine gv T510 417 #[sI p0,sI p1,sI p2,sI p3,sI p4,sI r1,sI r2,sI r3,sI r4,sI r5,sI r6,sI r7,sI nn,sR b426,sU,sU] [(.ref mm)] (fun t k => st510 _ k) ?_
                refine gv T510 419 #[sI p0,sI p1,sI p2,sI p3,sI p4,sI r1,sI r2,sI r3,sI r4,sI r5,sI r6,sI r7,sI nn,sR b426,sR mm,sU] [] (fun t k => XS.astore X510.here hx rfl (hb hby at_417) rfl rfl (l' := #[sI p0,sI p1,sI p2,sI p3,sI p4,sI r1,sI r2,sI r3,sI r4,sI r5,sI r6,sI r7,sI nn,sR b426,sR mm,sU]) rfl k) ?_
                refine gv T510 425 #[sI p0,sI p1,sI p2,sI p3,sI p4,sI r1,sI r2,sI r3,sI r4,sI r5,sI r6,sI r7,sI nn,sR b426,sR mm,sU] [] (fun t k => XS.goto X510.here hx rfl (pc0 := 419) (pc' := 425) rfl (hb hby at_419) (by decide) (by decide) k) ?_
                refine gv T510 427 #[sI p0,sI p1,sI p2,sI p3,sI p4,sI r1,sI r2,sI r3,sI r4,sI r5,sI r6,sI r7,sI nn,sR b426,sR mm,sU] [(.ref b426)] (fun t k => XS.aload X510.here hx rfl (hb hby at_425) rfl rfl k) ?_
                obtain ⟨_,_,⟨T511,L511,k511,n511⟩,-,X511,⟨Lc511,hQ511,l511,y511,z511⟩,st511⟩ := Jvm.LawKit.callS X510 hx (y := (⟨"com/example/tallyman/tallyman/ledger/Period","named","(Ljava/lang/String;)Ljava/util/Optional;"⟩ : MethodName)) hown (mvT hZ (w_ hw 84 rfl)) (mvT hZ (w_ hw 85 rfl)) (mvT hZ (w_ hw 82 rfl)) (mvT hZ (w_ hw 86 rfl)) (by decide) (backOf (W := 0) (rm185t l Z a0 hw [] b426 yV kV dd mm td bd kd tm bm km oe wc yb_473 kb_473 (bN r1) (bN r2) (bN r3) (bN r4) (bN r5) h491 n0 Z491 (own_staKeep f4__VALUES K491 all0) (f5_yV.keep K491 nin0) (f6_yV.keep K491) (f9_dd_text.keep K491 nin0) (f10_td.keep K491) (f11_td_coder.keep K491 nin0) (f12_td_value.keep K491 nin0) (f13_bd.keep K491 nin0) (f14_mm_text.keep K491 nin0) (f15_tm.keep K491) (f16_tm_coder.keep K491 nin0) (f17_tm_value.keep K491 nin0) (f18_bm.keep K491 nin0) (own_staKeep f19_EMPTY K491 all0) (own_staKeep f0_COMPACT_STRINGS K491 all0) f492 f494 f495 f496 (Nat.ne_of_lt (Nat.lt_of_lt_of_le f10_td.lt sz_b426)) (Nat.ne_of_lt (Nat.lt_of_lt_of_le f15_tm.lt sz_b426)) hwc (own_flip5 hc509)) hZ (w_ hw 86 rfl) (w_ hw 82 rfl) (by decide) (by decide)) (g := (mkF m 427 #[sI p0,sI p1,sI p2,sI p3,sI p4,sI r1,sI r2,sI r3,sI r4,sI r5,sI r6,sI r7,sI nn,sR b426,sR mm,sU] [(.ref b426)])) rfl (by rw [hml]; rfl) (argsL := [(.ref b426)]) (rest := []) (lenOf pd_21 rfl) rfl (own_rm rfl) (hb hby at_427) (fun _ _ => ⟨rfl,e510,(by decide : 21 + 2 ≤ _),(by decide : 222 + 3 ≤ _)⟩)
                dsimp only [Pt.U, Pt.locs, Pt.cells, Pt.slots] at X511 l511 y511 z511 st511 hQ511
                replace X511 := own_cast X511 l511 y511 z511
                obtain ⟨yo_511,rfl,N511q,K511q,po511_0,po511_1,px511_g_yo,px511_sz_yo⟩ := hQ511
                have N511 := Fr.app N507 N511q
                have f512 := f492.keep K511q
                have f513 := f493.keep K511q nin0
                have f514 := f494.keep K511q nin0
                have f515 := f495.keep K511q nin0
                have f516 := f496.keep K511q nin0
                have f517 := f497.keep K511q
                have f518 := f498.keep K511q nin0
                have f519 := f499.keep K511q nin0
                have f520 := f500.keep K511q nin0
                have f521 := Safe.keep K511q all0 CH491 f501
                have f522 := Safe.keep K511q all0 CH491 f502
                have f523 := f503.keep K511q
                have f524 := f504.keep K511q nin0
                have f525 := f505.keep K511q nin0
                have f526 := f506.keep K511q nin0
                have cr511 := CHr.keep K511q all0 CH491
                have CR511 := CR491.trans cr511
                have CH511 := cr511.1
                have hk511 := Nat.le_trans hk491 cr511.2.1
                have K511 := Keep.trans K491 K511q all0
                have Z511 := Nat.le_trans Z0 K511.1
                have g_yo_511 := px511_g_yo
                have sz_yo_511 : h0.size ≤ yo_511 := Nat.le_trans (K491).1 px511_sz_yo
                have ne_b426_yo_511 : b426 ≠ yo_511 := Nat.ne_of_lt (Nat.lt_of_lt_of_le f492.lt px511_sz_yo)
                have ne_b431_yo_511 : b431 ≠ yo_511 := Nat.ne_of_lt (Nat.lt_of_lt_of_le f493.lt px511_sz_yo)
                have ne_yb_473_yo_511 : yb_473 ≠ yo_511 := Nat.ne_of_lt (Nat.lt_of_lt_of_le f496.lt px511_sz_yo)
                have ne_b478_yo_511 : b478 ≠ yo_511 := Nat.ne_of_lt (Nat.lt_of_lt_of_le f497.lt px511_sz_yo)
                have ne_d478_yo_511 : d478 ≠ yo_511 := Nat.ne_of_lt (Nat.lt_of_lt_of_le f500.lt px511_sz_yo)
                have ne_b491_yo_511 : b491 ≠ yo_511 := Nat.ne_of_lt (Nat.lt_of_lt_of_le f503.lt px511_sz_yo)
                have ne_d491_yo_511 : d491 ≠ yo_511 := Nat.ne_of_lt (Nat.lt_of_lt_of_le f506.lt px511_sz_yo)
                refine gv T511 430 #[sI p0,sI p1,sI p2,sI p3,sI p4,sI r1,sI r2,sI r3,sI r4,sI r5,sI r6,sI r7,sI nn,sR b426,sR mm,sU] [(.ref yo_511)] (fun t k => st511 _ k) ?_
                refine gv T511 431 #[sI p0,sI p1,sI p2,sI p3,sI p4,sI r1,sI r2,sI r3,sI r4,sI r5,sI r6,sI r7,sI nn,sR b426,sR mm,sU] [.null,(.ref yo_511)] (fun t k => XS.aconstNull X511.here hx rfl (hb hby at_430) k) ?_
                obtain ⟨cq527,kq527,q527a,q527b,q527c⟩ := isOf hZ rfl po511_0
                obtain ⟨_,_,⟨T527,L527,k527,n527⟩,-,X527,⟨Lc527,hQ527,l527,y527,z527⟩,st527⟩ := X511.virtualBack hx (y := (⟨"java/util/Optional","orElse","(Ljava/lang/Object;)Ljava/lang/Object;"⟩ : MethodName)) (z := (⟨"java/util/Optional","orElse","(Ljava/lang/Object;)Ljava/lang/Object;"⟩ : MethodName)) hown (mvT hZ (w_ hw 123 rfl)) (mvT hZ (w_ hw 124 rfl)) (notFace_of_selects (args := #[]) (mvT hZ (w_ hw 126 rfl))) (mvT hZ (w_ hw 126 rfl)) (mvT hZ (w_ hw 125 rfl)) (by decide) (backOf (W := 0) (rm23v l Z a0 hw [] yo_511 mm T511.heap n0 Z511 po511_1) hZ (w_ hw 127 rfl) (w_ hw 108 rfl) (by decide) (by decide)) q527a q527c (g := (mkF m 431 #[sI p0,sI p1,sI p2,sI p3,sI p4,sI r1,sI r2,sI r3,sI r4,sI r5,sI r6,sI r7,sI nn,sR b426,sR mm,sU] [.null,(.ref yo_511)])) rfl (by rw [hml]; rfl) (Steps.refl _) (argsL := [.null]) (rest := []) (lenOf pd_13 rfl) rfl (own_rm rfl) (hb hby at_431) (fun _ _ => ⟨rfl,rfl,(by decide : 23 + 0 ≤ _),(by decide : 225 + 0 ≤ _)⟩)
                dsimp only [Pt.U, Pt.locs, Pt.cells, Pt.slots] at X527 l527 y527 z527 st527 hQ527
                replace X527 := own_cast X527 l527 y527 z527
                obtain ⟨rfl,N527q,eq527⟩ := hQ527
                have N527 := Fr.app N511 N527q
                refine gv T527 434 #[sI p0,sI p1,sI p2,sI p3,sI p4,sI r1,sI r2,sI r3,sI r4,sI r5,sI r6,sI r7,sI nn,sR b426,sR mm,sU] [(.ref mm)] (fun t k => st527.trans k) ?_
                obtain ⟨T528,X528,e528,st528⟩ := castY X527 hx hZ hown (w_ hw 128 rfl) eq527 (Ins.self (f8_mm.keep K511)) (g := (mkF m 434 #[sI p0,sI p1,sI p2,sI p3,sI p4,sI r1,sI r2,sI r3,sI r4,sI r5,sI r6,sI r7,sI nn,sR b426,sR mm,sU] [(.ref mm)])) rfl rfl (hb hby at_434)
                refine gv T528 437 #[sI p0,sI p1,sI p2,sI p3,sI p4,sI r1,sI r2,sI r3,sI r4,sI r5,sI r6,sI r7,sI nn,sR b426,sR mm,sU] [(.ref mm)] (fun t k => st528 _ k) ?_
                refine gv T528 439 #[sI p0,sI p1,sI p2,sI p3,sI p4,sI r1,sI r2,sI r3,sI r4,sI r5,sI r6,sI r7,sI nn,sR b426,sR mm,sR mm] [] (fun t k => XS.astore X528.here hx rfl (hb hby at_437) rfl rfl (l' := #[sI p0,sI p1,sI p2,sI p3,sI p4,sI r1,sI r2,sI r3,sI r4,sI r5,sI r6,sI r7,sI nn,sR b426,sR mm,sR mm]) rfl k) ?_
                refine gv T528 441 #[sI p0,sI p1,sI p2,sI p3,sI p4,sI r1,sI r2,sI r3,sI r4,sI r5,sI r6,sI r7,sI nn,sR b426,sR mm,sR mm] [(.ref mm)] (fun t k => XS.aload X528.here hx rfl (hb hby at_439) rfl rfl k) ?_
                refine gv T528 443 #[sI p0,sI p1,sI p2,sI p3,sI p4,sI r1,sI r2,sI r3,sI r4,sI r5,sI r6,sI r7,sI nn,sR b426,sR mm,sR mm] [(.ref mm),(.ref mm)] (fun t k => XS.aload X528.here hx rfl (hb hby at_441) rfl rfl k) ?_
                refine gv T528 446 #[sI p0,sI p1,sI p2,sI p3,sI p4,sI r1,sI r2,sI r3,sI r4,sI r5,sI r6,sI r7,sI nn,sR b426,sR mm,sR mm] [] (fun t k => Jvm.RoadKit.acmp (g := (mkF m 443 #[sI p0,sI p1,sI p2,sI p3,sI p4,sI r1,sI r2,sI r3,sI r4,sI r5,sI r6,sI r7,sI nn,sR b426,sR mm,sR mm] [(.ref mm),(.ref mm)])) X528 hx rfl rfl rfl (pc0 := 443) (pc' := 446) (same := true) rfl (hb hby at_443) rfl (decide_eq_true rfl) (by decide) (by decide) k) ?_
                refine gv T528 447 #[sI p0,sI p1,sI p2,sI p3,sI p4,sI r1,sI r2,sI r3,sI r4,sI r5,sI r6,sI r7,sI nn,sR b426,sR mm,sR mm] [(.int 1)] (fun t k => XS.iconst X528.here hx rfl (hb hby at_446) k) ?_
                refine gv T528 451 #[sI p0,sI p1,sI p2,sI p3,sI p4,sI r1,sI r2,sI r3,sI r4,sI r5,sI r6,sI r7,sI nn,sR b426,sR mm,sR mm] [(.int 1)] (fun t k => XS.goto X528.here hx rfl (pc0 := 447) (pc' := 451) rfl (hb hby at_447) (by decide) (by decide) k) ?_
                exact own_retW X528 hx Bd.notSynchronized Bd.returns rfl (Or.inl ⟨rfl,by simp,_,rfl⟩) (hb hby at_451) e528 hS491 hk511 hZ (own_EW hw) CR511 hh ⟨rfl,N527⟩ (by decide) (by decide)
              · refine gv T507 422 #[sI p0,sI p1,sI p2,sI p3,sI p4,sI r1,sI r2,sI r3,sI r4,sI r5,sI r6,sI r7,sI nn,sR b426,sU,sU] [] (fun t k => XS.ifYes X507.here hx rfl (pc0 := 411) (pc' := 422) rfl (hb hby at_411) rfl ((if0 _ _).trans (teq (own_b0 hr507 hc509)).1) (by decide) (by decide) k) ?_
                refine gv T507 423 #[sI p0,sI p1,sI p2,sI p3,sI p4,sI r1,sI r2,sI r3,sI r4,sI r5,sI r6,sI r7,sI nn,sR b426,sU,sU] [.null] (fun t k => XS.aconstNull X507.here hx rfl (hb hby at_422) k) ?_
                refine gv T507 425 #[sI p0,sI p1,sI p2,sI p3,sI p4,sI r1,sI r2,sI r3,sI r4,sI r5,sI r6,sI r7,sI nn,sR b426,.val .null,sU] [] (fun t k => XS.astore X507.here hx rfl (hb hby at_423) rfl rfl (l' := #[sI p0,sI p1,sI p2,sI p3,sI p4,sI r1,sI r2,sI r3,sI r4,sI r5,sI r6,sI r7,sI nn,sR b426,.val .null,sU]) rfl k) ?_
                refine gv T507 427 #[sI p0,sI p1,sI p2,sI p3,sI p4,sI r1,sI r2,sI r3,sI r4,sI r5,sI r6,sI r7,sI nn,sR b426,.val .null,sU] [(.ref b426)] (fun t k => XS.aload X507.here hx rfl (hb hby at_425) rfl rfl k) ?_
                obtain ⟨_,_,⟨T529,L529,k529,n529⟩,-,X529,⟨Lc529,hQ529,l529,y529,z529⟩,st529⟩ := Jvm.LawKit.callS X507 hx (y := (⟨"com/example/tallyman/tallyman/ledger/Period","named","(Ljava/lang/String;)Ljava/util/Optional;"⟩ : MethodName)) hown (mvT hZ (w_ hw 84 rfl)) (mvT hZ (w_ hw 85 rfl)) (mvT hZ (w_ hw 82 rfl)) (mvT hZ (w_ hw 86 rfl)) (by decide) (backOf (W := 0) (rm185f l Z a0 hw [] b426 yV kV dd mm td bd kd tm bm km oe wc yb_473 kb_473 (bN r1) (bN r2) (bN r3) (bN r4) (bN r5) h491 n0 Z491 (own_staKeep f4__VALUES K491 all0) (f5_yV.keep K491 nin0) (f6_yV.keep K491) (f9_dd_text.keep K491 nin0) (f10_td.keep K491) (f11_td_coder.keep K491 nin0) (f12_td_value.keep K491 nin0) (f13_bd.keep K491 nin0) (f14_mm_text.keep K491 nin0) (f15_tm.keep K491) (f16_tm_coder.keep K491 nin0) (f17_tm_value.keep K491 nin0) (f18_bm.keep K491 nin0) (own_staKeep f19_EMPTY K491 all0) (own_staKeep f0_COMPACT_STRINGS K491 all0) f492 f494 f495 f496 (Nat.ne_of_lt (Nat.lt_of_lt_of_le f10_td.lt sz_b426)) (Nat.ne_of_lt (Nat.lt_of_lt_of_le f15_tm.lt sz_b426)) hwc (fun q => hc509 (own_flip5 q))) hZ (w_ hw 86 rfl) (w_ hw 82 rfl) (by decide) (by decide)) (g := (mkF m 427 #[sI p0,sI p1,sI p2,sI p3,sI p4,sI r1,sI r2,sI r3,sI r4,sI r5,sI r6,sI r7,sI nn,sR b426,.val .null,sU] [(.ref b426)])) rfl (by rw [hml]; rfl) (argsL := [(.ref b426)]) (rest := []) (lenOf pd_21 rfl) rfl (own_rm rfl) (hb hby at_427) (fun _ _ => ⟨rfl,eq507,(by decide : 21 + 1 ≤ _),(by decide : 222 + 2 ≤ _)⟩)
                dsimp only [Pt.U, Pt.locs, Pt.cells, Pt.slots] at X529 l529 y529 z529 st529 hQ529
                replace X529 := own_cast X529 l529 y529 z529
                obtain ⟨rfl,N529q,K529q⟩ := hQ529
                have N529 := Fr.app N507 N529q
                have f530 := f492.keep K529q
                have f531 := f493.keep K529q nin0
                have f532 := f494.keep K529q nin0
                have f533 := f495.keep K529q nin0
                have f534 := f496.keep K529q nin0
                have f535 := f497.keep K529q
                have f536 := f498.keep K529q nin0
                have f537 := f499.keep K529q nin0
                have f538 := f500.keep K529q nin0
                have f539 := Safe.keep K529q all0 CH491 f501
                have f540 := Safe.keep K529q all0 CH491 f502
                have f541 := f503.keep K529q
                have f542 := f504.keep K529q nin0
                have f543 := f505.keep K529q nin0
                have f544 := f506.keep K529q nin0
                have cr529 := CHr.keep K529q all0 CH491
                have CR529 := CR491.trans cr529
                have CH529 := cr529.1
                have hk529 := Nat.le_trans hk491 cr529.2.1
                have K529 := Keep.trans K491 K529q all0
                have Z529 := Nat.le_trans Z0 K529.1
                refine gv T529 430 #[sI p0,sI p1,sI p2,sI p3,sI p4,sI r1,sI r2,sI r3,sI r4,sI r5,sI r6,sI r7,sI nn,sR b426,.val .null,sU] [(.ref oe)] (fun t k => st529 _ k) ?_
                refine gv T529 431 #[sI p0,sI p1,sI p2,sI p3,sI p4,sI r1,sI r2,sI r3,sI r4,sI r5,sI r6,sI r7,sI nn,sR b426,.val .null,sU] [.null,(.ref oe)] (fun t k => XS.aconstNull X529.here hx rfl (hb hby at_430) k) ?_
                obtain ⟨cq545,kq545,q545a,q545b,q545c⟩ := isOf hZ rfl (f20_oe.keep K529)
                obtain ⟨_,_,⟨T545,L545,k545,n545⟩,-,X545,⟨Lc545,hQ545,l545,y545,z545⟩,st545⟩ := X529.virtualBack hx (y := (⟨"java/util/Optional","orElse","(Ljava/lang/Object;)Ljava/lang/Object;"⟩ : MethodName)) (z := (⟨"java/util/Optional","orElse","(Ljava/lang/Object;)Ljava/lang/Object;"⟩ : MethodName)) hown (mvT hZ (w_ hw 123 rfl)) (mvT hZ (w_ hw 124 rfl)) (notFace_of_selects (args := #[]) (mvT hZ (w_ hw 126 rfl))) (mvT hZ (w_ hw 126 rfl)) (mvT hZ (w_ hw 125 rfl)) (by decide) (backOf (W := 0) (rm23n l Z a0 hw [] oe T529.heap n0 Z529 (f21_oe_value.keep K529 nin0)) hZ (w_ hw 127 rfl) (w_ hw 108 rfl) (by decide) (by decide)) q545a q545c (g := (mkF m 431 #[sI p0,sI p1,sI p2,sI p3,sI p4,sI r1,sI r2,sI r3,sI r4,sI r5,sI r6,sI r7,sI nn,sR b426,.val .null,sU] [.null,(.ref oe)])) rfl (by rw [hml]; rfl) (Steps.refl _) (argsL := [.null]) (rest := []) (lenOf pd_13 rfl) rfl (own_rm rfl) (hb hby at_431) (fun _ _ => ⟨rfl,rfl,(by decide : 22 + 0 ≤ _),(by decide : 224 + 0 ≤ _)⟩)
                dsimp only [Pt.U, Pt.locs, Pt.cells, Pt.slots] at X545 l545 y545 z545 st545 hQ545
                replace X545 := own_cast X545 l545 y545 z545
                obtain ⟨rfl,N545q,eq545⟩ := hQ545
                have N545 := Fr.app N529 N545q
                refine gv T545 434 #[sI p0,sI p1,sI p2,sI p3,sI p4,sI r1,sI r2,sI r3,sI r4,sI r5,sI r6,sI r7,sI nn,sR b426,.val .null,sU] [.null] (fun t k => st545.trans k) ?_
                refine gv T545 437 #[sI p0,sI p1,sI p2,sI p3,sI p4,sI r1,sI r2,sI r3,sI r4,sI r5,sI r6,sI r7,sI nn,sR b426,.val .null,sU] [.null] (fun t k => X545.checkcastNull hx (g := (mkF m 434 #[sI p0,sI p1,sI p2,sI p3,sI p4,sI r1,sI r2,sI r3,sI r4,sI r5,sI r6,sI r7,sI nn,sR b426,.val .null,sU] [.null])) rfl rfl (hb hby at_434) _ k) ?_
                refine gv T545 439 #[sI p0,sI p1,sI p2,sI p3,sI p4,sI r1,sI r2,sI r3,sI r4,sI r5,sI r6,sI r7,sI nn,sR b426,.val .null,.val .null] [] (fun t k => XS.astore X545.here hx rfl (hb hby at_437) rfl rfl (l' := #[sI p0,sI p1,sI p2,sI p3,sI p4,sI r1,sI r2,sI r3,sI r4,sI r5,sI r6,sI r7,sI nn,sR b426,.val .null,.val .null]) rfl k) ?_
                refine gv T545 441 #[sI p0,sI p1,sI p2,sI p3,sI p4,sI r1,sI r2,sI r3,sI r4,sI r5,sI r6,sI r7,sI nn,sR b426,.val .null,.val .null] [.null] (fun t k => XS.aload X545.here hx rfl (hb hby at_439) rfl rfl k) ?_
                refine gv T545 443 #[sI p0,sI p1,sI p2,sI p3,sI p4,sI r1,sI r2,sI r3,sI r4,sI r5,sI r6,sI r7,sI nn,sR b426,.val .null,.val .null] [.null,.null] (fun t k => XS.aload X545.here hx rfl (hb hby at_441) rfl rfl k) ?_
                refine gv T545 446 #[sI p0,sI p1,sI p2,sI p3,sI p4,sI r1,sI r2,sI r3,sI r4,sI r5,sI r6,sI r7,sI nn,sR b426,.val .null,.val .null] [] (fun t k => Jvm.RoadKit.acmp (g := (mkF m 443 #[sI p0,sI p1,sI p2,sI p3,sI p4,sI r1,sI r2,sI r3,sI r4,sI r5,sI r6,sI r7,sI nn,sR b426,.val .null,.val .null] [.null,.null])) X545 hx rfl rfl rfl (pc0 := 443) (pc' := 446) (same := true) rfl (hb hby at_443) rfl (decide_eq_true rfl) (by decide) (by decide) k) ?_
                refine gv T545 447 #[sI p0,sI p1,sI p2,sI p3,sI p4,sI r1,sI r2,sI r3,sI r4,sI r5,sI r6,sI r7,sI nn,sR b426,.val .null,.val .null] [(.int 1)] (fun t k => XS.iconst X545.here hx rfl (hb hby at_446) k) ?_
                refine gv T545 451 #[sI p0,sI p1,sI p2,sI p3,sI p4,sI r1,sI r2,sI r3,sI r4,sI r5,sI r6,sI r7,sI nn,sR b426,.val .null,.val .null] [(.int 1)] (fun t k => XS.goto X545.here hx rfl (pc0 := 447) (pc' := 451) rfl (hb hby at_447) (by decide) (by decide) k) ?_
                exact own_retW X545 hx Bd.notSynchronized Bd.returns rfl (Or.inl ⟨rfl,by simp,_,rfl⟩) (hb hby at_451) eq545 hS491 hk529 hZ (own_EW hw) CR529 hh ⟨rfl,N545⟩ (by decide) (by decide)
            · refine gv T7 284 #[sI p0,sI p1,sI p2,sI p3,sI p4,sI r1,sI r2,sI r3,sI r4,sI r5,sI r6,sI r7,sI nn,sU,sU,sU] [] (fun t k => XS.icmpYes X7.here hx rfl (pc0 := 241) (pc' := 284) rfl (hb hby at_241) rfl (feq hc425).2 (by decide) (by decide) k) ?_
              refine gv T7 286 #[sI p0,sI p1,sI p2,sI p3,sI p4,sI r1,sI r2,sI r3,sI r4,sI r5,sI r6,sI r7,sI nn,sU,sU,sU] [(.int nn)] (fun t k => XS.iload X7.here hx rfl (hb hby at_284) rfl k) ?_
              refine gv T7 288 #[sI p0,sI p1,sI p2,sI p3,sI p4,sI r1,sI r2,sI r3,sI r4,sI r5,sI r6,sI r7,sI nn,sU,sU,sU] [(.int 6),(.int nn)] (fun t k => XS.bipush X7.here hx rfl (hb hby at_286) k) ?_
              by_cases hc547 : (nn = (6 : Int32))
              · refine gv T7 291 #[sI p0,sI p1,sI p2,sI p3,sI p4,sI r1,sI r2,sI r3,sI r4,sI r5,sI r6,sI r7,sI nn,sU,sU,sU] [] (fun t k => XS.icmpNo X7.here hx rfl (hb hby at_288) rfl (teq hc547).2 k) ?_
                obtain ⟨T548,h548,X548,e548,E548,A548,D548,-,st548⟩ := newO X7 hx hZ hown (w_ hw 50 rfl) (w_ hw 9 rfl) (w_ hw 8 rfl) rfl (g := (mkF m 291 #[sI p0,sI p1,sI p2,sI p3,sI p4,sI r1,sI r2,sI r3,sI r4,sI r5,sI r6,sI r7,sI nn,sU,sU,sU] [])) rfl (hb hby at_291) (by decide) (by decide)
                obtain ⟨b548,g548⟩ : ∃ z,z = T7.heap.size := ⟨_,rfl⟩
                rw [← g548] at A548 D548 st548
                have cr548 := CHr.ext E548 CH7
                have CR548 := CR7.trans cr548
                have CH548 := cr548.1
                have hk548 := Nat.le_trans hk7 cr548.2.1
                have K548 := Keep.ext K7 E548
                have Z548 := Nat.le_trans Z0 K548.1
                have g_b548 : n0 ≤ b548 := Nat.le_trans Z7 (Nat.le_of_eq g548.symm)
                have sz_b548 : h0.size ≤ b548 := Nat.le_trans (K7).1 (Nat.le_of_eq g548.symm)
                have f549 : Exa Z h548 b548 "java/lang/String" := A548
                have f550 := Safe.ext E548 CH7 (Safe.new (Nat.le_of_eq g548.symm))
                have f551 : Fld Z h548 b548 "java/lang/String" "value" "[B" .null := D548 (Or.inr (w_ hw 11 rfl)) (ty := (.array .byte)) (by decide)
                have f552 : Fld Z h548 b548 "java/lang/String" "coder" "B" (.int 0) := D548 (Or.inr (w_ hw 12 rfl)) (ty := .byte) (by decide)
                refine gv T548 294 #[sI p0,sI p1,sI p2,sI p3,sI p4,sI r1,sI r2,sI r3,sI r4,sI r5,sI r6,sI r7,sI nn,sU,sU,sU] [(.ref b548)] (fun t k => st548 _ k) ?_
                refine gv T548 295 #[sI p0,sI p1,sI p2,sI p3,sI p4,sI r1,sI r2,sI r3,sI r4,sI r5,sI r6,sI r7,sI nn,sU,sU,sU] [(.ref b548),(.ref b548)] (fun t k => XS.dup X548.here hx rfl (hb hby at_294) rfl rfl k) ?_
                refine gv T548 297 #[sI p0,sI p1,sI p2,sI p3,sI p4,sI r1,sI r2,sI r3,sI r4,sI r5,sI r6,sI r7,sI nn,sU,sU,sU] [(.int 6),(.ref b548),(.ref b548)] (fun t k => XS.bipush X548.here hx rfl (hb hby at_295) k) ?_
                obtain ⟨T553,h553,k553,X553,e553,E553,A553,st553⟩ := newP X548 hx hZ (w_ hw 51 rfl) e548 (g := (mkF m 297 #[sI p0,sI p1,sI p2,sI p3,sI p4,sI r1,sI r2,sI r3,sI r4,sI r5,sI r6,sI r7,sI nn,sU,sU,sU] [(.int 6),(.ref b548),(.ref b548)])) rfl (hb hby at_297) rfl (by decide) (cap := 6) (by decide) (by decide) (by decide) (by decide)
                obtain ⟨b553,g553⟩ : ∃ z,z = h548.size := ⟨_,rfl⟩
                rw [← g553] at A553 st553
                have f554 := f549.ext E553
                have f555 := Safe.ext E553 CH548 f550
                have f556 := f551.ext E553
                have f557 := f552.ext E553
                have cr553 := CHr.ext E553 CH548
                have CR553 := CR548.trans cr553
                have CH553 := cr553.1
                have hk553 := Nat.le_trans hk548 cr553.2.1
                have K553 := Keep.ext K548 E553
                have Z553 := Nat.le_trans Z0 K553.1
                have g_b553 : n0 ≤ b553 := Nat.le_trans Z548 (Nat.le_of_eq g553.symm)
                have sz_b553 : h0.size ≤ b553 := Nat.le_trans (K548).1 (Nat.le_of_eq g553.symm)
                have ne_b548_b553 : b548 ≠ b553 := Nat.ne_of_lt (Nat.lt_of_lt_of_le f549.lt (Nat.le_of_eq g553.symm))
                have f558 : Arv Z h553 b553 k553 .char (6 : Int32) [(.int 0),(.int 0),(.int 0),(.int 0),(.int 0),(.int 0)] (.int 0) := (Arv.new A553 (by decide)).pad (pad_rep [] (.int 0) 6)
                have f559 := Safe.ext E553 CH548 (Safe.new (Nat.le_of_eq g553.symm))
                refine gv T553 299 #[sI p0,sI p1,sI p2,sI p3,sI p4,sI r1,sI r2,sI r3,sI r4,sI r5,sI r6,sI r7,sI nn,sU,sU,sU] [(.ref b553),(.ref b548),(.ref b548)] (fun t k => st553 _ k) ?_
                refine gv T553 300 #[sI p0,sI p1,sI p2,sI p3,sI p4,sI r1,sI r2,sI r3,sI r4,sI r5,sI r6,sI r7,sI nn,sU,sU,sU] [(.ref b553),(.ref b553),(.ref b548),(.ref b548)] (fun t k => XS.dup X553.here hx rfl (hb hby at_299) rfl rfl k) ?_
                refine gv T553 301 #[sI p0,sI p1,sI p2,sI p3,sI p4,sI r1,sI r2,sI r3,sI r4,sI r5,sI r6,sI r7,sI nn,sU,sU,sU] [(.int 0),(.ref b553),(.ref b553),(.ref b548),(.ref b548)] (fun t k => XS.iconst X553.here hx rfl (hb hby at_300) k) ?_
                refine gv T553 303 #[sI p0,sI p1,sI p2,sI p3,sI p4,sI r1,sI r2,sI r3,sI r4,sI r5,sI r6,sI r7,sI nn,sU,sU,sU] [(.int r1),(.int 0),(.ref b553),(.ref b553),(.ref b548),(.ref b548)] (fun t k => XS.iload X553.here hx rfl (hb hby at_301) rfl k) ?_
                obtain ⟨cl560,Ar560,q560,S560,M560,Hs560,G560⟩ := id f558
                have hin560 : ¬ ((0 : Int32) < 0 ∨ cl560.slots.size ≤ ((0 : Int32)).toNatClampNeg) := inb_of S560 ⟨by decide,by decide⟩
                obtain ⟨T560,h560,X560,e560,W560,st560⟩ := stC X553 hx hZ e553 Ar560 (j := (0 : Int32)) hin560 (g := (mkF m 303 #[sI p0,sI p1,sI p2,sI p3,sI p4,sI r1,sI r2,sI r3,sI r4,sI r5,sI r6,sI r7,sI nn,sU,sU,sU] [(.int r1),(.int 0),(.ref b553),(.ref b553),(.ref b548),(.ref b548)])) rfl rfl (hb hby at_303)
                have f561 := f554.wr W560
                have f562 := Safe.wr W560 f559 CH553 f555
                have f563 := f556.other W560 (Or.inl ne_b548_b553)
                have f564 := f557.other W560 (Or.inl ne_b548_b553)
                have f565 := Safe.wr W560 f559 CH553 f559
                have f566 : Arv Z h560 b553 k553 .char (6 : Int32) [(.int (nar .char r1)),(.int 0),(.int 0),(.int 0),(.int 0),(.int 0)] (.int 0) := Arv.set Ar560 q560 S560 M560 Hs560 G560 (fits_nar_char _) W560 0 rfl (Nat.le_of_ble_eq_true rfl)
                have cr560 := CHr.wr W560 f559 CH553
                have CR560 := CR553.trans cr560
                have CH560 := cr560.1
                have hk560 := Nat.le_trans hk553 cr560.2.1
                have K560 := Keep.wr K553 W560 (Or.inr sz_b553)
                have Z560 := Nat.le_trans Z0 K560.1
                have N560 := Fr.snoc X560 N7 g_b553
                refine gv T560 304 #[sI p0,sI p1,sI p2,sI p3,sI p4,sI r1,sI r2,sI r3,sI r4,sI r5,sI r6,sI r7,sI nn,sU,sU,sU] [(.ref b553),(.ref b548),(.ref b548)] (fun t k => st560 _ k) ?_
                refine gv T560 305 #[sI p0,sI p1,sI p2,sI p3,sI p4,sI r1,sI r2,sI r3,sI r4,sI r5,sI r6,sI r7,sI nn,sU,sU,sU] [(.ref b553),(.ref b553),(.ref b548),(.ref b548)] (fun t k => XS.dup X560.here hx rfl (hb hby at_304) rfl rfl k) ?_
                refine gv T560 306 #[sI p0,sI p1,sI p2,sI p3,sI p4,sI r1,sI r2,sI r3,sI r4,sI r5,sI r6,sI r7,sI nn,sU,sU,sU] [(.int 1),(.ref b553),(.ref b553),(.ref b548),(.ref b548)] (fun t k => XS.iconst X560.here hx rfl (hb hby at_305) k) ?_
                refine gv T560 308 #[sI p0,sI p1,sI p2,sI p3,sI p4,sI r1,sI r2,sI r3,sI r4,sI r5,sI r6,sI r7,sI nn,sU,sU,sU] [(.int r2),(.int 1),(.ref b553),(.ref b553),(.ref b548),(.ref b548)] (fun t k => XS.iload X560.here hx rfl (hb hby at_306) rfl k) ?_
                obtain ⟨cl567,Ar567,q567,S567,M567,Hs567,G567⟩ := id f566
                have hin567 : ¬ ((1 : Int32) < 0 ∨ cl567.slots.size ≤ ((1 : Int32)).toNatClampNeg) := inb_of S567 ⟨by decide,by decide⟩
                obtain ⟨T567,h567,X567,e567,W567,st567⟩ := stC X560 hx hZ e560 Ar567 (j := (1 : Int32)) hin567 (g := (mkF m 308 #[sI p0,sI p1,sI p2,sI p3,sI p4,sI r1,sI r2,sI r3,sI r4,sI r5,sI r6,sI r7,sI nn,sU,sU,sU] [(.int r2),(.int 1),(.ref b553),(.ref b553),(.ref b548),(.ref b548)])) rfl rfl (hb hby at_308)
                have f568 := f561.wr W567
                have f569 := Safe.wr W567 f565 CH560 f562
                have f570 := f563.other W567 (Or.inl ne_b548_b553)
                have f571 := f564.other W567 (Or.inl ne_b548_b553)
                have f572 := Safe.wr W567 f565 CH560 f565
                have f573 : Arv Z h567 b553 k553 .char (6 : Int32) [(.int (nar .char r1)),(.int (nar .char r2)),(.int 0),(.int 0),(.int 0),(.int 0)] (.int 0) := Arv.set Ar567 q567 S567 M567 Hs567 G567 (fits_nar_char _) W567 1 rfl (Nat.le_of_ble_eq_true rfl)
                have cr567 := CHr.wr W567 f565 CH560
                have CR567 := CR560.trans cr567
                have CH567 := cr567.1
                have hk567 := Nat.le_trans hk560 cr567.2.1
                have K567 := Keep.wr K560 W567 (Or.inr sz_b553)
                have Z567 := Nat.le_trans Z0 K567.1
                have N567 := Fr.snoc X567 N560 g_b553
                refine gv T567 309 #[sI p0,sI p1,sI p2,sI p3,sI p4,sI r1,sI r2,sI r3,sI r4,sI r5,sI r6,sI r7,sI nn,sU,sU,sU] [(.ref b553),(.ref b548),(.ref b548)] (fun t k => st567 _ k) ?_
                refine gv T567 310 #[sI p0,sI p1,sI p2,sI p3,sI p4,sI r1,sI r2,sI r3,sI r4,sI r5,sI r6,sI r7,sI nn,sU,sU,sU] [(.ref b553),(.ref b553),(.ref b548),(.ref b548)] (fun t k => XS.dup X567.here hx rfl (hb hby at_309) rfl rfl k) ?_
                refine gv T567 311 #[sI p0,sI p1,sI p2,sI p3,sI p4,sI r1,sI r2,sI r3,sI r4,sI r5,sI r6,sI r7,sI nn,sU,sU,sU] [(.int 2),(.ref b553),(.ref b553),(.ref b548),(.ref b548)] (fun t k => XS.iconst X567.here hx rfl (hb hby at_310) k) ?_
                refine gv T567 313 #[sI p0,sI p1,sI p2,sI p3,sI p4,sI r1,sI r2,sI r3,sI r4,sI r5,sI r6,sI r7,sI nn,sU,sU,sU] [(.int r3),(.int 2),(.ref b553),(.ref b553),(.ref b548),(.ref b548)] (fun t k => XS.iload X567.here hx rfl (hb hby at_311) rfl k) ?_
                obtain ⟨cl574,Ar574,q574,S574,M574,Hs574,G574⟩ := id f573
                have hin574 : ¬ ((2 : Int32) < 0 ∨ cl574.slots.size ≤ ((2 : Int32)).toNatClampNeg) := inb_of S574 ⟨by decide,by decide⟩
                obtain ⟨T574,h574,X574,e574,W574,st574⟩ := stC X567 hx hZ e567 Ar574 (j := (2 : Int32)) hin574 (g := (mkF m 313 #[sI p0,sI p1,sI p2,sI p3,sI p4,sI r1,sI r2,sI r3,sI r4,sI r5,sI r6,sI r7,sI nn,sU,sU,sU] [(.int r3),(.int 2),(.ref b553),(.ref b553),(.ref b548),(.ref b548)])) rfl rfl (hb hby at_313)
                have f575 := f568.wr W574
                have f576 := Safe.wr W574 f572 CH567 f569
                have f577 := f570.other W574 (Or.inl ne_b548_b553)
                have f578 := f571.other W574 (Or.inl ne_b548_b553)
                have f579 := Safe.wr W574 f572 CH567 f572
                have f580 : Arv Z h574 b553 k553 .char (6 : Int32) [(.int (nar .char r1)),(.int (nar .char r2)),(.int (nar .char r3)),(.int 0),(.int 0),(.int 0)] (.int 0) := Arv.set Ar574 q574 S574 M574 Hs574 G574 (fits_nar_char _) W574 2 rfl (Nat.le_of_ble_eq_true rfl)
                have cr574 := CHr.wr W574 f572 CH567
                have CR574 := CR567.trans cr574
                have CH574 := cr574.1
                have hk574 := Nat.le_trans hk567 cr574.2.1
                have K574 := Keep.wr K567 W574 (Or.inr sz_b553)
                have Z574 := Nat.le_trans Z0 K574.1
                have N574 := Fr.snoc X574 N567 g_b553
                refine gv T574 314 #[sI p0,sI p1,sI p2,sI p3,sI p4,sI r1,sI r2,sI r3,sI r4,sI r5,sI r6,sI r7,sI nn,sU,sU,sU] [(.ref b553),(.ref b548),(.ref b548)] (fun t k => st574 _ k) ?_
                refine gv T574 315 #[sI p0,sI p1,sI p2,sI p3,sI p4,sI r1,sI r2,sI r3,sI r4,sI r5,sI r6,sI r7,sI nn,sU,sU,sU] [(.ref b553),(.ref b553),(.ref b548),(.ref b548)] (fun t k => XS.dup X574.here hx rfl (hb hby at_314) rfl rfl k) ?_
                refine gv T574 316 #[sI p0,sI p1,sI p2,sI p3,sI p4,sI r1,sI r2,sI r3,sI r4,sI r5,sI r6,sI r7,sI nn,sU,sU,sU] [(.int 3),(.ref b553),(.ref b553),(.ref b548),(.ref b548)] (fun t k => XS.iconst X574.here hx rfl (hb hby at_315) k) ?_
                refine gv T574 318 #[sI p0,sI p1,sI p2,sI p3,sI p4,sI r1,sI r2,sI r3,sI r4,sI r5,sI r6,sI r7,sI nn,sU,sU,sU] [(.int r4),(.int 3),(.ref b553),(.ref b553),(.ref b548),(.ref b548)] (fun t k => XS.iload X574.here hx rfl (hb hby at_316) rfl k) ?_
                obtain ⟨cl581,Ar581,q581,S581,M581,Hs581,G581⟩ := id f580
                have hin581 : ¬ ((3 : Int32) < 0 ∨ cl581.slots.size ≤ ((3 : Int32)).toNatClampNeg) := inb_of S581 ⟨by decide,by decide⟩
                obtain ⟨T581,h581,X581,e581,W581,st581⟩ := stC X574 hx hZ e574 Ar581 (j := (3 : Int32)) hin581 (g := (mkF m 318 #[sI p0,sI p1,sI p2,sI p3,sI p4,sI r1,sI r2,sI r3,sI r4,sI r5,sI r6,sI r7,sI nn,sU,sU,sU] [(.int r4),(.int 3),(.ref b553),(.ref b553),(.ref b548),(.ref b548)])) rfl rfl (hb hby at_318)
                have f582 := f575.wr W581
                have f583 := Safe.wr W581 f579 CH574 f576
                have f584 := f577.other W581 (Or.inl ne_b548_b553)
                have f585 := f578.other W581 (Or.inl ne_b548_b553)
                have f586 := Safe.wr W581 f579 CH574 f579
                have f587 : Arv Z h581 b553 k553 .char (6 : Int32) [(.int (nar .char r1)),(.int (nar .char r2)),(.int (nar .char r3)),(.int (nar .char r4)),(.int 0),(.int 0)] (.int 0) := Arv.set Ar581 q581 S581 M581 Hs581 G581 (fits_nar_char _) W581 3 rfl (Nat.le_of_ble_eq_true rfl)
                have cr581 := CHr.wr W581 f579 CH574
                have CR581 := CR574.trans cr581
                have CH581 := cr581.1
                have hk581 := Nat.le_trans hk574 cr581.2.1
                have K581 := Keep.wr K574 W581 (Or.inr sz_b553)
                have Z581 := Nat.le_trans Z0 K581.1
                have N581 := Fr.snoc X581 N574 g_b553
                refine gv T581 319 #[sI p0,sI p1,sI p2,sI p3,sI p4,sI r1,sI r2,sI r3,sI r4,sI r5,sI r6,sI r7,sI nn,sU,sU,sU] [(.ref b553),(.ref b548),(.ref b548)] (fun t k => st581 _ k) ?_
                refine gv T581 320 #[sI p0,sI p1,sI p2,sI p3,sI p4,sI r1,sI r2,sI r3,sI r4,sI r5,sI r6,sI r7,sI nn,sU,sU,sU] [(.ref b553),(.ref b553),(.ref b548),(.ref b548)] (fun t k => XS.dup X581.here hx rfl (hb hby at_319) rfl rfl k) ?_
                refine gv T581 321 #[sI p0,sI p1,sI p2,sI p3,sI p4,sI r1,sI r2,sI r3,sI r4,sI r5,sI r6,sI r7,sI nn,sU,sU,sU] [(.int 4),(.ref b553),(.ref b553),(.ref b548),(.ref b548)] (fun t k => XS.iconst X581.here hx rfl (hb hby at_320) k) ?_
                refine gv T581 323 #[sI p0,sI p1,sI p2,sI p3,sI p4,sI r1,sI r2,sI r3,sI r4,sI r5,sI r6,sI r7,sI nn,sU,sU,sU] [(.int r5),(.int 4),(.ref b553),(.ref b553),(.ref b548),(.ref b548)] (fun t k => XS.iload X581.here hx rfl (hb hby at_321) rfl k) ?_
                obtain ⟨cl588,Ar588,q588,S588,M588,Hs588,G588⟩ := id f587
                have hin588 : ¬ ((4 : Int32) < 0 ∨ cl588.slots.size ≤ ((4 : Int32)).toNatClampNeg) := inb_of S588 ⟨by decide,by decide⟩
                obtain ⟨T588,h588,X588,e588,W588,st588⟩ := stC X581 hx hZ e581 Ar588 (j := (4 : Int32)) hin588 (g := (mkF m 323 #[sI p0,sI p1,sI p2,sI p3,sI p4,sI r1,sI r2,sI r3,sI r4,sI r5,sI r6,sI r7,sI nn,sU,sU,sU] [(.int r5),(.int 4),(.ref b553),(.ref b553),(.ref b548),(.ref b548)])) rfl rfl (hb hby at_323)
                have f589 := f582.wr W588
                have f590 := Safe.wr W588 f586 CH581 f583
                have f591 := f584.other W588 (Or.inl ne_b548_b553)
                have f592 := f585.other W588 (Or.inl ne_b548_b553)
                have f593 := Safe.wr W588 f586 CH581 f586
                have f594 : Arv Z h588 b553 k553 .char (6 : Int32) [(.int (nar .char r1)),(.int (nar .char r2)),(.int (nar .char r3)),(.int (nar .char r4)),(.int (nar .char r5)),(.int 0)] (.int 0) := Arv.set Ar588 q588 S588 M588 Hs588 G588 (fits_nar_char _) W588 4 rfl (Nat.le_of_ble_eq_true rfl)
                have cr588 := CHr.wr W588 f586 CH581
                have CR588 := CR581.trans cr588
                have CH588 := cr588.1
                have hk588 := Nat.le_trans hk581 cr588.2.1
                have K588 := Keep.wr K581 W588 (Or.inr sz_b553)
                have Z588 := Nat.le_trans Z0 K588.1
                have N588 := Fr.snoc X588 N581 g_b553
                refine gv T588 324 #[sI p0,sI p1,sI p2,sI p3,sI p4,sI r1,sI r2,sI r3,sI r4,sI r5,sI r6,sI r7,sI nn,sU,sU,sU] [(.ref b553),(.ref b548),(.ref b548)] (fun t k => st588 _ k) ?_
                refine gv T588 325 #[sI p0,sI p1,sI p2,sI p3,sI p4,sI r1,sI r2,sI r3,sI r4,sI r5,sI r6,sI r7,sI nn,sU,sU,sU] [(.ref b553),(.ref b553),(.ref b548),(.ref b548)] (fun t k => XS.dup X588.here hx rfl (hb hby at_324) rfl rfl k) ?_
                refine gv T588 326 #[sI p0,sI p1,sI p2,sI p3,sI p4,sI r1,sI r2,sI r3,sI r4,sI r5,sI r6,sI r7,sI nn,sU,sU,sU] [(.int 5),(.ref b553),(.ref b553),(.ref b548),(.ref b548)] (fun t k => XS.iconst X588.here hx rfl (hb hby at_325) k) ?_
                refine gv T588 328 #[sI p0,sI p1,sI p2,sI p3,sI p4,sI r1,sI r2,sI r3,sI r4,sI r5,sI r6,sI r7,sI nn,sU,sU,sU] [(.int r6),(.int 5),(.ref b553),(.ref b553),(.ref b548),(.ref b548)] (fun t k => XS.iload X588.here hx rfl (hb hby at_326) rfl k) ?_
                obtain ⟨cl595,Ar595,q595,S595,M595,Hs595,G595⟩ := id f594
                have hin595 : ¬ ((5 : Int32) < 0 ∨ cl595.slots.size ≤ ((5 : Int32)).toNatClampNeg) := inb_of S595 ⟨by decide,by decide⟩
                obtain ⟨T595,h595,X595,e595,W595,st595⟩ := stC X588 hx hZ e588 Ar595 (j := (5 : Int32)) hin595 (g := (mkF m 328 #[sI p0,sI p1,sI p2,sI p3,sI p4,sI r1,sI r2,sI r3,sI r4,sI r5,sI r6,sI r7,sI nn,sU,sU,sU] [(.int r6),(.int 5),(.ref b553),(.ref b553),(.ref b548),(.ref b548)])) rfl rfl (hb hby at_328)
                have f596 := f589.wr W595
                have f597 := Safe.wr W595 f593 CH588 f590
                have f598 := f591.other W595 (Or.inl ne_b548_b553)
                have f599 := f592.other W595 (Or.inl ne_b548_b553)
                have f600 := Safe.wr W595 f593 CH588 f593
                have f601 : Arv Z h595 b553 k553 .char (6 : Int32) [(.int (nar .char r1)),(.int (nar .char r2)),(.int (nar .char r3)),(.int (nar .char r4)),(.int (nar .char r5)),(.int (nar .char r6))] (.int 0) := Arv.set Ar595 q595 S595 M595 Hs595 G595 (fits_nar_char _) W595 5 rfl (Nat.le_of_ble_eq_true rfl)
                have cr595 := CHr.wr W595 f593 CH588
                have CR595 := CR588.trans cr595
                have CH595 := cr595.1
                have hk595 := Nat.le_trans hk588 cr595.2.1
                have K595 := Keep.wr K588 W595 (Or.inr sz_b553)
                have Z595 := Nat.le_trans Z0 K595.1
                have N595 := Fr.snoc X595 N588 g_b553
                refine gv T595 329 #[sI p0,sI p1,sI p2,sI p3,sI p4,sI r1,sI r2,sI r3,sI r4,sI r5,sI r6,sI r7,sI nn,sU,sU,sU] [(.ref b553),(.ref b548),(.ref b548)] (fun t k => st595 _ k) ?_
                obtain ⟨_,_,⟨T602,L602,k602,n602⟩,-,X602,⟨Lc602,hQ602,l602,y602,z602⟩,st602⟩ := X595.specialBack hx (y := (⟨"java/lang/String","<init>","([C)V"⟩ : MethodName)) rfl hown (mvT hZ (w_ hw 52 rfl)) (mvT hZ (w_ hw 53 rfl)) (mvT hZ (w_ hw 54 rfl)) (by decide) (backOf (W := 1) (rm106 l Z a0 hw [] b548 b553 k553 wc (.int 0) .null (nar .char r1) (nar .char r2) (nar .char r3) (nar .char r4) (nar .char r5) (nar .char r6) h595 n0 Z595 f596 f599 f598 f601 (own_staKeep f0_COMPACT_STRINGS K595 all0) ne_b548_b553 g_b548 (own_ncR hr1) (own_ncR hr2) (own_ncR hr3) (own_ncR hr4) (own_ncR hr5) (own_ncR hr6) hwc) hZ (w_ hw 54 rfl) (w_ hw 8 rfl) (by decide) (by decide)) (g := (mkF m 329 #[sI p0,sI p1,sI p2,sI p3,sI p4,sI r1,sI r2,sI r3,sI r4,sI r5,sI r6,sI r7,sI nn,sU,sU,sU] [(.ref b553),(.ref b548),(.ref b548)])) rfl (by rw [hml]; rfl) (Steps.refl _) (a := b548) (argsL := [(.ref b553)]) (rest := [(.ref b548)]) (lenOf pd_20 rfl) rfl (own_rm rfl) (hb hby at_329) (fun _ _ => ⟨rfl,e595,(by decide : 16 + 1 ≤ _),(by decide : 178 + 6 ≤ _)⟩)
                dsimp only [Pt.U, Pt.locs, Pt.cells, Pt.slots] at X602 l602 y602 z602 st602 hQ602
                replace X602 := own_cast X602 l602 y602 z602
                obtain ⟨yb_602,kb_602,rfl,N602q,K602q,po602_0,po602_1,po602_2,po602_3,px602_g_yb,px602_sz_yb⟩ := hQ602
                have N602 := Fr.app N595 N602q
                have f603 := f596.keep K602q
                have f604 := Safe.keep K602q (allS f597 all0) CH595 f597
                have f605 := Safe.keep K602q (allS f597 all0) CH595 f600
                have f606 := f601.keep K602q (ninS (Ne.symm ne_b548_b553) nin0)
                have cr602 := CHr.keep K602q (allS f597 all0) CH595
                have CR602 := CR595.trans cr602
                have CH602 := cr602.1
                have hk602 := Nat.le_trans hk595 cr602.2.1
                have K602 := Keep.trans K595 K602q (allS (Or.inr sz_b548) all0)
                have Z602 := Nat.le_trans Z0 K602.1
                have g_yb_602 := px602_g_yb
                have sz_yb_602 : h0.size ≤ yb_602 := Nat.le_trans (K595).1 px602_sz_yb
                have ne_b548_yb_602 : b548 ≠ yb_602 := Nat.ne_of_lt (Nat.lt_of_lt_of_le f596.lt px602_sz_yb)
                have ne_b553_yb_602 : b553 ≠ yb_602 := Nat.ne_of_lt (Nat.lt_of_lt_of_le f601.lt px602_sz_yb)
                refine gv T602 332 #[sI p0,sI p1,sI p2,sI p3,sI p4,sI r1,sI r2,sI r3,sI r4,sI r5,sI r6,sI r7,sI nn,sU,sU,sU] [(.ref b548)] (fun t k => st602.trans k) ?_
                refine gv T602 334 #[sI p0,sI p1,sI p2,sI p3,sI p4,sI r1,sI r2,sI r3,sI r4,sI r5,sI r6,sI r7,sI nn,sR b548,sU,sU] [] (fun t k => XS.astore X602.here hx rfl (hb hby at_332) rfl rfl (l' := #[sI p0,sI p1,sI p2,sI p3,sI p4,sI r1,sI r2,sI r3,sI r4,sI r5,sI r6,sI r7,sI nn,sR b548,sU,sU]) rfl k) ?_
                refine gv T602 386 #[sI p0,sI p1,sI p2,sI p3,sI p4,sI r1,sI r2,sI r3,sI r4,sI r5,sI r6,sI r7,sI nn,sR b548,sU,sU] [] (fun t k => XS.goto X602.here hx rfl (pc0 := 334) (pc' := 386) rfl (hb hby at_334) (by decide) (by decide) k) ?_
                refine gv T602 388 #[sI p0,sI p1,sI p2,sI p3,sI p4,sI r1,sI r2,sI r3,sI r4,sI r5,sI r6,sI r7,sI nn,sR b548,sU,sU] [(.ref b548)] (fun t k => XS.aload X602.here hx rfl (hb hby at_386) rfl rfl k) ?_
                obtain ⟨b607,T607,h607,kz607,d607,k607,X607,e607,E607,hS607,hk607,hZ,hown,A607,C607,V607,R607,lta607,ltb607,cr607,Lt607,Nn607,st607⟩ := ldcCH X602 hx hZ hown (w_ hw 7 rfl) (own_wS hw) rfl hS7 hk602 (own_EW hw) (own_mem (by decide)) CH602 (vs := [(.int 100),(.int 97),(.int 121)]) (z := (3 : Int32)) ⟨by decide,rfl⟩ (by decide) rfl (g := (mkF m 388 #[sI p0,sI p1,sI p2,sI p3,sI p4,sI r1,sI r2,sI r3,sI r4,sI r5,sI r6,sI r7,sI nn,sR b548,sU,sU] [(.ref b548)])) rfl (hb hby at_388) (n := 12) (by decide) (by decide) (by decide) (by decide)
                have f608 := po602_0.ext E607
                have f609 := f606.ext E607
                have f610 := po602_1.ext E607
                have f611 := po602_2.ext E607
                have f612 := po602_3.ext E607
                have CR607 := CR602.trans cr607
                have CH607 := cr607.1
                have f613 := CHr.safe cr607 po602_0.lt f604
                have f614 := CHr.safe cr607 f606.lt f605
                have K607 := Keep.ext K602 E607
                have Z607 := Nat.le_trans Z0 K607.1
                have f615 : Exa Z h607 b607 "java/lang/String" := A607
                have f616 : Fld Z h607 b607 "java/lang/String" "coder" "B" (.int 0) := C607
                have f617 : Fld Z h607 b607 "java/lang/String" "value" "[B" (.ref d607) := V607
                have f618 : Arv Z h607 d607 k607 .byte (3 : Int32) [(.int 100),(.int 97),(.int 121)] (.int 0) := R607
                refine gv T607 390 #[sI p0,sI p1,sI p2,sI p3,sI p4,sI r1,sI r2,sI r3,sI r4,sI r5,sI r6,sI r7,sI nn,sR b548,sU,sU] [(.ref b607),(.ref b548)] (fun t k => st607 _ k) ?_
                obtain ⟨cq619,kq619,q619a,q619b,q619c⟩ := isOf hZ e607 f608
                obtain ⟨_,_,⟨T619,L619,k619,n619⟩,-,X619,⟨Lc619,hQ619,l619,y619,z619⟩,st619⟩ := X607.virtualBack hx (y := (⟨"java/lang/String","equals","(Ljava/lang/Object;)Z"⟩ : MethodName)) (z := (⟨"java/lang/String","equals","(Ljava/lang/Object;)Z"⟩ : MethodName)) hown (mvT hZ (w_ hw 72 rfl)) (mvT hZ (w_ hw 73 rfl)) (notFace_of_selects (args := #[]) (mvT hZ (w_ hw 75 rfl))) (mvT hZ (w_ hw 75 rfl)) (mvT hZ (w_ hw 74 rfl)) (by decide) (backOf (W := 0) (rm16x l Z a0 hw [] b548 b607 yb_602 d607 kb_602 k607 (6 : Int32) (3 : Int32) ([(.int (bN r1)),(.int (bN r2)),(.int (bN r3)),(.int (bN r4)),(.int (bN r5)),(.int (bN r6))] : List Value) ([(.int 100),(.int 97),(.int 121)] : List Value) wc h607 n0 Z607 f608 f610 f611 f612 f615 f616 f617 f618 (own_staKeep f0_COMPACT_STRINGS K607 all0) (Nn607 _ f613).1 (by decide) hwc) hZ (w_ hw 76 rfl) (w_ hw 8 rfl) (by decide) (by decide)) q619a q619c (g := (mkF m 390 #[sI p0,sI p1,sI p2,sI p3,sI p4,sI r1,sI r2,sI r3,sI r4,sI r5,sI r6,sI r7,sI nn,sR b548,sU,sU] [(.ref b607),(.ref b548)])) rfl (by rw [hml]; rfl) (Steps.refl _) (argsL := [(.ref b607)]) (rest := []) (lenOf pd_16 rfl) rfl (own_rm rfl) (hb hby at_390) (fun _ _ => ⟨rfl,e607,(by decide : 19 + 0 ≤ _),(by decide : 200 + 0 ≤ _)⟩)
                dsimp only [Pt.U, Pt.locs, Pt.cells, Pt.slots] at X619 l619 y619 z619 st619 hQ619
                replace X619 := own_cast X619 l619 y619 z619
                obtain ⟨rfl,N619q,eq619⟩ := hQ619
                have N619 := Fr.app N602 N619q
                refine gv T619 393 #[sI p0,sI p1,sI p2,sI p3,sI p4,sI r1,sI r2,sI r3,sI r4,sI r5,sI r6,sI r7,sI nn,sR b548,sU,sU] [(.int 0)] (fun t k => st619.trans k) ?_
                refine gv T619 404 #[sI p0,sI p1,sI p2,sI p3,sI p4,sI r1,sI r2,sI r3,sI r4,sI r5,sI r6,sI r7,sI nn,sR b548,sU,sU] [] (fun t k => XS.ifYes X619.here hx rfl (pc0 := 393) (pc' := 404) rfl (hb hby at_393) rfl ((if0 _ _).trans (teq rfl).1) (by decide) (by decide) k) ?_
                refine gv T619 406 #[sI p0,sI p1,sI p2,sI p3,sI p4,sI r1,sI r2,sI r3,sI r4,sI r5,sI r6,sI r7,sI nn,sR b548,sU,sU] [(.ref b548)] (fun t k => XS.aload X619.here hx rfl (hb hby at_404) rfl rfl k) ?_
                obtain ⟨b620,T620,h620,kz620,d620,k620,X620,e620,E620,hS620,hk620,hZ,hown,A620,C620,V620,R620,lta620,ltb620,cr620,Lt620,Nn620,st620⟩ := ldcCH X619 hx hZ hown (w_ hw 130 rfl) (own_wS hw) eq619 hS607 hk607 (own_EW hw) (own_mem (by decide)) CH607 (vs := [(.int 109),(.int 111),(.int 110),(.int 116),(.int 104)]) (z := (5 : Int32)) ⟨by decide,rfl⟩ (by decide) rfl (g := (mkF m 406 #[sI p0,sI p1,sI p2,sI p3,sI p4,sI r1,sI r2,sI r3,sI r4,sI r5,sI r6,sI r7,sI nn,sR b548,sU,sU] [(.ref b548)])) rfl (hb hby at_406) (n := 20) (by decide) (by decide) (by decide) (by decide)
                have f621 := f608.ext E620
                have f622 := f609.ext E620
                have f623 := f610.ext E620
                have f624 := f611.ext E620
                have f625 := f612.ext E620
                have f626 := f615.ext E620
                have f627 := f616.ext E620
                have f628 := f617.ext E620
                have f629 := f618.ext E620
                have CR620 := CR607.trans cr620
                have CH620 := cr620.1
                have f630 := CHr.safe cr620 f608.lt f613
                have f631 := CHr.safe cr620 f609.lt f614
                have K620 := Keep.ext K607 E620
                have Z620 := Nat.le_trans Z0 K620.1
                have f632 : Exa Z h620 b620 "java/lang/String" := A620
                have f633 : Fld Z h620 b620 "java/lang/String" "coder" "B" (.int 0) := C620
                have f634 : Fld Z h620 b620 "java/lang/String" "value" "[B" (.ref d620) := V620
                have f635 : Arv Z h620 d620 k620 .byte (5 : Int32) [(.int 109),(.int 111),(.int 110),(.int 116),(.int 104)] (.int 0) := R620
                refine gv T620 408 #[sI p0,sI p1,sI p2,sI p3,sI p4,sI r1,sI r2,sI r3,sI r4,sI r5,sI r6,sI r7,sI nn,sR b548,sU,sU] [(.ref b620),(.ref b548)] (fun t k => st620 _ k) ?_
                obtain ⟨cq636,kq636,q636a,q636b,q636c⟩ := isOf hZ e620 f621
                obtain ⟨_,_,⟨T636,L636,k636,n636⟩,-,X636,⟨Lc636,hQ636,l636,y636,z636⟩,st636⟩ := X620.virtualBack hx (y := (⟨"java/lang/String","equals","(Ljava/lang/Object;)Z"⟩ : MethodName)) (z := (⟨"java/lang/String","equals","(Ljava/lang/Object;)Z"⟩ : MethodName)) hown (mvT hZ (w_ hw 72 rfl)) (mvT hZ (w_ hw 73 rfl)) (notFace_of_selects (args := #[]) (mvT hZ (w_ hw 75 rfl))) (mvT hZ (w_ hw 75 rfl)) (mvT hZ (w_ hw 74 rfl)) (by decide) (backOf (W := 0) (rm16x l Z a0 hw [] b548 b620 yb_602 d620 kb_602 k620 (6 : Int32) (5 : Int32) ([(.int (bN r1)),(.int (bN r2)),(.int (bN r3)),(.int (bN r4)),(.int (bN r5)),(.int (bN r6))] : List Value) ([(.int 109),(.int 111),(.int 110),(.int 116),(.int 104)] : List Value) wc h620 n0 Z620 f621 f623 f624 f625 f632 f633 f634 f635 (own_staKeep f0_COMPACT_STRINGS K620 all0) (Nn620 _ f630).1 (by decide) hwc) hZ (w_ hw 76 rfl) (w_ hw 8 rfl) (by decide) (by decide)) q636a q636c (g := (mkF m 408 #[sI p0,sI p1,sI p2,sI p3,sI p4,sI r1,sI r2,sI r3,sI r4,sI r5,sI r6,sI r7,sI nn,sR b548,sU,sU] [(.ref b620),(.ref b548)])) rfl (by rw [hml]; rfl) (Steps.refl _) (argsL := [(.ref b620)]) (rest := []) (lenOf pd_16 rfl) rfl (own_rm rfl) (hb hby at_408) (fun _ _ => ⟨rfl,e620,(by decide : 21 + 0 ≤ _),(by decide : 224 + 0 ≤ _)⟩)
                dsimp only [Pt.U, Pt.locs, Pt.cells, Pt.slots] at X636 l636 y636 z636 st636 hQ636
                replace X636 := own_cast X636 l636 y636 z636
                obtain ⟨rfl,N636q,eq636⟩ := hQ636
                have N636 := Fr.app N619 N636q
                refine gv T636 411 #[sI p0,sI p1,sI p2,sI p3,sI p4,sI r1,sI r2,sI r3,sI r4,sI r5,sI r6,sI r7,sI nn,sR b548,sU,sU] [(.int 0)] (fun t k => st636.trans k) ?_
                refine gv T636 422 #[sI p0,sI p1,sI p2,sI p3,sI p4,sI r1,sI r2,sI r3,sI r4,sI r5,sI r6,sI r7,sI nn,sR b548,sU,sU] [] (fun t k => XS.ifYes X636.here hx rfl (pc0 := 411) (pc' := 422) rfl (hb hby at_411) rfl ((if0 _ _).trans (teq rfl).1) (by decide) (by decide) k) ?_
                refine gv T636 423 #[sI p0,sI p1,sI p2,sI p3,sI p4,sI r1,sI r2,sI r3,sI r4,sI r5,sI r6,sI r7,sI nn,sR b548,sU,sU] [.null] (fun t k => XS.aconstNull X636.here hx rfl (hb hby at_422) k) ?_
                refine gv T636 425 #[sI p0,sI p1,sI p2,sI p3,sI p4,sI r1,sI r2,sI r3,sI r4,sI r5,sI r6,sI r7,sI nn,sR b548,.val .null,sU] [] (fun t k => XS.astore X636.here hx rfl (hb hby at_423) rfl rfl (l' := #[sI p0,sI p1,sI p2,sI p3,sI p4,sI r1,sI r2,sI r3,sI r4,sI r5,sI r6,sI r7,sI nn,sR b548,.val .null,sU]) rfl k) ?_
                refine gv T636 427 #[sI p0,sI p1,sI p2,sI p3,sI p4,sI r1,sI r2,sI r3,sI r4,sI r5,sI r6,sI r7,sI nn,sR b548,.val .null,sU] [(.ref b548)] (fun t k => XS.aload X636.here hx rfl (hb hby at_425) rfl rfl k) ?_
                obtain ⟨_,_,⟨T637,L637,k637,n637⟩,-,X637,⟨Lc637,hQ637,l637,y637,z637⟩,st637⟩ := Jvm.LawKit.callS X636 hx (y := (⟨"com/example/tallyman/tallyman/ledger/Period","named","(Ljava/lang/String;)Ljava/util/Optional;"⟩ : MethodName)) hown (mvT hZ (w_ hw 84 rfl)) (mvT hZ (w_ hw 85 rfl)) (mvT hZ (w_ hw 82 rfl)) (mvT hZ (w_ hw 86 rfl)) (by decide) (backOf (W := 0) (rm18x l Z a0 hw [] b548 yV kV dd mm td bd kd tm bm km oe wc yb_602 kb_602 (6 : Int32) ([(.int (bN r1)),(.int (bN r2)),(.int (bN r3)),(.int (bN r4)),(.int (bN r5)),(.int (bN r6))] : List Value) h620 n0 Z620 (own_staKeep f4__VALUES K620 all0) (f5_yV.keep K620 nin0) (f6_yV.keep K620) (f9_dd_text.keep K620 nin0) (f10_td.keep K620) (f11_td_coder.keep K620 nin0) (f12_td_value.keep K620 nin0) (f13_bd.keep K620 nin0) (f14_mm_text.keep K620 nin0) (f15_tm.keep K620) (f16_tm_coder.keep K620 nin0) (f17_tm_value.keep K620 nin0) (f18_bm.keep K620 nin0) (own_staKeep f19_EMPTY K620 all0) (own_staKeep f0_COMPACT_STRINGS K620 all0) f621 f623 f624 f625 (Nat.ne_of_lt (Nat.lt_of_lt_of_le f10_td.lt sz_b548)) (Nat.ne_of_lt (Nat.lt_of_lt_of_le f15_tm.lt sz_b548)) hwc (by decide) (by decide)) hZ (w_ hw 86 rfl) (w_ hw 82 rfl) (by decide) (by decide)) (g := (mkF m 427 #[sI p0,sI p1,sI p2,sI p3,sI p4,sI r1,sI r2,sI r3,sI r4,sI r5,sI r6,sI r7,sI nn,sR b548,.val .null,sU] [(.ref b548)])) rfl (by rw [hml]; rfl) (argsL := [(.ref b548)]) (rest := []) (lenOf pd_21 rfl) rfl (own_rm rfl) (hb hby at_427) (fun _ _ => ⟨rfl,eq636,(by decide : 21 + 1 ≤ _),(by decide : 224 + 2 ≤ _)⟩)
                dsimp only [Pt.U, Pt.locs, Pt.cells, Pt.slots] at X637 l637 y637 z637 st637 hQ637
                replace X637 := own_cast X637 l637 y637 z637
                obtain ⟨rfl,N637q,K637q⟩ := hQ637
                have N637 := Fr.app N636 N637q
                have f638 := f621.keep K637q
                have f639 := f622.keep K637q nin0
                have f640 := f623.keep K637q nin0
                have f641 := f624.keep K637q nin0
                have f642 := f625.keep K637q nin0
                have f643 := f626.keep K637q
                have f644 := f627.keep K637q nin0
                have f645 := f628.keep K637q nin0
                have f646 := f629.keep K637q nin0
                have f647 := Safe.keep K637q all0 CH620 f630
                have f648 := Safe.keep K637q all0 CH620 f631
                have f649 := f632.keep K637q
                have f650 := f633.keep K637q nin0
                have f651 := f634.keep K637q nin0
                have f652 := f635.keep K637q nin0
                have cr637 := CHr.keep K637q all0 CH620
                have CR637 := CR620.trans cr637
                have CH637 := cr637.1
                have hk637 := Nat.le_trans hk620 cr637.2.1
                have K637 := Keep.trans K620 K637q all0
                have Z637 := Nat.le_trans Z0 K637.1
                refine gv T637 430 #[sI p0,sI p1,sI p2,sI p3,sI p4,sI r1,sI r2,sI r3,sI r4,sI r5,sI r6,sI r7,sI nn,sR b548,.val .null,sU] [(.ref oe)] (fun t k => st637 _ k) ?_
                refine gv T637 431 #[sI p0,sI p1,sI p2,sI p3,sI p4,sI r1,sI r2,sI r3,sI r4,sI r5,sI r6,sI r7,sI nn,sR b548,.val .null,sU] [.null,(.ref oe)] (fun t k => XS.aconstNull X637.here hx rfl (hb hby at_430) k) ?_
                obtain ⟨cq653,kq653,q653a,q653b,q653c⟩ := isOf hZ rfl (f20_oe.keep K637)
                obtain ⟨_,_,⟨T653,L653,k653,n653⟩,-,X653,⟨Lc653,hQ653,l653,y653,z653⟩,st653⟩ := X637.virtualBack hx (y := (⟨"java/util/Optional","orElse","(Ljava/lang/Object;)Ljava/lang/Object;"⟩ : MethodName)) (z := (⟨"java/util/Optional","orElse","(Ljava/lang/Object;)Ljava/lang/Object;"⟩ : MethodName)) hown (mvT hZ (w_ hw 123 rfl)) (mvT hZ (w_ hw 124 rfl)) (notFace_of_selects (args := #[]) (mvT hZ (w_ hw 126 rfl))) (mvT hZ (w_ hw 126 rfl)) (mvT hZ (w_ hw 125 rfl)) (by decide) (backOf (W := 0) (rm23n l Z a0 hw [] oe T637.heap n0 Z637 (f21_oe_value.keep K637 nin0)) hZ (w_ hw 127 rfl) (w_ hw 108 rfl) (by decide) (by decide)) q653a q653c (g := (mkF m 431 #[sI p0,sI p1,sI p2,sI p3,sI p4,sI r1,sI r2,sI r3,sI r4,sI r5,sI r6,sI r7,sI nn,sR b548,.val .null,sU] [.null,(.ref oe)])) rfl (by rw [hml]; rfl) (Steps.refl _) (argsL := [.null]) (rest := []) (lenOf pd_13 rfl) rfl (own_rm rfl) (hb hby at_431) (fun _ _ => ⟨rfl,rfl,(by decide : 22 + 0 ≤ _),(by decide : 226 + 0 ≤ _)⟩)
                dsimp only [Pt.U, Pt.locs, Pt.cells, Pt.slots] at X653 l653 y653 z653 st653 hQ653
                replace X653 := own_cast X653 l653 y653 z653
                obtain ⟨rfl,N653q,eq653⟩ := hQ653
                have N653 := Fr.app N637 N653q
                refine gv T653 434 #[sI p0,sI p1,sI p2,sI p3,sI p4,sI r1,sI r2,sI r3,sI r4,sI r5,sI r6,sI r7,sI nn,sR b548,.val .null,sU] [.null] (fun t k => st653.trans k) ?_
                refine gv T653 437 #[sI p0,sI p1,sI p2,sI p3,sI p4,sI r1,sI r2,sI r3,sI r4,sI r5,sI r6,sI r7,sI nn,sR b548,.val .null,sU] [.null] (fun t k => X653.checkcastNull hx (g := (mkF m 434 #[sI p0,sI p1,sI p2,sI p3,sI p4,sI r1,sI r2,sI r3,sI r4,sI r5,sI r6,sI r7,sI nn,sR b548,.val .null,sU] [.null])) rfl rfl (hb hby at_434) _ k) ?_
                refine gv T653 439 #[sI p0,sI p1,sI p2,sI p3,sI p4,sI r1,sI r2,sI r3,sI r4,sI r5,sI r6,sI r7,sI nn,sR b548,.val .null,.val .null] [] (fun t k => XS.astore X653.here hx rfl (hb hby at_437) rfl rfl (l' := #[sI p0,sI p1,sI p2,sI p3,sI p4,sI r1,sI r2,sI r3,sI r4,sI r5,sI r6,sI r7,sI nn,sR b548,.val .null,.val .null]) rfl k) ?_
                refine gv T653 441 #[sI p0,sI p1,sI p2,sI p3,sI p4,sI r1,sI r2,sI r3,sI r4,sI r5,sI r6,sI r7,sI nn,sR b548,.val .null,.val .null] [.null] (fun t k => XS.aload X653.here hx rfl (hb hby at_439) rfl rfl k) ?_
                refine gv T653 443 #[sI p0,sI p1,sI p2,sI p3,sI p4,sI r1,sI r2,sI r3,sI r4,sI r5,sI r6,sI r7,sI nn,sR b548,.val .null,.val .null] [.null,.null] (fun t k => XS.aload X653.here hx rfl (hb hby at_441) rfl rfl k) ?_
                refine gv T653 446 #[sI p0,sI p1,sI p2,sI p3,sI p4,sI r1,sI r2,sI r3,sI r4,sI r5,sI r6,sI r7,sI nn,sR b548,.val .null,.val .null] [] (fun t k => Jvm.RoadKit.acmp (g := (mkF m 443 #[sI p0,sI p1,sI p2,sI p3,sI p4,sI r1,sI r2,sI r3,sI r4,sI r5,sI r6,sI r7,sI nn,sR b548,.val .null,.val .null] [.null,.null])) X653 hx rfl rfl rfl (pc0 := 443) (pc' := 446) (same := true) rfl (hb hby at_443) rfl (decide_eq_true rfl) (by decide) (by decide) k) ?_
                refine gv T653 447 #[sI p0,sI p1,sI p2,sI p3,sI p4,sI r1,sI r2,sI r3,sI r4,sI r5,sI r6,sI r7,sI nn,sR b548,.val .null,.val .null] [(.int 1)] (fun t k => XS.iconst X653.here hx rfl (hb hby at_446) k) ?_
                refine gv T653 451 #[sI p0,sI p1,sI p2,sI p3,sI p4,sI r1,sI r2,sI r3,sI r4,sI r5,sI r6,sI r7,sI nn,sR b548,.val .null,.val .null] [(.int 1)] (fun t k => XS.goto X653.here hx rfl (pc0 := 447) (pc' := 451) rfl (hb hby at_447) (by decide) (by decide) k) ?_
                exact own_retW X653 hx Bd.notSynchronized Bd.returns rfl (Or.inl ⟨rfl,by simp,_,rfl⟩) (hb hby at_451) eq653 hS620 hk637 hZ (own_EW hw) CR637 hh ⟨rfl,N653⟩ (by decide) (by decide)
              · refine gv T7 337 #[sI p0,sI p1,sI p2,sI p3,sI p4,sI r1,sI r2,sI r3,sI r4,sI r5,sI r6,sI r7,sI nn,sU,sU,sU] [] (fun t k => XS.icmpYes X7.here hx rfl (pc0 := 288) (pc' := 337) rfl (hb hby at_288) rfl (feq hc547).2 (by decide) (by decide) k) ?_
                obtain ⟨T655,h655,X655,e655,E655,A655,D655,-,st655⟩ := newO X7 hx hZ hown (w_ hw 50 rfl) (w_ hw 9 rfl) (w_ hw 8 rfl) rfl (g := (mkF m 337 #[sI p0,sI p1,sI p2,sI p3,sI p4,sI r1,sI r2,sI r3,sI r4,sI r5,sI r6,sI r7,sI nn,sU,sU,sU] [])) rfl (hb hby at_337) (by decide) (by decide)
                obtain ⟨b655,g655⟩ : ∃ z,z = T7.heap.size := ⟨_,rfl⟩
                rw [← g655] at A655 D655 st655
                have cr655 := CHr.ext E655 CH7
                have CR655 := CR7.trans cr655
                have CH655 := cr655.1
                have hk655 := Nat.le_trans hk7 cr655.2.1
                have K655 := Keep.ext K7 E655
                have Z655 := Nat.le_trans Z0 K655.1
                have g_b655 : n0 ≤ b655 := Nat.le_trans Z7 (Nat.le_of_eq g655.symm)
                have sz_b655 : h0.size ≤ b655 := Nat.le_trans (K7).1 (Nat.le_of_eq g655.symm)
                have f656 : Exa Z h655 b655 "java/lang/String" := A655
                have f657 := Safe.ext E655 CH7 (Safe.new (Nat.le_of_eq g655.symm))
                have f658 : Fld Z h655 b655 "java/lang/String" "value" "[B" .null := D655 (Or.inr (w_ hw 11 rfl)) (ty := (.array .byte)) (by decide)
                have f659 : Fld Z h655 b655 "java/lang/String" "coder" "B" (.int 0) := D655 (Or.inr (w_ hw 12 rfl)) (ty := .byte) (by decide)
                refine gv T655 340 #[sI p0,sI p1,sI p2,sI p3,sI p4,sI r1,sI r2,sI r3,sI r4,sI r5,sI r6,sI r7,sI nn,sU,sU,sU] [(.ref b655)] (fun t k => st655 _ k) ?_
                refine gv T655 341 #[sI p0,sI p1,sI p2,sI p3,sI p4,sI r1,sI r2,sI r3,sI r4,sI r5,sI r6,sI r7,sI nn,sU,sU,sU] [(.ref b655),(.ref b655)] (fun t k => XS.dup X655.here hx rfl (hb hby at_340) rfl rfl k) ?_
                refine gv T655 343 #[sI p0,sI p1,sI p2,sI p3,sI p4,sI r1,sI r2,sI r3,sI r4,sI r5,sI r6,sI r7,sI nn,sU,sU,sU] [(.int 7),(.ref b655),(.ref b655)] (fun t k => XS.bipush X655.here hx rfl (hb hby at_341) k) ?_
                obtain ⟨T660,h660,k660,X660,e660,E660,A660,st660⟩ := newP X655 hx hZ (w_ hw 51 rfl) e655 (g := (mkF m 343 #[sI p0,sI p1,sI p2,sI p3,sI p4,sI r1,sI r2,sI r3,sI r4,sI r5,sI r6,sI r7,sI nn,sU,sU,sU] [(.int 7),(.ref b655),(.ref b655)])) rfl (hb hby at_343) rfl (by decide) (cap := 7) (by decide) (by decide) (by decide) (by decide)
                obtain ⟨b660,g660⟩ : ∃ z,z = h655.size := ⟨_,rfl⟩
                rw [← g660] at A660 st660
                have f661 := f656.ext E660
                have f662 := Safe.ext E660 CH655 f657
                have f663 := f658.ext E660
                have f664 := f659.ext E660
                have cr660 := CHr.ext E660 CH655
                have CR660 := CR655.trans cr660
                have CH660 := cr660.1
                have hk660 := Nat.le_trans hk655 cr660.2.1
                have K660 := Keep.ext K655 E660
                have Z660 := Nat.le_trans Z0 K660.1
                have g_b660 : n0 ≤ b660 := Nat.le_trans Z655 (Nat.le_of_eq g660.symm)
                have sz_b660 : h0.size ≤ b660 := Nat.le_trans (K655).1 (Nat.le_of_eq g660.symm)
                have ne_b655_b660 : b655 ≠ b660 := Nat.ne_of_lt (Nat.lt_of_lt_of_le f656.lt (Nat.le_of_eq g660.symm))
                have f665 : Arv Z h660 b660 k660 .char (7 : Int32) [(.int 0),(.int 0),(.int 0),(.int 0),(.int 0),(.int 0),(.int 0)] (.int 0) := (Arv.new A660 (by decide)).pad (pad_rep [] (.int 0) 7)
                have f666 := Safe.ext E660 CH655 (Safe.new (Nat.le_of_eq g660.symm))
                refine gv T660 345 #[sI p0,sI p1,sI p2,sI p3,sI p4,sI r1,sI r2,sI r3,sI r4,sI r5,sI r6,sI r7,sI nn,sU,sU,sU] [(.ref b660),(.ref b655),(.ref b655)] (fun t k => st660 _ k) ?_
                refine gv T660 346 #[sI p0,sI p1,sI p2,sI p3,sI p4,sI r1,sI r2,sI r3,sI r4,sI r5,sI r6,sI r7,sI nn,sU,sU,sU] [(.ref b660),(.ref b660),(.ref b655),(.ref b655)] (fun t k => XS.dup X660.here hx rfl (hb hby at_345) rfl rfl k) ?_
                refine gv T660 347 #[sI p0,sI p1,sI p2,sI p3,sI p4,sI r1,sI r2,sI r3,sI r4,sI r5,sI r6,sI r7,sI nn,sU,sU,sU] [(.int 0),(.ref b660),(.ref b660),(.ref b655),(.ref b655)] (fun t k => XS.iconst X660.here hx rfl (hb hby at_346) k) ?_
                refine gv T660 349 #[sI p0,sI p1,sI p2,sI p3,sI p4,sI r1,sI r2,sI r3,sI r4,sI r5,sI r6,sI r7,sI nn,sU,sU,sU] [(.int r1),(.int 0),(.ref b660),(.ref b660),(.ref b655),(.ref b655)] (fun t k => XS.iload X660.here hx rfl (hb hby at_347) rfl k) ?_
                obtain ⟨cl667,Ar667,q667,S667,M667,Hs667,G667⟩ := id f665
                have hin667 : ¬ ((0 : Int32) < 0 ∨ cl667.slots.size ≤ ((0 : Int32)).toNatClampNeg) := inb_of S667 ⟨by decide,by decide⟩
                obtain ⟨T667,h667,X667,e667,W667,st667⟩ := stC X660 hx hZ e660 Ar667 (j := (0 : Int32)) hin667 (g := (mkF m 349 #[sI p0,sI p1,sI p2,sI p3,sI p4,sI r1,sI r2,sI r3,sI r4,sI r5,sI r6,sI r7,sI nn,sU,sU,sU] [(.int r1),(.int 0),(.ref b660),(.ref b660),(.ref b655),(.ref b655)])) rfl rfl (hb hby at_349)
                have f668 := f661.wr W667
                have f669 := Safe.wr W667 f666 CH660 f662
                have f670 := f663.other W667 (Or.inl ne_b655_b660)
                have f671 := f664.other W667 (Or.inl ne_b655_b660)
                have f672 := Safe.wr W667 f666 CH660 f666
                have f673 : Arv Z h667 b660 k660 .char (7 : Int32) [(.int (nar .char r1)),(.int 0),(.int 0),(.int 0),(.int 0),(.int 0),(.int 0)] (.int 0) := Arv.set Ar667 q667 S667 M667 Hs667 G667 (fits_nar_char _) W667 0 rfl (Nat.le_of_ble_eq_true rfl)
                have cr667 := CHr.wr W667 f666 CH660
                have CR667 := CR660.trans cr667
                have CH667 := cr667.1
                have hk667 := Nat.le_trans hk660 cr667.2.1
                have K667 := Keep.wr K660 W667 (Or.inr sz_b660)
                have Z667 := Nat.le_trans Z0 K667.1
                have N667 := Fr.snoc X667 N7 g_b660
                refine gv T667 350 #[sI p0,sI p1,sI p2,sI p3,sI p4,sI r1,sI r2,sI r3,sI r4,sI r5,sI r6,sI r7,sI nn,sU,sU,sU] [(.ref b660),(.ref b655),(.ref b655)] (fun t k => st667 _ k) ?_
                refine gv T667 351 #[sI p0,sI p1,sI p2,sI p3,sI p4,sI r1,sI r2,sI r3,sI r4,sI r5,sI r6,sI r7,sI nn,sU,sU,sU] [(.ref b660),(.ref b660),(.ref b655),(.ref b655)] (fun t k => XS.dup X667.here hx rfl (hb hby at_350) rfl rfl k) ?_
                refine gv T667 352 #[sI p0,sI p1,sI p2,sI p3,sI p4,sI r1,sI r2,sI r3,sI r4,sI r5,sI r6,sI r7,sI nn,sU,sU,sU] [(.int 1),(.ref b660),(.ref b660),(.ref b655),(.ref b655)] (fun t k => XS.iconst X667.here hx rfl (hb hby at_351) k) ?_
                refine gv T667 354 #[sI p0,sI p1,sI p2,sI p3,sI p4,sI r1,sI r2,sI r3,sI r4,sI r5,sI r6,sI r7,sI nn,sU,sU,sU] [(.int r2),(.int 1),(.ref b660),(.ref b660),(.ref b655),(.ref b655)] (fun t k => XS.iload X667.here hx rfl (hb hby at_352) rfl k) ?_
                obtain ⟨cl674,Ar674,q674,S674,M674,Hs674,G674⟩ := id f673
                have hin674 : ¬ ((1 : Int32) < 0 ∨ cl674.slots.size ≤ ((1 : Int32)).toNatClampNeg) := inb_of S674 ⟨by decide,by decide⟩
                obtain ⟨T674,h674,X674,e674,W674,st674⟩ := stC X667 hx hZ e667 Ar674 (j := (1 : Int32)) hin674 (g := (mkF m 354 #[sI p0,sI p1,sI p2,sI p3,sI p4,sI r1,sI r2,sI r3,sI r4,sI r5,sI r6,sI r7,sI nn,sU,sU,sU] [(.int r2),(.int 1),(.ref b660),(.ref b660),(.ref b655),(.ref b655)])) rfl rfl (hb hby at_354)
                have f675 := f668.wr W674
                have f676 := Safe.wr W674 f672 CH667 f669
                have f677 := f670.other W674 (Or.inl ne_b655_b660)
                have f678 := f671.other W674 (Or.inl ne_b655_b660)
                have f679 := Safe.wr W674 f672 CH667 f672
                have f680 : Arv Z h674 b660 k660 .char (7 : Int32) [(.int (nar .char r1)),(.int (nar .char r2)),(.int 0),(.int 0),(.int 0),(.int 0),(.int 0)] (.int 0) := Arv.set Ar674 q674 S674 M674 Hs674 G674 (fits_nar_char _) W674 1 rfl (Nat.le_of_ble_eq_true rfl)
                have cr674 := CHr.wr W674 f672 CH667
                have CR674 := CR667.trans cr674
                have CH674 := cr674.1
                have hk674 := Nat.le_trans hk667 cr674.2.1
                have K674 := Keep.wr K667 W674 (Or.inr sz_b660)
                have Z674 := Nat.le_trans Z0 K674.1
                have N674 := Fr.snoc X674 N667 g_b660
                refine gv T674 355 #[sI p0,sI p1,sI p2,sI p3,sI p4,sI r1,sI r2,sI r3,sI r4,sI r5,sI r6,sI r7,sI nn,sU,sU,sU] [(.ref b660),(.ref b655),(.ref b655)] (fun t k => st674 _ k) ?_
                refine gv T674 356 #[sI p0,sI p1,sI p2,sI p3,sI p4,sI r1,sI r2,sI r3,sI r4,sI r5,sI r6,sI r7,sI nn,sU,sU,sU] [(.ref b660),(.ref b660),(.ref b655),(.ref b655)] (fun t k => XS.dup X674.here hx rfl (hb hby at_355) rfl rfl k) ?_
                refine gv T674 357 #[sI p0,sI p1,sI p2,sI p3,sI p4,sI r1,sI r2,sI r3,sI r4,sI r5,sI r6,sI r7,sI nn,sU,sU,sU] [(.int 2),(.ref b660),(.ref b660),(.ref b655),(.ref b655)] (fun t k => XS.iconst X674.here hx rfl (hb hby at_356) k) ?_
                refine gv T674 359 #[sI p0,sI p1,sI p2,sI p3,sI p4,sI r1,sI r2,sI r3,sI r4,sI r5,sI r6,sI r7,sI nn,sU,sU,sU] [(.int r3),(.int 2),(.ref b660),(.ref b660),(.ref b655),(.ref b655)] (fun t k => XS.iload X674.here hx rfl (hb hby at_357) rfl k) ?_
                obtain ⟨cl681,Ar681,q681,S681,M681,Hs681,G681⟩ := id f680
                have hin681 : ¬ ((2 : Int32) < 0 ∨ cl681.slots.size ≤ ((2 : Int32)).toNatClampNeg) := inb_of S681 ⟨by decide,by decide⟩
                obtain ⟨T681,h681,X681,e681,W681,st681⟩ := stC X674 hx hZ e674 Ar681 (j := (2 : Int32)) hin681 (g := (mkF m 359 #[sI p0,sI p1,sI p2,sI p3,sI p4,sI r1,sI r2,sI r3,sI r4,sI r5,sI r6,sI r7,sI nn,sU,sU,sU] [(.int r3),(.int 2),(.ref b660),(.ref b660),(.ref b655),(.ref b655)])) rfl rfl (hb hby at_359)
                have f682 := f675.wr W681
                have f683 := Safe.wr W681 f679 CH674 f676
                have f684 := f677.other W681 (Or.inl ne_b655_b660)
                have f685 := f678.other W681 (Or.inl ne_b655_b660)
                have f686 := Safe.wr W681 f679 CH674 f679
                have f687 : Arv Z h681 b660 k660 .char (7 : Int32) [(.int (nar .char r1)),(.int (nar .char r2)),(.int (nar .char r3)),(.int 0),(.int 0),(.int 0),(.int 0)] (.int 0) := Arv.set Ar681 q681 S681 M681 Hs681 G681 (fits_nar_char _) W681 2 rfl (Nat.le_of_ble_eq_true rfl)
                have cr681 := CHr.wr W681 f679 CH674
                have CR681 := CR674.trans cr681
                have CH681 := cr681.1
                have hk681 := Nat.le_trans hk674 cr681.2.1
                have K681 := Keep.wr K674 W681 (Or.inr sz_b660)
                have Z681 := Nat.le_trans Z0 K681.1
                have N681 := Fr.snoc X681 N674 g_b660
                refine gv T681 360 #[sI p0,sI p1,sI p2,sI p3,sI p4,sI r1,sI r2,sI r3,sI r4,sI r5,sI r6,sI r7,sI nn,sU,sU,sU] [(.ref b660),(.ref b655),(.ref b655)] (fun t k => st681 _ k) ?_
                refine gv T681 361 #[sI p0,sI p1,sI p2,sI p3,sI p4,sI r1,sI r2,sI r3,sI r4,sI r5,sI r6,sI r7,sI nn,sU,sU,sU] [(.ref b660),(.ref b660),(.ref b655),(.ref b655)] (fun t k => XS.dup X681.here hx rfl (hb hby at_360) rfl rfl k) ?_
                refine gv T681 362 #[sI p0,sI p1,sI p2,sI p3,sI p4,sI r1,sI r2,sI r3,sI r4,sI r5,sI r6,sI r7,sI nn,sU,sU,sU] [(.int 3),(.ref b660),(.ref b660),(.ref b655),(.ref b655)] (fun t k => XS.iconst X681.here hx rfl (hb hby at_361) k) ?_
                refine gv T681 364 #[sI p0,sI p1,sI p2,sI p3,sI p4,sI r1,sI r2,sI r3,sI r4,sI r5,sI r6,sI r7,sI nn,sU,sU,sU] [(.int r4),(.int 3),(.ref b660),(.ref b660),(.ref b655),(.ref b655)] (fun t k => XS.iload X681.here hx rfl (hb hby at_362) rfl k) ?_
                obtain ⟨cl688,Ar688,q688,S688,M688,Hs688,G688⟩ := id f687
                have hin688 : ¬ ((3 : Int32) < 0 ∨ cl688.slots.size ≤ ((3 : Int32)).toNatClampNeg) := inb_of S688 ⟨by decide,by decide⟩
                obtain ⟨T688,h688,X688,e688,W688,st688⟩ := stC X681 hx hZ e681 Ar688 (j := (3 : Int32)) hin688 (g := (mkF m 364 #[sI p0,sI p1,sI p2,sI p3,sI p4,sI r1,sI r2,sI r3,sI r4,sI r5,sI r6,sI r7,sI nn,sU,sU,sU] [(.int r4),(.int 3),(.ref b660),(.ref b660),(.ref b655),(.ref b655)])) rfl rfl (hb hby at_364)
                have f689 := f682.wr W688
                have f690 := Safe.wr W688 f686 CH681 f683
                have f691 := f684.other W688 (Or.inl ne_b655_b660)
                have f692 := f685.other W688 (Or.inl ne_b655_b660)
                have f693 := Safe.wr W688 f686 CH681 f686
                have f694 : Arv Z h688 b660 k660 .char (7 : Int32) [(.int (nar .char r1)),(.int (nar .char r2)),(.int (nar .char r3)),(.int (nar .char r4)),(.int 0),(.int 0),(.int 0)] (.int 0) := Arv.set Ar688 q688 S688 M688 Hs688 G688 (fits_nar_char _) W688 3 rfl (Nat.le_of_ble_eq_true rfl)
                have cr688 := CHr.wr W688 f686 CH681
                have CR688 := CR681.trans cr688
                have CH688 := cr688.1
                have hk688 := Nat.le_trans hk681 cr688.2.1
                have K688 := Keep.wr K681 W688 (Or.inr sz_b660)
                have Z688 := Nat.le_trans Z0 K688.1
                have N688 := Fr.snoc X688 N681 g_b660
                refine gv T688 365 #[sI p0,sI p1,sI p2,sI p3,sI p4,sI r1,sI r2,sI r3,sI r4,sI r5,sI r6,sI r7,sI nn,sU,sU,sU] [(.ref b660),(.ref b655),(.ref b655)] (fun t k => st688 _ k) ?_
                refine gv T688 366 #[sI p0,sI p1,sI p2,sI p3,sI p4,sI r1,sI r2,sI r3,sI r4,sI r5,sI r6,sI r7,sI nn,sU,sU,sU] [(.ref b660),(.ref b660),(.ref b655),(.ref b655)] (fun t k => XS.dup X688.here hx rfl (hb hby at_365) rfl rfl k) ?_
                refine gv T688 367 #[sI p0,sI p1,sI p2,sI p3,sI p4,sI r1,sI r2,sI r3,sI r4,sI r5,sI r6,sI r7,sI nn,sU,sU,sU] [(.int 4),(.ref b660),(.ref b660),(.ref b655),(.ref b655)] (fun t k => XS.iconst X688.here hx rfl (hb hby at_366) k) ?_
                refine gv T688 369 #[sI p0,sI p1,sI p2,sI p3,sI p4,sI r1,sI r2,sI r3,sI r4,sI r5,sI r6,sI r7,sI nn,sU,sU,sU] [(.int r5),(.int 4),(.ref b660),(.ref b660),(.ref b655),(.ref b655)] (fun t k => XS.iload X688.here hx rfl (hb hby at_367) rfl k) ?_
                obtain ⟨cl695,Ar695,q695,S695,M695,Hs695,G695⟩ := id f694
                have hin695 : ¬ ((4 : Int32) < 0 ∨ cl695.slots.size ≤ ((4 : Int32)).toNatClampNeg) := inb_of S695 ⟨by decide,by decide⟩
                obtain ⟨T695,h695,X695,e695,W695,st695⟩ := stC X688 hx hZ e688 Ar695 (j := (4 : Int32)) hin695 (g := (mkF m 369 #[sI p0,sI p1,sI p2,sI p3,sI p4,sI r1,sI r2,sI r3,sI r4,sI r5,sI r6,sI r7,sI nn,sU,sU,sU] [(.int r5),(.int 4),(.ref b660),(.ref b660),(.ref b655),(.ref b655)])) rfl rfl (hb hby at_369)
                have f696 := f689.wr W695
                have f697 := Safe.wr W695 f693 CH688 f690
                have f698 := f691.other W695 (Or.inl ne_b655_b660)
                have f699 := f692.other W695 (Or.inl ne_b655_b660)
                have f700 := Safe.wr W695 f693 CH688 f693
                have f701 : Arv Z h695 b660 k660 .char (7 : Int32) [(.int (nar .char r1)),(.int (nar .char r2)),(.int (nar .char r3)),(.int (nar .char r4)),(.int (nar .char r5)),(.int 0),(.int 0)] (.int 0) := Arv.set Ar695 q695 S695 M695 Hs695 G695 (fits_nar_char _) W695 4 rfl (Nat.le_of_ble_eq_true rfl)
                have cr695 := CHr.wr W695 f693 CH688
                have CR695 := CR688.trans cr695
                have CH695 := cr695.1
                have hk695 := Nat.le_trans hk688 cr695.2.1
                have K695 := Keep.wr K688 W695 (Or.inr sz_b660)
                have Z695 := Nat.le_trans Z0 K695.1
                have N695 := Fr.snoc X695 N688 g_b660
                refine gv T695 370 #[sI p0,sI p1,sI p2,sI p3,sI p4,sI r1,sI r2,sI r3,sI r4,sI r5,sI r6,sI r7,sI nn,sU,sU,sU] [(.ref b660),(.ref b655),(.ref b655)] (fun t k => st695 _ k) ?_
                refine gv T695 371 #[sI p0,sI p1,sI p2,sI p3,sI p4,sI r1,sI r2,sI r3,sI r4,sI r5,sI r6,sI r7,sI nn,sU,sU,sU] [(.ref b660),(.ref b660),(.ref b655),(.ref b655)] (fun t k => XS.dup X695.here hx rfl (hb hby at_370) rfl rfl k) ?_
                refine gv T695 372 #[sI p0,sI p1,sI p2,sI p3,sI p4,sI r1,sI r2,sI r3,sI r4,sI r5,sI r6,sI r7,sI nn,sU,sU,sU] [(.int 5),(.ref b660),(.ref b660),(.ref b655),(.ref b655)] (fun t k => XS.iconst X695.here hx rfl (hb hby at_371) k) ?_
                refine gv T695 374 #[sI p0,sI p1,sI p2,sI p3,sI p4,sI r1,sI r2,sI r3,sI r4,sI r5,sI r6,sI r7,sI nn,sU,sU,sU] [(.int r6),(.int 5),(.ref b660),(.ref b660),(.ref b655),(.ref b655)] (fun t k => XS.iload X695.here hx rfl (hb hby at_372) rfl k) ?_
                obtain ⟨cl702,Ar702,q702,S702,M702,Hs702,G702⟩ := id f701
                have hin702 : ¬ ((5 : Int32) < 0 ∨ cl702.slots.size ≤ ((5 : Int32)).toNatClampNeg) := inb_of S702 ⟨by decide,by decide⟩
                obtain ⟨T702,h702,X702,e702,W702,st702⟩ := stC X695 hx hZ e695 Ar702 (j := (5 : Int32)) hin702 (g := (mkF m 374 #[sI p0,sI p1,sI p2,sI p3,sI p4,sI r1,sI r2,sI r3,sI r4,sI r5,sI r6,sI r7,sI nn,sU,sU,sU] [(.int r6),(.int 5),(.ref b660),(.ref b660),(.ref b655),(.ref b655)])) rfl rfl (hb hby at_374)
                have f703 := f696.wr W702
                have f704 := Safe.wr W702 f700 CH695 f697
                have f705 := f698.other W702 (Or.inl ne_b655_b660)
                have f706 := f699.other W702 (Or.inl ne_b655_b660)
                have f707 := Safe.wr W702 f700 CH695 f700
                have f708 : Arv Z h702 b660 k660 .char (7 : Int32) [(.int (nar .char r1)),(.int (nar .char r2)),(.int (nar .char r3)),(.int (nar .char r4)),(.int (nar .char r5)),(.int (nar .char r6)),(.int 0)] (.int 0) := Arv.set Ar702 q702 S702 M702 Hs702 G702 (fits_nar_char _) W702 5 rfl (Nat.le_of_ble_eq_true rfl)
                have cr702 := CHr.wr W702 f700 CH695
                have CR702 := CR695.trans cr702
                have CH702 := cr702.1
                have hk702 := Nat.le_trans hk695 cr702.2.1
                have K702 := Keep.wr K695 W702 (Or.inr sz_b660)
                have Z702 := Nat.le_trans Z0 K702.1
                have N702 := Fr.snoc X702 N695 g_b660
                refine gv T702 375 #[sI p0,sI p1,sI p2,sI p3,sI p4,sI r1,sI r2,sI r3,sI r4,sI r5,sI r6,sI r7,sI nn,sU,sU,sU] [(.ref b660),(.ref b655),(.ref b655)] (fun t k => st702 _ k) ?_
                refine gv T702 376 #[sI p0,sI p1,sI p2,sI p3,sI p4,sI r1,sI r2,sI r3,sI r4,sI r5,sI r6,sI r7,sI nn,sU,sU,sU] [(.ref b660),(.ref b660),(.ref b655),(.ref b655)] (fun t k => XS.dup X702.here hx rfl (hb hby at_375) rfl rfl k) ?_
                refine gv T702 378 #[sI p0,sI p1,sI p2,sI p3,sI p4,sI r1,sI r2,sI r3,sI r4,sI r5,sI r6,sI r7,sI nn,sU,sU,sU] [(.int 6),(.ref b660),(.ref b660),(.ref b655),(.ref b655)] (fun t k => XS.bipush X702.here hx rfl (hb hby at_376) k) ?_
                refine gv T702 380 #[sI p0,sI p1,sI p2,sI p3,sI p4,sI r1,sI r2,sI r3,sI r4,sI r5,sI r6,sI r7,sI nn,sU,sU,sU] [(.int r7),(.int 6),(.ref b660),(.ref b660),(.ref b655),(.ref b655)] (fun t k => XS.iload X702.here hx rfl (hb hby at_378) rfl k) ?_
                obtain ⟨cl709,Ar709,q709,S709,M709,Hs709,G709⟩ := id f708
                have hin709 : ¬ ((6 : Int32) < 0 ∨ cl709.slots.size ≤ ((6 : Int32)).toNatClampNeg) := inb_of S709 ⟨by decide,by decide⟩
                obtain ⟨T709,h709,X709,e709,W709,st709⟩ := stC X702 hx hZ e702 Ar709 (j := (6 : Int32)) hin709 (g := (mkF m 380 #[sI p0,sI p1,sI p2,sI p3,sI p4,sI r1,sI r2,sI r3,sI r4,sI r5,sI r6,sI r7,sI nn,sU,sU,sU] [(.int r7),(.int 6),(.ref b660),(.ref b660),(.ref b655),(.ref b655)])) rfl rfl (hb hby at_380)
                have f710 := f703.wr W709
                have f711 := Safe.wr W709 f707 CH702 f704
                have f712 := f705.other W709 (Or.inl ne_b655_b660)
                have f713 := f706.other W709 (Or.inl ne_b655_b660)
                have f714 := Safe.wr W709 f707 CH702 f707
                have f715 : Arv Z h709 b660 k660 .char (7 : Int32) [(.int (nar .char r1)),(.int (nar .char r2)),(.int (nar .char r3)),(.int (nar .char r4)),(.int (nar .char r5)),(.int (nar .char r6)),(.int (nar .char r7))] (.int 0) := Arv.set Ar709 q709 S709 M709 Hs709 G709 (fits_nar_char _) W709 6 rfl (Nat.le_of_ble_eq_true rfl)
                have cr709 := CHr.wr W709 f707 CH702
                have CR709 := CR702.trans cr709
                have CH709 := cr709.1
                have hk709 := Nat.le_trans hk702 cr709.2.1
                have K709 := Keep.wr K702 W709 (Or.inr sz_b660)
                have Z709 := Nat.le_trans Z0 K709.1
                have N709 := Fr.snoc X709 N702 g_b660
                refine gv T709 381 #[sI p0,sI p1,sI p2,sI p3,sI p4,sI r1,sI r2,sI r3,sI r4,sI r5,sI r6,sI r7,sI nn,sU,sU,sU] [(.ref b660),(.ref b655),(.ref b655)] (fun t k => st709 _ k) ?_
                obtain ⟨_,_,⟨T716,L716,k716,n716⟩,-,X716,⟨Lc716,hQ716,l716,y716,z716⟩,st716⟩ := X709.specialBack hx (y := (⟨"java/lang/String","<init>","([C)V"⟩ : MethodName)) rfl hown (mvT hZ (w_ hw 52 rfl)) (mvT hZ (w_ hw 53 rfl)) (mvT hZ (w_ hw 54 rfl)) (by decide) (backOf (W := 1) (rm107 l Z a0 hw [] b655 b660 k660 wc (.int 0) .null (nar .char r1) (nar .char r2) (nar .char r3) (nar .char r4) (nar .char r5) (nar .char r6) (nar .char r7) h709 n0 Z709 f710 f713 f712 f715 (own_staKeep f0_COMPACT_STRINGS K709 all0) ne_b655_b660 g_b655 (own_ncR hr1) (own_ncR hr2) (own_ncR hr3) (own_ncR hr4) (own_ncR hr5) (own_ncR hr6) (own_ncR hr7) hwc) hZ (w_ hw 54 rfl) (w_ hw 8 rfl) (by decide) (by decide)) (g := (mkF m 381 #[sI p0,sI p1,sI p2,sI p3,sI p4,sI r1,sI r2,sI r3,sI r4,sI r5,sI r6,sI r7,sI nn,sU,sU,sU] [(.ref b660),(.ref b655),(.ref b655)])) rfl (by rw [hml]; rfl) (Steps.refl _) (a := b655) (argsL := [(.ref b660)]) (rest := [(.ref b655)]) (lenOf pd_20 rfl) rfl (own_rm rfl) (hb hby at_381) (fun _ _ => ⟨rfl,e709,(by decide : 16 + 1 ≤ _),(by decide : 179 + 7 ≤ _)⟩)
                dsimp only [Pt.U, Pt.locs, Pt.cells, Pt.slots] at X716 l716 y716 z716 st716 hQ716
                replace X716 := own_cast X716 l716 y716 z716
                obtain ⟨yb_716,kb_716,rfl,N716q,K716q,po716_0,po716_1,po716_2,po716_3,px716_g_yb,px716_sz_yb⟩ := hQ716
                have N716 := Fr.app N709 N716q
                have f717 := f710.keep K716q
                have f718 := Safe.keep K716q (allS f711 all0) CH709 f711
                have f719 := Safe.keep K716q (allS f711 all0) CH709 f714
                have f720 := f715.keep K716q (ninS (Ne.symm ne_b655_b660) nin0)
                have cr716 := CHr.keep K716q (allS f711 all0) CH709
                have CR716 := CR709.trans cr716
                have CH716 := cr716.1
                have hk716 := Nat.le_trans hk709 cr716.2.1
                have K716 := Keep.trans K709 K716q (allS (Or.inr sz_b655) all0)
                have Z716 := Nat.le_trans Z0 K716.1
                have g_yb_716 := px716_g_yb
                have sz_yb_716 : h0.size ≤ yb_716 := Nat.le_trans (K709).1 px716_sz_yb
                have ne_b655_yb_716 : b655 ≠ yb_716 := Nat.ne_of_lt (Nat.lt_of_lt_of_le f710.lt px716_sz_yb)
                have ne_b660_yb_716 : b660 ≠ yb_716 := Nat.ne_of_lt (Nat.lt_of_lt_of_le f715.lt px716_sz_yb)
                refine gv T716 384 #[sI p0,sI p1,sI p2,sI p3,sI p4,sI r1,sI r2,sI r3,sI r4,sI r5,sI r6,sI r7,sI nn,sU,sU,sU] [(.ref b655)] (fun t k => st716.trans k) ?_
                refine gv T716 386 #[sI p0,sI p1,sI p2,sI p3,sI p4,sI r1,sI r2,sI r3,sI r4,sI r5,sI r6,sI r7,sI nn,sR b655,sU,sU] [] (fun t k => XS.astore X716.here hx rfl (hb hby at_384) rfl rfl (l' := #[sI p0,sI p1,sI p2,sI p3,sI p4,sI r1,sI r2,sI r3,sI r4,sI r5,sI r6,sI r7,sI nn,sR b655,sU,sU]) rfl k) ?_
                refine gv T716 388 #[sI p0,sI p1,sI p2,sI p3,sI p4,sI r1,sI r2,sI r3,sI r4,sI r5,sI r6,sI r7,sI nn,sR b655,sU,sU] [(.ref b655)] (fun t k => XS.aload X716.here hx rfl (hb hby at_386) rfl rfl k) ?_
                obtain ⟨b721,T721,h721,kz721,d721,k721,X721,e721,E721,hS721,hk721,hZ,hown,A721,C721,V721,R721,lta721,ltb721,cr721,Lt721,Nn721,st721⟩ := ldcCH X716 hx hZ hown (w_ hw 7 rfl) (own_wS hw) rfl hS7 hk716 (own_EW hw) (own_mem (by decide)) CH716 (vs := [(.int 100),(.int 97),(.int 121)]) (z := (3 : Int32)) ⟨by decide,rfl⟩ (by decide) rfl (g := (mkF m 388 #[sI p0,sI p1,sI p2,sI p3,sI p4,sI r1,sI r2,sI r3,sI r4,sI r5,sI r6,sI r7,sI nn,sR b655,sU,sU] [(.ref b655)])) rfl (hb hby at_388) (n := 12) (by decide) (by decide) (by decide) (by decide)
                have f722 := po716_0.ext E721
                have f723 := f720.ext E721
                have f724 := po716_1.ext E721
                have f725 := po716_2.ext E721
                have f726 := po716_3.ext E721
                have CR721 := CR716.trans cr721
                have CH721 := cr721.1
                have f727 := CHr.safe cr721 po716_0.lt f718
                have f728 := CHr.safe cr721 f720.lt f719
                have K721 := Keep.ext K716 E721
                have Z721 := Nat.le_trans Z0 K721.1
                have f729 : Exa Z h721 b721 "java/lang/String" := A721
                have f730 : Fld Z h721 b721 "java/lang/String" "coder" "B" (.int 0) := C721
                have f731 : Fld Z h721 b721 "java/lang/String" "value" "[B" (.ref d721) := V721
                have f732 : Arv Z h721 d721 k721 .byte (3 : Int32) [(.int 100),(.int 97),(.int 121)] (.int 0) := R721
                refine gv T721 390 #[sI p0,sI p1,sI p2,sI p3,sI p4,sI r1,sI r2,sI r3,sI r4,sI r5,sI r6,sI r7,sI nn,sR b655,sU,sU] [(.ref b721),(.ref b655)] (fun t k => st721 _ k) ?_
                obtain ⟨cq733,kq733,q733a,q733b,q733c⟩ := isOf hZ e721 f722
                obtain ⟨_,_,⟨T733,L733,k733,n733⟩,-,X733,⟨Lc733,hQ733,l733,y733,z733⟩,st733⟩ := X721.virtualBack hx (y := (⟨"java/lang/String","equals","(Ljava/lang/Object;)Z"⟩ : MethodName)) (z := (⟨"java/lang/String","equals","(Ljava/lang/Object;)Z"⟩ : MethodName)) hown (mvT hZ (w_ hw 72 rfl)) (mvT hZ (w_ hw 73 rfl)) (notFace_of_selects (args := #[]) (mvT hZ (w_ hw 75 rfl))) (mvT hZ (w_ hw 75 rfl)) (mvT hZ (w_ hw 74 rfl)) (by decide) (backOf (W := 0) (rm16x l Z a0 hw [] b655 b721 yb_716 d721 kb_716 k721 (7 : Int32) (3 : Int32) ([(.int (bN r1)),(.int (bN r2)),(.int (bN r3)),(.int (bN r4)),(.int (bN r5)),(.int (bN r6)),(.int (bN r7))] : List Value) ([(.int 100),(.int 97),(.int 121)] : List Value) wc h721 n0 Z721 f722 f724 f725 f726 f729 f730 f731 f732 (own_staKeep f0_COMPACT_STRINGS K721 all0) (Nn721 _ f727).1 (by decide) hwc) hZ (w_ hw 76 rfl) (w_ hw 8 rfl) (by decide) (by decide)) q733a q733c (g := (mkF m 390 #[sI p0,sI p1,sI p2,sI p3,sI p4,sI r1,sI r2,sI r3,sI r4,sI r5,sI r6,sI r7,sI nn,sR b655,sU,sU] [(.ref b721),(.ref b655)])) rfl (by rw [hml]; rfl) (Steps.refl _) (argsL := [(.ref b721)]) (rest := []) (lenOf pd_16 rfl) rfl (own_rm rfl) (hb hby at_390) (fun _ _ => ⟨rfl,e721,(by decide : 19 + 0 ≤ _),(by decide : 202 + 0 ≤ _)⟩)
                dsimp only [Pt.U, Pt.locs, Pt.cells, Pt.slots] at X733 l733 y733 z733 st733 hQ733
                replace X733 := own_cast X733 l733 y733 z733
                obtain ⟨rfl,N733q,eq733⟩ := hQ733
                have N733 := Fr.app N716 N733q
                refine gv T733 393 #[sI p0,sI p1,sI p2,sI p3,sI p4,sI r1,sI r2,sI r3,sI r4,sI r5,sI r6,sI r7,sI nn,sR b655,sU,sU] [(.int 0)] (fun t k => st733.trans k) ?_
                refine gv T733 404 #[sI p0,sI p1,sI p2,sI p3,sI p4,sI r1,sI r2,sI r3,sI r4,sI r5,sI r6,sI r7,sI nn,sR b655,sU,sU] [] (fun t k => XS.ifYes X733.here hx rfl (pc0 := 393) (pc' := 404) rfl (hb hby at_393) rfl ((if0 _ _).trans (teq rfl).1) (by decide) (by decide) k) ?_
                refine gv T733 406 #[sI p0,sI p1,sI p2,sI p3,sI p4,sI r1,sI r2,sI r3,sI r4,sI r5,sI r6,sI r7,sI nn,sR b655,sU,sU] [(.ref b655)] (fun t k => XS.aload X733.here hx rfl (hb hby at_404) rfl rfl k) ?_
                obtain ⟨b734,T734,h734,kz734,d734,k734,X734,e734,E734,hS734,hk734,hZ,hown,A734,C734,V734,R734,lta734,ltb734,cr734,Lt734,Nn734,st734⟩ := ldcCH X733 hx hZ hown (w_ hw 130 rfl) (own_wS hw) eq733 hS721 hk721 (own_EW hw) (own_mem (by decide)) CH721 (vs := [(.int 109),(.int 111),(.int 110),(.int 116),(.int 104)]) (z := (5 : Int32)) ⟨by decide,rfl⟩ (by decide) rfl (g := (mkF m 406 #[sI p0,sI p1,sI p2,sI p3,sI p4,sI r1,sI r2,sI r3,sI r4,sI r5,sI r6,sI r7,sI nn,sR b655,sU,sU] [(.ref b655)])) rfl (hb hby at_406) (n := 20) (by decide) (by decide) (by decide) (by decide)
                have f735 := f722.ext E734
                have f736 := f723.ext E734
                have f737 := f724.ext E734
                have f738 := f725.ext E734
                have f739 := f726.ext E734
                have f740 := f729.ext E734
                have f741 := f730.ext E734
                have f742 := f731.ext E734
                have f743 := f732.ext E734
                have CR734 := CR721.trans cr734
                have CH734 := cr734.1
                have f744 := CHr.safe cr734 f722.lt f727
                have f745 := CHr.safe cr734 f723.lt f728
                have K734 := Keep.ext K721 E734
                have Z734 := Nat.le_trans Z0 K734.1
                have f746 : Exa Z h734 b734 "java/lang/String" := A734
                have f747 : Fld Z h734 b734 "java/lang/String" "coder" "B" (.int 0) := C734
                have f748 : Fld Z h734 b734 "java/lang/String" "value" "[B" (.ref d734) := V734
                have f749 : Arv Z h734 d734 k734 .byte (5 : Int32) [(.int 109),(.int 111),(.int 110),(.int 116),(.int 104)] (.int 0) := R734
                refine gv T734 408 #[sI p0,sI p1,sI p2,sI p3,sI p4,sI r1,sI r2,sI r3,sI r4,sI r5,sI r6,sI r7,sI nn,sR b655,sU,sU] [(.ref b734),(.ref b655)] (fun t k => st734 _ k) ?_
                obtain ⟨cq750,kq750,q750a,q750b,q750c⟩ := isOf hZ e734 f735
                obtain ⟨_,_,⟨T750,L750,k750,n750⟩,-,X750,⟨Lc750,hQ750,l750,y750,z750⟩,st750⟩ := X734.virtualBack hx (y := (⟨"java/lang/String","equals","(Ljava/lang/Object;)Z"⟩ : MethodName)) (z := (⟨"java/lang/String","equals","(Ljava/lang/Object;)Z"⟩ : MethodName)) hown (mvT hZ (w_ hw 72 rfl)) (mvT hZ (w_ hw 73 rfl)) (notFace_of_selects (args := #[]) (mvT hZ (w_ hw 75 rfl))) (mvT hZ (w_ hw 75 rfl)) (mvT hZ (w_ hw 74 rfl)) (by decide) (backOf (W := 0) (rm16x l Z a0 hw [] b655 b734 yb_716 d734 kb_716 k734 (7 : Int32) (5 : Int32) ([(.int (bN r1)),(.int (bN r2)),(.int (bN r3)),(.int (bN r4)),(.int (bN r5)),(.int (bN r6)),(.int (bN r7))] : List Value) ([(.int 109),(.int 111),(.int 110),(.int 116),(.int 104)] : List Value) wc h734 n0 Z734 f735 f737 f738 f739 f746 f747 f748 f749 (own_staKeep f0_COMPACT_STRINGS K734 all0) (Nn734 _ f744).1 (by decide) hwc) hZ (w_ hw 76 rfl) (w_ hw 8 rfl) (by decide) (by decide)) q750a q750c (g := (mkF m 408 #[sI p0,sI p1,sI p2,sI p3,sI p4,sI r1,sI r2,sI r3,sI r4,sI r5,sI r6,sI r7,sI nn,sR b655,sU,sU] [(.ref b734),(.ref b655)])) rfl (by rw [hml]; rfl) (Steps.refl _) (argsL := [(.ref b734)]) (rest := []) (lenOf pd_16 rfl) rfl (own_rm rfl) (hb hby at_408) (fun _ _ => ⟨rfl,e734,(by decide : 21 + 0 ≤ _),(by decide : 226 + 0 ≤ _)⟩)
                dsimp only [Pt.U, Pt.locs, Pt.cells, Pt.slots] at X750 l750 y750 z750 st750 hQ750
                replace X750 := own_cast X750 l750 y750 z750
                obtain ⟨rfl,N750q,eq750⟩ := hQ750
                have N750 := Fr.app N733 N750q
                refine gv T750 411 #[sI p0,sI p1,sI p2,sI p3,sI p4,sI r1,sI r2,sI r3,sI r4,sI r5,sI r6,sI r7,sI nn,sR b655,sU,sU] [(.int 0)] (fun t k => st750.trans k) ?_
                refine gv T750 422 #[sI p0,sI p1,sI p2,sI p3,sI p4,sI r1,sI r2,sI r3,sI r4,sI r5,sI r6,sI r7,sI nn,sR b655,sU,sU] [] (fun t k => XS.ifYes X750.here hx rfl (pc0 := 411) (pc' := 422) rfl (hb hby at_411) rfl ((if0 _ _).trans (teq rfl).1) (by decide) (by decide) k) ?_
                refine gv T750 423 #[sI p0,sI p1,sI p2,sI p3,sI p4,sI r1,sI r2,sI r3,sI r4,sI r5,sI r6,sI r7,sI nn,sR b655,sU,sU] [.null] (fun t k => XS.aconstNull X750.here hx rfl (hb hby at_422) k) ?_
                refine gv T750 425 #[sI p0,sI p1,sI p2,sI p3,sI p4,sI r1,sI r2,sI r3,sI r4,sI r5,sI r6,sI r7,sI nn,sR b655,.val .null,sU] [] (fun t k => XS.astore X750.here hx rfl (hb hby at_423) rfl rfl (l' := #[sI p0,sI p1,sI p2,sI p3,sI p4,sI r1,sI r2,sI r3,sI r4,sI r5,sI r6,sI r7,sI nn,sR b655,.val .null,sU]) rfl k) ?_
                refine gv T750 427 #[sI p0,sI p1,sI p2,sI p3,sI p4,sI r1,sI r2,sI r3,sI r4,sI r5,sI r6,sI r7,sI nn,sR b655,.val .null,sU] [(.ref b655)] (fun t k => XS.aload X750.here hx rfl (hb hby at_425) rfl rfl k) ?_
                obtain ⟨_,_,⟨T751,L751,k751,n751⟩,-,X751,⟨Lc751,hQ751,l751,y751,z751⟩,st751⟩ := Jvm.LawKit.callS X750 hx (y := (⟨"com/example/tallyman/tallyman/ledger/Period","named","(Ljava/lang/String;)Ljava/util/Optional;"⟩ : MethodName)) hown (mvT hZ (w_ hw 84 rfl)) (mvT hZ (w_ hw 85 rfl)) (mvT hZ (w_ hw 82 rfl)) (mvT hZ (w_ hw 86 rfl)) (by decide) (backOf (W := 0) (rm18x l Z a0 hw [] b655 yV kV dd mm td bd kd tm bm km oe wc yb_716 kb_716 (7 : Int32) ([(.int (bN r1)),(.int (bN r2)),(.int (bN r3)),(.int (bN r4)),(.int (bN r5)),(.int (bN r6)),(.int (bN r7))] : List Value) h734 n0 Z734 (own_staKeep f4__VALUES K734 all0) (f5_yV.keep K734 nin0) (f6_yV.keep K734) (f9_dd_text.keep K734 nin0) (f10_td.keep K734) (f11_td_coder.keep K734 nin0) (f12_td_value.keep K734 nin0) (f13_bd.keep K734 nin0) (f14_mm_text.keep K734 nin0) (f15_tm.keep K734) (f16_tm_coder.keep K734 nin0) (f17_tm_value.keep K734 nin0) (f18_bm.keep K734 nin0) (own_staKeep f19_EMPTY K734 all0) (own_staKeep f0_COMPACT_STRINGS K734 all0) f735 f737 f738 f739 (Nat.ne_of_lt (Nat.lt_of_lt_of_le f10_td.lt sz_b655)) (Nat.ne_of_lt (Nat.lt_of_lt_of_le f15_tm.lt sz_b655)) hwc (by decide) (by decide)) hZ (w_ hw 86 rfl) (w_ hw 82 rfl) (by decide) (by decide)) (g := (mkF m 427 #[sI p0,sI p1,sI p2,sI p3,sI p4,sI r1,sI r2,sI r3,sI r4,sI r5,sI r6,sI r7,sI nn,sR b655,.val .null,sU] [(.ref b655)])) rfl (by rw [hml]; rfl) (argsL := [(.ref b655)]) (rest := []) (lenOf pd_21 rfl) rfl (own_rm rfl) (hb hby at_427) (fun _ _ => ⟨rfl,eq750,(by decide : 21 + 1 ≤ _),(by decide : 226 + 2 ≤ _)⟩)
                dsimp only [Pt.U, Pt.locs, Pt.cells, Pt.slots] at X751 l751 y751 z751 st751 hQ751
                replace X751 := own_cast X751 l751 y751 z751
                obtain ⟨rfl,N751q,K751q⟩ := hQ751
                have N751 := Fr.app N750 N751q
                have f752 := f735.keep K751q
                have f753 := f736.keep K751q nin0
                have f754 := f737.keep K751q nin0
                have f755 := f738.keep K751q nin0
                have f756 := f739.keep K751q nin0
                have f757 := f740.keep K751q
                have f758 := f741.keep K751q nin0
                have f759 := f742.keep K751q nin0
                have f760 := f743.keep K751q nin0
                have f761 := Safe.keep K751q all0 CH734 f744
                have f762 := Safe.keep K751q all0 CH734 f745
                have f763 := f746.keep K751q
                have f764 := f747.keep K751q nin0
                have f765 := f748.keep K751q nin0
                have f766 := f749.keep K751q nin0
                have cr751 := CHr.keep K751q all0 CH734
                have CR751 := CR734.trans cr751
                have CH751 := cr751.1
                have hk751 := Nat.le_trans hk734 cr751.2.1
                have K751 := Keep.trans K734 K751q all0
                have Z751 := Nat.le_trans Z0 K751.1
                refine gv T751 430 #[sI p0,sI p1,sI p2,sI p3,sI p4,sI r1,sI r2,sI r3,sI r4,sI r5,sI r6,sI r7,sI nn,sR b655,.val .null,sU] [(.ref oe)] (fun t k => st751 _ k) ?_
                refine gv T751 431 #[sI p0,sI p1,sI p2,sI p3,sI p4,sI r1,sI r2,sI r3,sI r4,sI r5,sI r6,sI r7,sI nn,sR b655,.val .null,sU] [.null,(.ref oe)] (fun t k => XS.aconstNull X751.here hx rfl (hb hby at_430) k) ?_
                obtain ⟨cq767,kq767,q767a,q767b,q767c⟩ := isOf hZ rfl (f20_oe.keep K751)
                obtain ⟨_,_,⟨T767,L767,k767,n767⟩,-,X767,⟨Lc767,hQ767,l767,y767,z767⟩,st767⟩ := X751.virtualBack hx (y := (⟨"java/util/Optional","orElse","(Ljava/lang/Object;)Ljava/lang/Object;"⟩ : MethodName)) (z := (⟨"java/util/Optional","orElse","(Ljava/lang/Object;)Ljava/lang/Object;"⟩ : MethodName)) hown (mvT hZ (w_ hw 123 rfl)) (mvT hZ (w_ hw 124 rfl)) (notFace_of_selects (args := #[]) (mvT hZ (w_ hw 126 rfl))) (mvT hZ (w_ hw 126 rfl)) (mvT hZ (w_ hw 125 rfl)) (by decide) (backOf (W := 0) (rm23n l Z a0 hw [] oe T751.heap n0 Z751 (f21_oe_value.keep K751 nin0)) hZ (w_ hw 127 rfl) (w_ hw 108 rfl) (by decide) (by decide)) q767a q767c (g := (mkF m 431 #[sI p0,sI p1,sI p2,sI p3,sI p4,sI r1,sI r2,sI r3,sI r4,sI r5,sI r6,sI r7,sI nn,sR b655,.val .null,sU] [.null,(.ref oe)])) rfl (by rw [hml]; rfl) (Steps.refl _) (argsL := [.null]) (rest := []) (lenOf pd_13 rfl) rfl (own_rm rfl) (hb hby at_431) (fun _ _ => ⟨rfl,rfl,(by decide : 22 + 0 ≤ _),(by decide : 228 + 0 ≤ _)⟩)
                dsimp only [Pt.U, Pt.locs, Pt.cells, Pt.slots] at X767 l767 y767 z767 st767 hQ767
                replace X767 := own_cast X767 l767 y767 z767
                obtain ⟨rfl,N767q,eq767⟩ := hQ767
                have N767 := Fr.app N751 N767q
                refine gv T767 434 #[sI p0,sI p1,sI p2,sI p3,sI p4,sI r1,sI r2,sI r3,sI r4,sI r5,sI r6,sI r7,sI nn,sR b655,.val .null,sU] [.null] (fun t k => st767.trans k) ?_
                refine gv T767 437 #[sI p0,sI p1,sI p2,sI p3,sI p4,sI r1,sI r2,sI r3,sI r4,sI r5,sI r6,sI r7,sI nn,sR b655,.val .null,sU] [.null] (fun t k => X767.checkcastNull hx (g := (mkF m 434 #[sI p0,sI p1,sI p2,sI p3,sI p4,sI r1,sI r2,sI r3,sI r4,sI r5,sI r6,sI r7,sI nn,sR b655,.val .null,sU] [.null])) rfl rfl (hb hby at_434) _ k) ?_
                refine gv T767 439 #[sI p0,sI p1,sI p2,sI p3,sI p4,sI r1,sI r2,sI r3,sI r4,sI r5,sI r6,sI r7,sI nn,sR b655,.val .null,.val .null] [] (fun t k => XS.astore X767.here hx rfl (hb hby at_437) rfl rfl (l' := #[sI p0,sI p1,sI p2,sI p3,sI p4,sI r1,sI r2,sI r3,sI r4,sI r5,sI r6,sI r7,sI nn,sR b655,.val .null,.val .null]) rfl k) ?_
                refine gv T767 441 #[sI p0,sI p1,sI p2,sI p3,sI p4,sI r1,sI r2,sI r3,sI r4,sI r5,sI r6,sI r7,sI nn,sR b655,.val .null,.val .null] [.null] (fun t k => XS.aload X767.here hx rfl (hb hby at_439) rfl rfl k) ?_
                refine gv T767 443 #[sI p0,sI p1,sI p2,sI p3,sI p4,sI r1,sI r2,sI r3,sI r4,sI r5,sI r6,sI r7,sI nn,sR b655,.val .null,.val .null] [.null,.null] (fun t k => XS.aload X767.here hx rfl (hb hby at_441) rfl rfl k) ?_
                refine gv T767 446 #[sI p0,sI p1,sI p2,sI p3,sI p4,sI r1,sI r2,sI r3,sI r4,sI r5,sI r6,sI r7,sI nn,sR b655,.val .null,.val .null] [] (fun t k => Jvm.RoadKit.acmp (g := (mkF m 443 #[sI p0,sI p1,sI p2,sI p3,sI p4,sI r1,sI r2,sI r3,sI r4,sI r5,sI r6,sI r7,sI nn,sR b655,.val .null,.val .null] [.null,.null])) X767 hx rfl rfl rfl (pc0 := 443) (pc' := 446) (same := true) rfl (hb hby at_443) rfl (decide_eq_true rfl) (by decide) (by decide) k) ?_
                refine gv T767 447 #[sI p0,sI p1,sI p2,sI p3,sI p4,sI r1,sI r2,sI r3,sI r4,sI r5,sI r6,sI r7,sI nn,sR b655,.val .null,.val .null] [(.int 1)] (fun t k => XS.iconst X767.here hx rfl (hb hby at_446) k) ?_
                refine gv T767 451 #[sI p0,sI p1,sI p2,sI p3,sI p4,sI r1,sI r2,sI r3,sI r4,sI r5,sI r6,sI r7,sI nn,sR b655,.val .null,.val .null] [(.int 1)] (fun t k => XS.goto X767.here hx rfl (pc0 := 447) (pc' := 451) rfl (hb hby at_447) (by decide) (by decide) k) ?_
                exact own_retW X767 hx Bd.notSynchronized Bd.returns rfl (Or.inl ⟨rfl,by simp,_,rfl⟩) (hb hby at_451) eq767 hS734 hk751 hZ (own_EW hw) CR751 hh ⟨rfl,N767⟩ (by decide) (by decide)
set_option maxRecDepth 65536 in
set_option maxHeartbeats 40000000 in
theorem comes_1 {Post : Tables → Env → Array Value → State → Outcome → State → Prop} (hpost : ∀ tb e args s v u, (limb_1_1.after args s (.returned v) u = true ∧ limb_1_2.after args s (.returned v) u = true ∧ True) → ReturnedEndW s (.returned v) u (Jvm.fieldLocs frame_1_writes args s ++ Jvm.arrayLocs frame_1_arrays args s ++ Jvm.staticLocs frame_1_statics s) 24 3200 → Post tb e args s (.returned v) u) :
    ArmFor flags0 classFile x code maxLocals ret World_1 tables_1 room_1 Calls_1 rest_1 Pre_1 Post := by
  intro l hfl _ _ p e ha hc hk s m args below hf hA hF happ hP
  obtain ⟨hcalls,hrest,hpre⟩ := hP
  obtain ⟨-,-,-,hnamed,-,-,-,hat⟩ := (Spec.applies_iff hf).mp happ
  obtain ⟨hg,hn⟩ := and_e (Cond.before_iff.mp (show (Jvm.Cond.and given_1 narrow_1).before args s = true from hpre))
  obtain ⟨g1,g2⟩ := and_e hg
  obtain ⟨g3,g4⟩ := and_e g2
  obtain ⟨g5,g6⟩ := and_e g4
  obtain ⟨g7,g8⟩ := and_e g6
  obtain ⟨g9,g10⟩ := and_e g8
  obtain ⟨w0,w1,w2,w3,w4,rfl⟩ : ∃ w0 w1 w2 w3 w4 : Value,args = #[w0,w1,w2,w3,w4] := by
    have hs : args.size = 5 := by simpa [Cond.value,given_1] using g1
    obtain ⟨L⟩ := args
    match L, hs with
    | [w0, w1, w2, w3, w4], _ => exact ⟨w0, w1, w2, w3, w4, rfl⟩
  have hw := fun d (hd : d ∈ tables_1) => atoms_spec (ws := Jvm.Cond.code x code maxLocals ret :: tables_1) hat d (List.mem_cons_of_mem _ hd)
  have hfit : Fit s := fun {y c} hc i hi => by
    obtain ⟨ha,rfl⟩ := Array.getElem?_eq_some_iff.mp hc
    have q := List.all_eq_true.mp ((Array.all_eq_true_iff_forall_mem.mp hF) _ (Array.getElem_mem ha)) i (List.mem_range.mpr hi)
    simpa [Array.getElem?_eq_getElem hi] using q
  obtain ⟨hsets,hown0⟩ := atoms_of _ (rest_1_c_eq ▸ (show rest_1_c.before _ s = true from hrest))
  have hr0 := Cond.before_iff.mp hown0
  obtain ⟨i0,ei0⟩ := is_v g3
  obtain rfl : w0 = (.int i0) := Option.some.inj ei0
  obtain ⟨i1,ei1⟩ := is_v g5
  obtain rfl : w1 = (.int i1) := Option.some.inj ei1
  obtain ⟨i2,ei2⟩ := is_v g7
  obtain rfl : w2 = (.int i2) := Option.some.inj ei2
  obtain ⟨i3,ei3⟩ := is_v g9
  obtain rfl : w3 = (.int i3) := Option.some.inj ei3
  obtain ⟨i4,ei4⟩ := is_v g10
  obtain rfl : w4 = (.int i4) := Option.some.inj ei4
  obtain ⟨g11,g12⟩ := and_e hn
  obtain ⟨g13,g14⟩ := and_e g12
  obtain ⟨g15,g16⟩ := and_e g14
  obtain ⟨g17,g18⟩ := and_e g16
  obtain ⟨g19,g20⟩ := and_e g18
  obtain ⟨g21,g22⟩ := and_e g20
  obtain ⟨g23,g24⟩ := and_e g22
  obtain ⟨g25,g26⟩ := and_e g24
  obtain ⟨g27,g28⟩ := and_e g26
  obtain ⟨g29,g30⟩ := and_e g28
  obtain ⟨g31,g32⟩ := and_e g30
  obtain ⟨g33,g34⟩ := and_e g32
  obtain ⟨g35,g36⟩ := and_e g34
  obtain ⟨g37,g38⟩ := and_e g36
  obtain ⟨g39,g40⟩ := and_e g38
  obtain ⟨g41,g42⟩ := and_e g40
  obtain ⟨g43,g44⟩ := and_e g42
  obtain ⟨g45,g46⟩ := and_e g44
  obtain ⟨g47,g48⟩ := and_e g46
  obtain ⟨g49,g50⟩ := and_e g48
  obtain ⟨g51,g52⟩ := and_e g50
  obtain ⟨g53,g54⟩ := and_e g52
  obtain ⟨wc,vwc⟩ := is_v (Cond.before_iff.mp (hsets _ (List.mem_of_getElem? (i := 1) rfl)))
  have SC := Sta.start vwc (Or.inl (hsets _ (List.mem_of_getElem? (i := 0) rfl)))
  have hwc := own_ne0 vwc (Cond.before_iff.mp (hsets _ (List.mem_of_getElem? (i := 2) rfl)))
  obtain ⟨vB,evB,hvB⟩ := own_isR (Cond.before_iff.mp (hsets _ (List.mem_of_getElem? (i := 8) rfl)))
  have SF := Sta.start evB (Or.inl (hsets _ (List.mem_of_getElem? (i := 7) rfl)))
  obtain ⟨dd,SD,ED,eD⟩ := own_exS g11 (w_ hw 82 rfl) (w_ hw 83 rfl)
  obtain ⟨mm,SM,EM,eM⟩ := own_exS g21 (w_ hw 82 rfl) (w_ hw 99 rfl)
  obtain ⟨yV,SV,EV,eV⟩ := own_exS g15 (w_ hw 82 rfl) (w_ hw 91 rfl)
  obtain ⟨cV,aV,hV,l1V,l2V⟩ := own_arr eV g13 g17
  have AV := Arv.start (vs := [.ref dd,.ref mm]) (dv := .null) hfit aV l1V l2V (by decide) rfl ⟨own_el eV hV (by decide) (own_eqT eD g19),own_el eV hV (by decide) (own_eqT eM g23),trivial⟩
  obtain ⟨td,_,_,_,etd,-⟩ := Cond.exactly_spec (Cond.before_iff.mpr g25)
  have ETx := Exa.start etd g25
  have ETd := ETx
  have FD := own_fldT eD etd
  have CTd := own_fldI etd g27
  obtain ⟨bd,ebd⟩ := own_refA g29
  have VTd := own_fldT etd ebd
  obtain ⟨cd,ad,hd,l1d,l2d⟩ := own_arr ebd g29 g31
  have ABd := Arv.start (vs := [(.int 100),(.int 97),(.int 121)]) (dv := (.int 0)) hfit ad l1d l2d (by decide) rfl ⟨own_el ebd hd (by decide) (own_eqI g33),own_el ebd hd (by decide) (own_eqI g35),own_el ebd hd (by decide) (own_eqI g37),trivial⟩
  obtain ⟨tm,_,_,_,etm,-⟩ := Cond.exactly_spec (Cond.before_iff.mpr g39)
  have ETx := Exa.start etm g39
  have ETm := ETx
  have FM := own_fldT eM etm
  have CTm := own_fldI etm g41
  obtain ⟨bm,ebm⟩ := own_refA g43
  have VTm := own_fldT etm ebm
  obtain ⟨cm,am,hm,l1m,l2m⟩ := own_arr ebm g43 g45
  have ABm := Arv.start (vs := [(.int 109),(.int 111),(.int 110),(.int 116),(.int 104)]) (dv := (.int 0)) hfit am l1m l2m (by decide) rfl ⟨own_el ebm hm (by decide) (own_eqI g47),own_el ebm hm (by decide) (own_eqI g49),own_el ebm hm (by decide) (own_eqI g51),own_el ebm hm (by decide) (own_eqI g53),own_el ebm hm (by decide) (own_eqI g54),trivial⟩
  obtain ⟨oe,SE,EO,eE⟩ := own_exS (Cond.before_iff.mp (hsets _ (List.mem_of_getElem? (i := 11) rfl))) (w_ hw 108 rfl) (hsets _ (List.mem_of_getElem? (i := 9) rfl))
  have FO := own_fldN eE (Cond.before_iff.mp (hsets _ (List.mem_of_getElem? (i := 12) rfl)))
  have hCH := CHv.start (own_EW hw) (show ∀ p ∈ own_EL,Jvm.Lit.constHeld s p.1 p.2 from hcalls.1) (show Jvm.Lit.compactW.before _ s = true from (hsets _ (List.mem_of_getElem? (i := 2) rfl))) (w_ hw 10 rfl) (w_ hw 9 rfl)
  obtain ⟨n,o,h1,h2,h3,_,L,rfl,⟨rfl,N⟩,-,hq⟩ := rm0 l s _ hw tables_1 i0 i1 i2 i3 i4 wc vB yV _ dd mm td bd _ tm bm _ oe s.heap s.heap.size (Nat.le_refl _) SC SF SD SM SV AV EV ED EM FD ETd CTd VTd ABd FM ETm CTm VTm ABm SE EO FO hwc hvB p e ha hc hk s m _ below hf ((Spec.applies_iff_loose hf).mp happ).1 ⟨rfl,State.Warmed39.refl s,rfl,hCH⟩ trivial
  refine ⟨n,_,h1,h2,h3,hpost _ _ _ _ _ _ ⟨Cond.after_iff.mpr rfl,Cond.after_iff.mpr (eq_i res_at (Term.int_eval (1)) rfl),trivial⟩ ⟨hq.1,hq.2.1,hq.2.2.1,(hq.2.2.2.sift fun y hy => Or.inr (N y hy)).mono (by decide) (by decide)⟩⟩
theorem main_1_1 : Claimed_1_1 := comes_1 fun _ _ _ _ _ _ h hF => ⟨h.1, hF⟩
theorem main_1_2 : Claimed_1_2 := comes_1 fun _ _ _ _ _ _ h hF => ⟨h.2.1, hF⟩
end Jvm.Pilot.@@N@@
namespace Jvm.Pilot.@@N@@
open Jvm Jvm.ClassFile Sem Op Lib Jvm.Free Jvm.Stand Jvm.Pilot.@@N@@.Jvm.D
/-! MADE BY PROGRAM (witnessworld.py) out of the Statement's table words and the real class files: 24 classes; the members and pool entries that the words name. The judged class is class 1, her method 3. -/
namespace start1
open Jvm.ClassFile
def u (s : String) : CpInfo := .utf8 (stringToUtf16 s)
/-- a pool by its gaps: so many unusable entries, then the entry; so many at the end -/
def gap : Nat → List CpInfo → List CpInfo
  | 0, r => r
  | n + 1, r => .unusable :: gap n r
def poolList (es : List (Nat × CpInfo)) (last : Nat) : List CpInfo := es.foldr (fun e r => gap e.1 (e.2 :: r)) (gap last [])
def pool (es : List (Nat × CpInfo)) (last : Nat) : Array CpInfo := ⟨poolList es last⟩
def fileOf (pool : Array CpInfo) (this : Nat) (attrs : Array Attribute := #[]) (ms : Array MethodInfo := #[]) (fl : Nat := 33) (sup : Nat := 0) (ifs : Array Nat := #[]) (fds : Array FieldInfo := #[]) : ClassFile where
  minorVersion := 0
  majorVersion := 65
  constantPool := pool
  accessFlags := fl
  thisClass := this
  superClass := sup
  interfaces := ifs
  fields := fds
  methods := ms
  attributes := attrs
def plain (name : String) (sup : Option ClassId) : Class where
  name := name
  kind := .ordinary
  loader := none
  accessFlags := 33
  super := sup
  interfaces := #[]
  cf := none
  fields := #[]
  methods := #[]
  instanceTypes := #[]
  staticTypes := #[]
  resolved := #[]
  callSites := []
  init := .initialized
  statics := none
  mirror := none

def pool0 : Array CpInfo := pool [(5, u "<init>"), (0, u "()V"), (1, .class_ 10), (1, u "java/lang/Object"), (85, u "clone"), (0, u "()Ljava/lang/Object;")] 26

def k0c0 : Code := { maxStack := 0, maxLocals := 1, code := object_method_1_code, exceptionTable := #[], attributes := #[] }
def k0m0 : Method := { name := "<init>", desc := "()V", sig := { parameters := [], returnType := none }, accessFlags := 1, code := some k0c0 }
def k0m1 : Method := { name := "clone", desc := "()Ljava/lang/Object;", sig := { parameters := [], returnType := some (.object "java/lang/Object") }, accessFlags := 260, code := none }
/-- java/lang/Object -/
def k0 : Class := { plain "java/lang/Object" none with
  accessFlags := 33
  interfaces := #[]
  cf := some (fileOf pool0 8 #[] #[{ accessFlags := 1, nameIndex := 5, descriptorIndex := 6, attributes := #[] }, { accessFlags := 260, nameIndex := 96, descriptorIndex := 97, attributes := #[] }] 33 0 #[] #[])
  fields := #[]
  methods := #[k0m0, k0m1]
  instanceTypes := #[]
  staticTypes := #[]
  resolved := Array.replicate 124 none
  statics := none }

def pool1 : Array CpInfo := pool [(2, .class_ 4), (1, u "java/lang/Object"), (0, u "<init>"), (0, u "()V"), (0, .string 8), (0, u "day"), (0, .string 10), (0, u "month"), (0, .methodref 12 13), (0, .class_ 14), (0, .nameAndType 15 16), (0, u "java/lang/String"), (0, u "length"), (0, u "()I"), (0, .methodref 12 18), (0, .nameAndType 19 20), (0, u "charAt"), (0, u "(I)C"), (0, .methodref 22 23), (0, .class_ 24), (0, .nameAndType 25 26), (0, u "com/example/tallyman/tallyman/ledger/PeriodNamedPinLaw"), (0, u "at"), (0, u "(III)C"), (0, .methodref 22 28), (0, .nameAndType 29 30), (0, u "ch"), (0, u "(IIIII)C"), (0, .methodref 12 32), (0, .nameAndType 5 33), (0, u "([C)V"), (0, .methodref 12 35), (0, .nameAndType 36 37), (0, u "equals"), (0, u "(Ljava/lang/Object;)Z"), (0, .fieldref 39 40), (0, .class_ 41), (0, .nameAndType 42 43), (0, u "com/example/tallyman/tallyman/ledger/Period"), (0, u "DAY"), (0, u "Lcom/example/tallyman/tallyman/ledger/Period;"), (0, .fieldref 39 45), (0, .nameAndType 46 43), (0, u "MONTH"), (0, .methodref 39 48), (0, .nameAndType 49 50), (0, u "named"), (0, u "(Ljava/lang/String;)Ljava/util/Optional;"), (0, .methodref 52 53), (0, .class_ 54), (0, .nameAndType 55 56), (0, u "java/util/Optional"), (0, u "orElse"), (0, u "(Ljava/lang/Object;)Ljava/lang/Object;"), (3, u "law"), (0, u "(IIIII)Z")] 2

def k1m0 : Method := { name := "<init>", desc := "()V", sig := { parameters := [], returnType := none }, accessFlags := 2, code := none }
def k1c1 : Code := { maxStack := 2, maxLocals := 4, code := method_2_code, exceptionTable := #[], attributes := #[] }
def k1m1 : Method := { name := "at", desc := "(III)C", sig := { parameters := [.int, .int, .int], returnType := some .char }, accessFlags := 10, code := some k1c1 }
def k1c2 : Code := { maxStack := 3, maxLocals := 5, code := method_3_code, exceptionTable := #[], attributes := #[] }
def k1m2 : Method := { name := "ch", desc := "(IIIII)C", sig := { parameters := [.int, .int, .int, .int, .int], returnType := some .char }, accessFlags := 10, code := some k1c2 }
def k1c3 : Code := { maxStack := 6, maxLocals := 16, code := code, exceptionTable := #[], attributes := #[] }
def k1m3 : Method := { name := "law", desc := "(IIIII)Z", sig := { parameters := [.int, .int, .int, .int, .int], returnType := some .boolean }, accessFlags := 9, code := some k1c3 }
/-- com/example/tallyman/tallyman/ledger/PeriodNamedPinLaw -/
def k1 : Class := { plain "com/example/tallyman/tallyman/ledger/PeriodNamedPinLaw" (some 0) with
  accessFlags := 49
  interfaces := #[]
  cf := some (fileOf pool1 22 #[] #[{ accessFlags := 2, nameIndex := 5, descriptorIndex := 6, attributes := #[] }, { accessFlags := 10, nameIndex := 25, descriptorIndex := 26, attributes := #[] }, { accessFlags := 10, nameIndex := 29, descriptorIndex := 30, attributes := #[] }, { accessFlags := 9, nameIndex := 60, descriptorIndex := 61, attributes := #[] }] 49 2 #[] #[])
  fields := #[]
  methods := #[k1m0, k1m1, k1m2, k1m3]
  instanceTypes := #[]
  staticTypes := #[]
  resolved := Array.replicate 64 none
  statics := none }

def pool2 : Array CpInfo := pool [(1, .class_ 2), (0, u "java/io/Serializable"), (0, .class_ 4), (0, u "java/lang/Object")] 2

/-- java/io/Serializable -/
def k2 : Class := { plain "java/io/Serializable" (some 0) with
  accessFlags := 1537
  interfaces := #[]
  cf := some (fileOf pool2 1 #[] #[] 1537 3 #[] #[])
  fields := #[]
  methods := #[]
  instanceTypes := #[]
  staticTypes := #[]
  resolved := Array.replicate 7 none
  statics := none }

def pool3 : Array CpInfo := pool [(1, .class_ 2), (0, u "java/lang/Comparable"), (0, .class_ 4), (0, u "java/lang/Object")] 7

/-- java/lang/Comparable -/
def k3 : Class := { plain "java/lang/Comparable" (some 0) with
  accessFlags := 1537
  interfaces := #[]
  cf := some (fileOf pool3 1 #[] #[] 1537 3 #[] #[])
  fields := #[]
  methods := #[]
  instanceTypes := #[]
  staticTypes := #[]
  resolved := Array.replicate 12 none
  statics := none }

def pool4 : Array CpInfo := pool [(2, .class_ 4), (1, u "java/lang/CharSequence"), (42, .class_ 48), (0, u "java/lang/CharSequence$1CodePointIterator"), (10, .class_ 60), (0, u "java/lang/CharSequence$1CharIterator"), (5, .class_ 67), (0, u "java/lang/Object")] 63

/-- java/lang/CharSequence -/
def k4 : Class := { plain "java/lang/CharSequence" (some 0) with
  accessFlags := 1537
  interfaces := #[]
  cf := some (fileOf pool4 2 #[.nestMembers #[47, 59]] #[] 1537 66 #[] #[])
  fields := #[]
  methods := #[]
  instanceTypes := #[]
  staticTypes := #[]
  resolved := Array.replicate 131 none
  statics := none }

def pool5 : Array CpInfo := pool [(1, .class_ 2), (0, u "java/lang/constant/Constable"), (0, .class_ 4), (0, u "java/lang/Object")] 6

/-- java/lang/constant/Constable -/
def k5 : Class := { plain "java/lang/constant/Constable" (some 0) with
  accessFlags := 1537
  interfaces := #[]
  cf := some (fileOf pool5 1 #[] #[] 1537 3 #[] #[])
  fields := #[]
  methods := #[]
  instanceTypes := #[]
  staticTypes := #[]
  resolved := Array.replicate 11 none
  statics := none }

def pool6 : Array CpInfo := pool [(1, .class_ 2), (0, u "java/lang/constant/ConstantDesc"), (0, .class_ 4), (0, u "java/lang/Object")] 32

/-- java/lang/constant/ConstantDesc -/
def k6 : Class := { plain "java/lang/constant/ConstantDesc" (some 0) with
  accessFlags := 1537
  interfaces := #[]
  cf := some (fileOf pool6 1 #[] #[] 1537 3 #[] #[])
  fields := #[]
  methods := #[]
  instanceTypes := #[]
  staticTypes := #[]
  resolved := Array.replicate 37 none
  statics := none }

def pool7 : Array CpInfo := pool [(1, .methodref 2 3), (0, .class_ 4), (0, .nameAndType 5 6), (0, u "java/lang/Object"), (0, u "<init>"), (0, u "()V"), (0, .string 8), (0, u ""), (0, .fieldref 10 11), (0, .class_ 12), (0, .nameAndType 13 14), (0, u "java/lang/String"), (0, u "value"), (0, u "[B"), (0, .fieldref 10 16), (0, .nameAndType 17 18), (0, u "coder"), (0, u "B"), (2, u "hash"), (0, u "I"), (2, u "hashIsZero"), (0, u "Z"), (0, .methodref 10 28), (0, .nameAndType 5 29), (0, u "([CIILjava/lang/Void;)V"), (8, .fieldref 10 39), (0, .nameAndType 40 26), (0, u "COMPACT_STRINGS"), (1, .class_ 44), (1, u "java/lang/StringUTF16"), (0, u "compress"), (1, .methodref 42 48), (0, .nameAndType 49 50), (0, u "coderFromArrayLen"), (0, u "([BI)B"), (56, .class_ 109), (1, u "java/lang/StringLatin1"), (32, u "()Z"), (34, .methodref 42 178), (0, .nameAndType 45 179), (0, u "([CII)[B"), (154, u "()I"), (0, .methodref 10 336), (0, .nameAndType 17 337), (0, u "()B"), (25, u "([BI)C"), (27, u "(II)V"), (35, u "(I)C"), (64, .methodref 10 493), (0, .nameAndType 494 142), (0, u "isLatin1"), (0, .methodref 107 496), (0, .nameAndType 497 363), (0, u "charAt"), (3, u "checkIndex"), (5, u "length"), (33, .methodref 107 542), (0, .nameAndType 543 544), (0, u "equals"), (0, u "([B[B)Z"), (28, u "(Ljava/lang/Object;)Z"), (1, .class_ 576), (0, u "java/lang/CharSequence"), (22, u "CASE_INSENSITIVE_ORDER"), (0, u "Ljava/util/Comparator;"), (409, u "([C)V"), (42, .fieldref 1054 1055), (0, .class_ 1056), (0, .nameAndType 1057 1058), (0, u "jdk/internal/util/Preconditions"), (0, u "SIOOBE_FORMATTER"), (0, u "Ljava/util/function/BiFunction;"), (0, .methodref 1054 1060), (0, .nameAndType 501 1061), (0, u "(IILjava/util/function/BiFunction;)I"), (39, u "serialPersistentFields"), (0, u "[Ljava/io/ObjectStreamField;"), (0, .class_ 1104), (0, u "java/lang/String$CaseInsensitiveComparator"), (1, .class_ 1107), (0, u "java/io/Serializable"), (0, .class_ 1109), (0, u "java/lang/Comparable"), (0, .class_ 1111), (0, u "java/lang/constant/Constable"), (0, .class_ 1113), (0, u "java/lang/constant/ConstantDesc"), (2, u "serialVersionUID"), (0, u "J"), (3, u "REPL"), (0, u "C"), (2, u "LATIN1"), (1, u "UTF16")] 323

def k7m0 : Method := { name := "<init>", desc := "()V", sig := { parameters := [], returnType := none }, accessFlags := 1, code := none }
def k7c1 : Code := { maxStack := 5, maxLocals := 2, code := jdk_42_method_3_code, exceptionTable := #[], attributes := #[] }
def k7m1 : Method := { name := "<init>", desc := "([C)V", sig := { parameters := [(.array .char)], returnType := none }, accessFlags := 1, code := some k7c1 }
def k7c2 : Code := { maxStack := 2, maxLocals := 1, code := jdk_42_method_54_code, exceptionTable := #[], attributes := #[] }
def k7m2 : Method := { name := "length", desc := "()I", sig := { parameters := [], returnType := some .int }, accessFlags := 1, code := some k7c2 }
def k7c3 : Code := { maxStack := 2, maxLocals := 2, code := jdk_42_method_56_code, exceptionTable := #[], attributes := #[] }
def k7m3 : Method := { name := "charAt", desc := "(I)C", sig := { parameters := [.int], returnType := some .char }, accessFlags := 1, code := some k7c3 }
def k7c4 : Code := { maxStack := 2, maxLocals := 3, code := jdk_42_method_66_code, exceptionTable := #[], attributes := #[] }
def k7m4 : Method := { name := "equals", desc := "(Ljava/lang/Object;)Z", sig := { parameters := [(.object "java/lang/Object")], returnType := some .boolean }, accessFlags := 1, code := some k7c4 }
def k7c5 : Code := { maxStack := 4, maxLocals := 6, code := jdk_42_method_149_code, exceptionTable := #[], attributes := #[] }
def k7m5 : Method := { name := "<init>", desc := "([CIILjava/lang/Void;)V", sig := { parameters := [(.array .char), .int, .int, (.object "java/lang/Void")], returnType := none }, accessFlags := 2, code := some k7c5 }
def k7c6 : Code := { maxStack := 1, maxLocals := 1, code := jdk_42_method_152_code, exceptionTable := #[], attributes := #[] }
def k7m6 : Method := { name := "coder", desc := "()B", sig := { parameters := [], returnType := some .byte }, accessFlags := 0, code := some k7c6 }
def k7c7 : Code := { maxStack := 1, maxLocals := 1, code := jdk_42_method_154_code, exceptionTable := #[], attributes := #[] }
def k7m7 : Method := { name := "isLatin1", desc := "()Z", sig := { parameters := [], returnType := some .boolean }, accessFlags := 0, code := some k7c7 }
def k7c8 : Code := { maxStack := 3, maxLocals := 2, code := jdk_42_method_155_code, exceptionTable := #[], attributes := #[] }
def k7m8 : Method := { name := "checkIndex", desc := "(II)V", sig := { parameters := [.int, .int], returnType := none }, accessFlags := 8, code := some k7c8 }
/-- java/lang/String -/
def k7 : Class := { plain "java/lang/String" (some 0) with
  accessFlags := 49
  interfaces := #[2, 3, 4, 5, 6]
  cf := some (fileOf pool7 10 #[.nestMembers #[1103]] #[{ accessFlags := 1, nameIndex := 5, descriptorIndex := 6, attributes := #[] }, { accessFlags := 1, nameIndex := 5, descriptorIndex := 1010, attributes := #[] }, { accessFlags := 1, nameIndex := 507, descriptorIndex := 334, attributes := #[] }, { accessFlags := 1, nameIndex := 497, descriptorIndex := 427, attributes := #[] }, { accessFlags := 1, nameIndex := 543, descriptorIndex := 573, attributes := #[] }, { accessFlags := 2, nameIndex := 5, descriptorIndex := 29, attributes := #[] }, { accessFlags := 0, nameIndex := 17, descriptorIndex := 337, attributes := #[] }, { accessFlags := 0, nameIndex := 494, descriptorIndex := 142, attributes := #[] }, { accessFlags := 8, nameIndex := 501, descriptorIndex := 391, attributes := #[] }] 49 2 #[1106, 1108, 575, 1110, 1112] #[{ accessFlags := 18, nameIndex := 13, descriptorIndex := 14, attributes := #[] }, { accessFlags := 18, nameIndex := 17, descriptorIndex := 18, attributes := #[] }, { accessFlags := 2, nameIndex := 21, descriptorIndex := 22, attributes := #[] }, { accessFlags := 2, nameIndex := 25, descriptorIndex := 26, attributes := #[] }, { accessFlags := 26, nameIndex := 1116, descriptorIndex := 1117, attributes := #[] }, { accessFlags := 24, nameIndex := 40, descriptorIndex := 26, attributes := #[] }, { accessFlags := 26, nameIndex := 1101, descriptorIndex := 1102, attributes := #[] }, { accessFlags := 26, nameIndex := 1121, descriptorIndex := 1122, attributes := #[] }, { accessFlags := 25, nameIndex := 599, descriptorIndex := 600, attributes := #[] }, { accessFlags := 24, nameIndex := 1125, descriptorIndex := 18, attributes := #[] }, { accessFlags := 24, nameIndex := 1127, descriptorIndex := 18, attributes := #[] }])
  fields := #[{ name := "value", type := (.array .byte), accessFlags := 18, slot := 0, constantValue := 0 }, { name := "coder", type := .byte, accessFlags := 18, slot := 1, constantValue := 0 }, { name := "hash", type := .int, accessFlags := 2, slot := 2, constantValue := 0 }, { name := "hashIsZero", type := .boolean, accessFlags := 2, slot := 3, constantValue := 0 }, { name := "serialVersionUID", type := .long, accessFlags := 26, slot := 0, constantValue := 0 }, { name := "COMPACT_STRINGS", type := .boolean, accessFlags := 24, slot := 1, constantValue := 0 }, { name := "serialPersistentFields", type := (.array (.object "java/io/ObjectStreamField")), accessFlags := 26, slot := 2, constantValue := 0 }, { name := "REPL", type := .char, accessFlags := 26, slot := 3, constantValue := 0 }, { name := "CASE_INSENSITIVE_ORDER", type := (.object "java/util/Comparator"), accessFlags := 25, slot := 4, constantValue := 0 }, { name := "LATIN1", type := .byte, accessFlags := 24, slot := 5, constantValue := 0 }, { name := "UTF16", type := .byte, accessFlags := 24, slot := 6, constantValue := 0 }]
  methods := #[k7m0, k7m1, k7m2, k7m3, k7m4, k7m5, k7m6, k7m7, k7m8]
  instanceTypes := #[(.array .byte), .byte, .int, .boolean]
  staticTypes := #[.long, .boolean, (.array (.object "java/io/ObjectStreamField")), .char, (.object "java/util/Comparator"), .byte, .byte]
  resolved := Array.replicate 1451 none
  statics := some 0 }

def pool8 : Array CpInfo := pool [(1, .class_ 2), (0, u "java/lang/String"), (1, .class_ 6), (1, u "java/lang/Object"), (0, u "<init>"), (0, u "()V"), (0, .methodref 1 10), (0, .nameAndType 11 12), (0, u "checkIndex"), (0, u "(II)V"), (1, .class_ 16), (1, u "java/lang/StringLatin1"), (36, u "([BI)C"), (67, u "$assertionsDisabled"), (0, u "Z"), (98, .class_ 223), (1, u "java/lang/StringLatin1$LinesSpliterator"), (28, u "charAt"), (28, u "equals"), (0, u "([B[B)Z"), (107, .class_ 391), (0, u "java/lang/StringLatin1$CharsSpliterator")] 3

def k8m0 : Method := { name := "<init>", desc := "()V", sig := { parameters := [], returnType := none }, accessFlags := 0, code := none }
def k8c1 : Code := { maxStack := 2, maxLocals := 2, code := jdk_43_method_2_code, exceptionTable := #[], attributes := #[] }
def k8m1 : Method := { name := "charAt", desc := "([BI)C", sig := { parameters := [(.array .byte), .int], returnType := some .char }, accessFlags := 9, code := some k8c1 }
def k8c2 : Code := { maxStack := 3, maxLocals := 3, code := jdk_43_method_13_code, exceptionTable := #[], attributes := #[] }
def k8m2 : Method := { name := "equals", desc := "([B[B)Z", sig := { parameters := [(.array .byte), (.array .byte)], returnType := some .boolean }, accessFlags := 9, code := some k8c2 }
/-- java/lang/StringLatin1 -/
def k8 : Class := { plain "java/lang/StringLatin1" (some 0) with
  accessFlags := 48
  interfaces := #[]
  cf := some (fileOf pool8 14 #[.nestMembers #[390, 221]] #[{ accessFlags := 0, nameIndex := 7, descriptorIndex := 8, attributes := #[] }, { accessFlags := 9, nameIndex := 252, descriptorIndex := 53, attributes := #[] }, { accessFlags := 9, nameIndex := 281, descriptorIndex := 282, attributes := #[] }] 48 4 #[] #[{ accessFlags := 4120, nameIndex := 121, descriptorIndex := 122, attributes := #[] }])
  fields := #[{ name := "$assertionsDisabled", type := .boolean, accessFlags := 4120, slot := 0, constantValue := 0 }]
  methods := #[k8m0, k8m1, k8m2]
  instanceTypes := #[]
  staticTypes := #[.boolean]
  resolved := Array.replicate 395 none
  statics := none }

def pool9 : Array CpInfo := pool [(2, .class_ 4), (1, u "java/lang/Object"), (0, u "<init>"), (0, u "()V"), (17, .class_ 26), (1, u "jdk/internal/util/Preconditions"), (6, u "checkIndex"), (21, .class_ 56), (0, u "jdk/internal/util/Preconditions$4"), (57, .class_ 115), (0, u "jdk/internal/util/Preconditions$1"), (7, u "SIOOBE_FORMATTER"), (0, u "Ljava/util/function/BiFunction;"), (0, .class_ 126), (0, u "jdk/internal/util/Preconditions$2"), (3, u "AIOOBE_FORMATTER"), (0, .class_ 132), (0, u "jdk/internal/util/Preconditions$3"), (3, u "IOOBE_FORMATTER"), (41, u "(IILjava/util/function/BiFunction;)I")] 15

def k9m0 : Method := { name := "<init>", desc := "()V", sig := { parameters := [], returnType := none }, accessFlags := 1, code := none }
def k9c1 : Code := { maxStack := 3, maxLocals := 3, code := jdk_41_method_11_code, exceptionTable := #[], attributes := #[] }
def k9m1 : Method := { name := "checkIndex", desc := "(IILjava/util/function/BiFunction;)I", sig := { parameters := [.int, .int, (.object "java/util/function/BiFunction")], returnType := some .int }, accessFlags := 9, code := some k9c1 }
/-- jdk/internal/util/Preconditions -/
def k9 : Class := { plain "jdk/internal/util/Preconditions" (some 0) with
  accessFlags := 33
  interfaces := #[]
  cf := some (fileOf pool9 24 #[.nestMembers #[55, 131, 125, 114]] #[{ accessFlags := 1, nameIndex := 5, descriptorIndex := 6, attributes := #[] }, { accessFlags := 9, nameIndex := 33, descriptorIndex := 178, attributes := #[] }] 33 2 #[] #[{ accessFlags := 25, nameIndex := 123, descriptorIndex := 124, attributes := #[] }, { accessFlags := 25, nameIndex := 130, descriptorIndex := 124, attributes := #[] }, { accessFlags := 25, nameIndex := 136, descriptorIndex := 124, attributes := #[] }])
  fields := #[{ name := "SIOOBE_FORMATTER", type := (.object "java/util/function/BiFunction"), accessFlags := 25, slot := 0, constantValue := 0 }, { name := "AIOOBE_FORMATTER", type := (.object "java/util/function/BiFunction"), accessFlags := 25, slot := 1, constantValue := 0 }, { name := "IOOBE_FORMATTER", type := (.object "java/util/function/BiFunction"), accessFlags := 25, slot := 2, constantValue := 0 }]
  methods := #[k9m0, k9m1]
  instanceTypes := #[]
  staticTypes := #[(.object "java/util/function/BiFunction"), (.object "java/util/function/BiFunction"), (.object "java/util/function/BiFunction")]
  resolved := Array.replicate 194 none
  statics := some 1 }

def pool10 : Array CpInfo := pool [(6, .class_ 8), (1, u "java/lang/Object"), (0, u "<init>"), (0, u "()V"), (1, .class_ 14), (1, u "java/lang/StringUTF16"), (31, u "$assertionsDisabled"), (0, u "Z"), (13, u "HI_BYTE_SHIFT"), (0, u "I"), (2, u "LO_BYTE_SHIFT"), (49, .methodref 12 116), (0, .nameAndType 117 118), (0, u "compress"), (0, u "([CI[BII)I"), (3, u "([CII)[B"), (138, u "coderFromArrayLen"), (0, u "([BI)B"), (106, .class_ 371), (1, u "java/lang/StringUTF16$LinesSpliterator"), (58, u "MAX_LENGTH"), (196, .class_ 628), (0, u "java/lang/StringUTF16$CodePointsSpliterator"), (0, .class_ 630), (0, u "java/lang/StringUTF16$CharsSpliterator")] 4

def k10m0 : Method := { name := "<init>", desc := "()V", sig := { parameters := [], returnType := none }, accessFlags := 0, code := none }
def k10c1 : Code := { maxStack := 2, maxLocals := 2, code := jdk_52_method_15_code, exceptionTable := #[], attributes := #[] }
def k10m1 : Method := { name := "coderFromArrayLen", desc := "([BI)B", sig := { parameters := [(.array .byte), .int], returnType := some .byte }, accessFlags := 8, code := some k10c1 }
def k10c2 : Code := { maxStack := 5, maxLocals := 6, code := jdk_52_method_16_code, exceptionTable := #[], attributes := #[] }
def k10m2 : Method := { name := "compress", desc := "([CII)[B", sig := { parameters := [(.array .char), .int, .int], returnType := some (.array .byte) }, accessFlags := 9, code := some k10c2 }
def k10c3 : Code := { maxStack := 3, maxLocals := 7, code := jdk_52_method_21_code, exceptionTable := #[], attributes := #[] }
def k10m3 : Method := { name := "compress", desc := "([CI[BII)I", sig := { parameters := [(.array .char), .int, (.array .byte), .int, .int], returnType := some .int }, accessFlags := 9, code := some k10c3 }
/-- java/lang/StringUTF16 -/
def k10 : Class := { plain "java/lang/StringUTF16" (some 0) with
  accessFlags := 48
  interfaces := #[]
  cf := some (fileOf pool10 12 #[.nestMembers #[627, 629, 369]] #[{ accessFlags := 0, nameIndex := 9, descriptorIndex := 10, attributes := #[] }, { accessFlags := 8, nameIndex := 261, descriptorIndex := 262, attributes := #[] }, { accessFlags := 9, nameIndex := 117, descriptorIndex := 122, attributes := #[] }, { accessFlags := 9, nameIndex := 117, descriptorIndex := 118, attributes := #[] }] 48 6 #[] #[{ accessFlags := 26, nameIndex := 61, descriptorIndex := 62, attributes := #[] }, { accessFlags := 26, nameIndex := 65, descriptorIndex := 62, attributes := #[] }, { accessFlags := 24, nameIndex := 430, descriptorIndex := 62, attributes := #[] }, { accessFlags := 4120, nameIndex := 46, descriptorIndex := 47, attributes := #[] }])
  fields := #[{ name := "HI_BYTE_SHIFT", type := .int, accessFlags := 26, slot := 0, constantValue := 0 }, { name := "LO_BYTE_SHIFT", type := .int, accessFlags := 26, slot := 1, constantValue := 0 }, { name := "MAX_LENGTH", type := .int, accessFlags := 24, slot := 2, constantValue := 0 }, { name := "$assertionsDisabled", type := .boolean, accessFlags := 4120, slot := 3, constantValue := 0 }]
  methods := #[k10m0, k10m1, k10m2, k10m3]
  instanceTypes := #[]
  staticTypes := #[.int, .int, .int, .boolean]
  resolved := Array.replicate 635 none
  statics := none }

def pool11 : Array CpInfo := pool [(2, .class_ 4), (1, u "java/lang/Enum"), (0, u "name"), (0, u "Ljava/lang/String;"), (2, u "ordinal"), (0, u "I"), (1, .class_ 14), (1, u "java/lang/Object"), (4, u "hash"), (86, .class_ 108), (1, u "java/lang/Enum$EnumDesc"), (2, .class_ 112), (0, u "java/lang/constant/Constable"), (0, .class_ 114), (0, u "java/lang/Comparable"), (0, .class_ 116), (0, u "java/io/Serializable")] 87

/-- java/lang/Enum -/
def k11 : Class := { plain "java/lang/Enum" (some 0) with
  accessFlags := 1057
  interfaces := #[5, 3, 2]
  cf := some (fileOf pool11 2 #[.nestMembers #[106]] #[] 1057 12 #[111, 113, 115] #[{ accessFlags := 18, nameIndex := 5, descriptorIndex := 6, attributes := #[] }, { accessFlags := 18, nameIndex := 9, descriptorIndex := 10, attributes := #[] }, { accessFlags := 2, nameIndex := 19, descriptorIndex := 10, attributes := #[] }])
  fields := #[{ name := "name", type := (.object "java/lang/String"), accessFlags := 18, slot := 0, constantValue := 0 }, { name := "ordinal", type := .int, accessFlags := 18, slot := 1, constantValue := 0 }, { name := "hash", type := .int, accessFlags := 2, slot := 2, constantValue := 0 }]
  methods := #[]
  instanceTypes := #[(.object "java/lang/String"), .int, .int]
  staticTypes := #[]
  resolved := Array.replicate 204 none
  statics := none }

def pool12 : Array CpInfo := pool [(1, .class_ 2), (0, u "com/example/tallyman/tallyman/ledger/Period"), (2, u "DAY"), (0, u "Lcom/example/tallyman/tallyman/ledger/Period;"), (2, u "MONTH"), (0, .fieldref 1 11), (0, .nameAndType 12 13), (0, u "$VALUES"), (0, u "[Lcom/example/tallyman/tallyman/ledger/Period;"), (0, .methodref 15 16), (0, .class_ 13), (0, .nameAndType 17 18), (0, u "clone"), (0, u "()Ljava/lang/Object;"), (1, .class_ 22), (1, u "java/lang/Enum"), (6, .fieldref 1 30), (0, .nameAndType 31 32), (0, u "text"), (0, u "Ljava/lang/String;"), (2, u "length"), (0, u "Ljava/time/temporal/ChronoUnit;"), (2, u "firstDay"), (0, u "Ljava/time/temporal/TemporalAdjuster;"), (0, .methodref 1 42), (0, .nameAndType 43 44), (0, u "values"), (0, u "()[Lcom/example/tallyman/tallyman/ledger/Period;"), (0, .methodref 46 47), (0, .class_ 48), (0, .nameAndType 49 50), (0, u "java/lang/String"), (0, u "equals"), (0, u "(Ljava/lang/Object;)Z"), (0, .methodref 52 53), (0, .class_ 54), (0, .nameAndType 55 56), (0, u "java/util/Optional"), (0, u "of"), (0, u "(Ljava/lang/Object;)Ljava/util/Optional;"), (0, .methodref 52 58), (0, .nameAndType 59 60), (0, u "empty"), (0, u "()Ljava/util/Optional;"), (69, u "named"), (0, u "(Ljava/lang/String;)Ljava/util/Optional;")] 32

def k12c0 : Code := { maxStack := 1, maxLocals := 0, code := prog_14_method_1_code, exceptionTable := #[], attributes := #[] }
def k12m0 : Method := { name := "values", desc := "()[Lcom/example/tallyman/tallyman/ledger/Period;", sig := { parameters := [], returnType := some (.array (.object "com/example/tallyman/tallyman/ledger/Period")) }, accessFlags := 9, code := some k12c0 }
def k12c1 : Code := { maxStack := 2, maxLocals := 5, code := prog_14_method_4_code, exceptionTable := #[], attributes := #[] }
def k12m1 : Method := { name := "named", desc := "(Ljava/lang/String;)Ljava/util/Optional;", sig := { parameters := [(.object "java/lang/String")], returnType := some (.object "java/util/Optional") }, accessFlags := 9, code := some k12c1 }
/-- com/example/tallyman/tallyman/ledger/Period -/
def k12 : Class := { plain "com/example/tallyman/tallyman/ledger/Period" (some 11) with
  accessFlags := 16433
  interfaces := #[]
  cf := some (fileOf pool12 1 #[] #[{ accessFlags := 9, nameIndex := 43, descriptorIndex := 44, attributes := #[] }, { accessFlags := 9, nameIndex := 130, descriptorIndex := 131, attributes := #[] }] 16433 20 #[] #[{ accessFlags := 16409, nameIndex := 5, descriptorIndex := 6, attributes := #[] }, { accessFlags := 16409, nameIndex := 9, descriptorIndex := 6, attributes := #[] }, { accessFlags := 18, nameIndex := 31, descriptorIndex := 32, attributes := #[] }, { accessFlags := 18, nameIndex := 35, descriptorIndex := 36, attributes := #[] }, { accessFlags := 18, nameIndex := 39, descriptorIndex := 40, attributes := #[] }, { accessFlags := 4122, nameIndex := 12, descriptorIndex := 13, attributes := #[] }])
  fields := #[{ name := "DAY", type := (.object "com/example/tallyman/tallyman/ledger/Period"), accessFlags := 16409, slot := 0, constantValue := 0 }, { name := "MONTH", type := (.object "com/example/tallyman/tallyman/ledger/Period"), accessFlags := 16409, slot := 1, constantValue := 0 }, { name := "text", type := (.object "java/lang/String"), accessFlags := 18, slot := 3, constantValue := 0 }, { name := "length", type := (.object "java/time/temporal/ChronoUnit"), accessFlags := 18, slot := 4, constantValue := 0 }, { name := "firstDay", type := (.object "java/time/temporal/TemporalAdjuster"), accessFlags := 18, slot := 5, constantValue := 0 }, { name := "$VALUES", type := (.array (.object "com/example/tallyman/tallyman/ledger/Period")), accessFlags := 4122, slot := 2, constantValue := 0 }]
  methods := #[k12m0, k12m1]
  instanceTypes := #[(.object "java/lang/String"), .int, .int, (.object "java/lang/String"), (.object "java/time/temporal/ChronoUnit"), (.object "java/time/temporal/TemporalAdjuster")]
  staticTypes := #[(.object "com/example/tallyman/tallyman/ledger/Period"), (.object "com/example/tallyman/tallyman/ledger/Period"), (.array (.object "com/example/tallyman/tallyman/ledger/Period"))]
  resolved := Array.replicate 164 none
  statics := some 2 }

def pool13 : Array CpInfo := pool [(1, .class_ 2), (0, u "java/lang/Cloneable"), (0, .class_ 4), (0, u "java/lang/Object")] 2

/-- java/lang/Cloneable -/
def k13 : Class := { plain "java/lang/Cloneable" (some 0) with
  accessFlags := 1537
  interfaces := #[]
  cf := some (fileOf pool13 1 #[] #[] 1537 3 #[] #[])
  fields := #[]
  methods := #[]
  instanceTypes := #[]
  staticTypes := #[]
  resolved := Array.replicate 7 none
  statics := none }

def pool14 : Array CpInfo := pool [(1, .fieldref 2 3), (0, .class_ 4), (0, .nameAndType 5 6), (0, u "java/util/Optional"), (0, u "EMPTY"), (0, u "Ljava/util/Optional;"), (0, .methodref 8 9), (0, .class_ 10), (0, .nameAndType 11 12), (0, u "java/lang/Object"), (0, u "<init>"), (0, u "()V"), (0, .fieldref 2 14), (0, .nameAndType 15 16), (0, u "value"), (0, u "Ljava/lang/Object;"), (0, .methodref 18 19), (0, .class_ 20), (0, .nameAndType 21 22), (0, u "java/util/Objects"), (0, u "requireNonNull"), (0, u "(Ljava/lang/Object;)Ljava/lang/Object;"), (0, .methodref 2 24), (0, .nameAndType 11 25), (0, u "(Ljava/lang/Object;)V"), (29, u "empty"), (0, u "()Ljava/util/Optional;"), (8, u "(Ljava/lang/Object;)Ljava/util/Optional;"), (16, u "of"), (82, u "orElse")] 21

def k14c0 : Code := { maxStack := 1, maxLocals := 1, code := jdk_32_method_1_code, exceptionTable := #[], attributes := #[] }
def k14m0 : Method := { name := "empty", desc := "()Ljava/util/Optional;", sig := { parameters := [], returnType := some (.object "java/util/Optional") }, accessFlags := 9, code := some k14c0 }
def k14c1 : Code := { maxStack := 2, maxLocals := 2, code := jdk_32_method_2_code, exceptionTable := #[], attributes := #[] }
def k14m1 : Method := { name := "<init>", desc := "(Ljava/lang/Object;)V", sig := { parameters := [(.object "java/lang/Object")], returnType := none }, accessFlags := 2, code := some k14c1 }
def k14c2 : Code := { maxStack := 3, maxLocals := 1, code := jdk_32_method_3_code, exceptionTable := #[], attributes := #[] }
def k14m2 : Method := { name := "of", desc := "(Ljava/lang/Object;)Ljava/util/Optional;", sig := { parameters := [(.object "java/lang/Object")], returnType := some (.object "java/util/Optional") }, accessFlags := 9, code := some k14c2 }
def k14c3 : Code := { maxStack := 1, maxLocals := 2, code := jdk_32_method_15_code, exceptionTable := #[], attributes := #[] }
def k14m3 : Method := { name := "orElse", desc := "(Ljava/lang/Object;)Ljava/lang/Object;", sig := { parameters := [(.object "java/lang/Object")], returnType := some (.object "java/lang/Object") }, accessFlags := 1, code := some k14c3 }
/-- java/util/Optional -/
def k14 : Class := { plain "java/util/Optional" (some 0) with
  accessFlags := 49
  interfaces := #[]
  cf := some (fileOf pool14 2 #[] #[{ accessFlags := 9, nameIndex := 55, descriptorIndex := 56, attributes := #[] }, { accessFlags := 2, nameIndex := 11, descriptorIndex := 25, attributes := #[] }, { accessFlags := 9, nameIndex := 82, descriptorIndex := 65, attributes := #[] }, { accessFlags := 1, nameIndex := 165, descriptorIndex := 22, attributes := #[] }] 49 8 #[] #[{ accessFlags := 26, nameIndex := 5, descriptorIndex := 6, attributes := #[] }, { accessFlags := 18, nameIndex := 15, descriptorIndex := 16, attributes := #[] }])
  fields := #[{ name := "EMPTY", type := (.object "java/util/Optional"), accessFlags := 26, slot := 0, constantValue := 0 }, { name := "value", type := (.object "java/lang/Object"), accessFlags := 18, slot := 0, constantValue := 0 }]
  methods := #[k14m0, k14m1, k14m2, k14m3]
  instanceTypes := #[(.object "java/lang/Object")]
  staticTypes := #[(.object "java/util/Optional")]
  resolved := Array.replicate 187 none
  statics := some 3 }

def pool15 : Array CpInfo := pool [(2, .class_ 4), (1, u "java/lang/Object"), (0, u "<init>"), (0, u "()V"), (35, .class_ 44), (1, u "java/util/Objects"), (0, u "requireNonNull"), (0, u "(Ljava/lang/Object;)Ljava/lang/Object;")] 137

def k15m0 : Method := { name := "<init>", desc := "()V", sig := { parameters := [], returnType := none }, accessFlags := 2, code := none }
def k15c1 : Code := { maxStack := 2, maxLocals := 1, code := jdk_31_method_10_code, exceptionTable := #[], attributes := #[] }
def k15m1 : Method := { name := "requireNonNull", desc := "(Ljava/lang/Object;)Ljava/lang/Object;", sig := { parameters := [(.object "java/lang/Object")], returnType := some (.object "java/lang/Object") }, accessFlags := 9, code := some k15c1 }
/-- java/util/Objects -/
def k15 : Class := { plain "java/util/Objects" (some 0) with
  accessFlags := 49
  interfaces := #[]
  cf := some (fileOf pool15 42 #[] #[{ accessFlags := 2, nameIndex := 5, descriptorIndex := 6, attributes := #[] }, { accessFlags := 9, nameIndex := 45, descriptorIndex := 46, attributes := #[] }] 49 2 #[] #[])
  fields := #[]
  methods := #[k15m0, k15m1]
  instanceTypes := #[]
  staticTypes := #[]
  resolved := Array.replicate 184 none
  statics := none }

def pool16 : Array CpInfo := pool [(9, u "<init>"), (6, .class_ 18), (1, u "java/lang/Object"), (0, u "()V"), (1, .class_ 23), (1, u "jdk/internal/util/ArraysSupport"), (0, u "LOG2_ARRAY_LONG_INDEX_SCALE"), (0, u "I"), (2, u "U"), (0, u "Ljdk/internal/misc/Unsafe;"), (8, u "BIG_ENDIAN"), (0, u "Z"), (8, u "LOG2_BYTE_BIT_SIZE"), (4, u "LOG2_ARRAY_INT_INDEX_SCALE"), (54, u "JLA"), (0, u "Ljdk/internal/access/JavaLangAccess;"), (11, u "LOG2_ARRAY_BOOLEAN_INDEX_SCALE"), (9, u "LOG2_ARRAY_BYTE_INDEX_SCALE"), (5, u "LOG2_ARRAY_CHAR_INDEX_SCALE"), (5, u "LOG2_ARRAY_SHORT_INDEX_SCALE"), (18, u "LOG2_ARRAY_FLOAT_INDEX_SCALE"), (24, u "LOG2_ARRAY_DOUBLE_INDEX_SCALE"), (89, u "T_BOOLEAN"), (2, u "T_CHAR"), (1, u "T_FLOAT"), (1, u "T_DOUBLE"), (1, u "T_BYTE"), (1, u "T_SHORT"), (1, u "T_INT"), (1, u "T_LONG"), (1, u "SOFT_MAX_ARRAY_LENGTH")] 83

def k16m0 : Method := { name := "<init>", desc := "()V", sig := { parameters := [], returnType := none }, accessFlags := 2, code := none }
/-- jdk/internal/util/ArraysSupport -/
def k16 : Class := { plain "jdk/internal/util/ArraysSupport" (some 0) with
  accessFlags := 33
  interfaces := #[]
  cf := some (fileOf pool16 21 #[] #[{ accessFlags := 2, nameIndex := 9, descriptorIndex := 19, attributes := #[] }] 33 16 #[] #[{ accessFlags := 24, nameIndex := 28, descriptorIndex := 29, attributes := #[] }, { accessFlags := 26, nameIndex := 38, descriptorIndex := 39, attributes := #[] }, { accessFlags := 25, nameIndex := 121, descriptorIndex := 25, attributes := #[] }, { accessFlags := 25, nameIndex := 131, descriptorIndex := 25, attributes := #[] }, { accessFlags := 25, nameIndex := 137, descriptorIndex := 25, attributes := #[] }, { accessFlags := 25, nameIndex := 143, descriptorIndex := 25, attributes := #[] }, { accessFlags := 25, nameIndex := 53, descriptorIndex := 25, attributes := #[] }, { accessFlags := 25, nameIndex := 24, descriptorIndex := 25, attributes := #[] }, { accessFlags := 25, nameIndex := 162, descriptorIndex := 25, attributes := #[] }, { accessFlags := 25, nameIndex := 187, descriptorIndex := 25, attributes := #[] }, { accessFlags := 26, nameIndex := 48, descriptorIndex := 25, attributes := #[] }, { accessFlags := 25, nameIndex := 277, descriptorIndex := 25, attributes := #[] }, { accessFlags := 25, nameIndex := 280, descriptorIndex := 25, attributes := #[] }, { accessFlags := 25, nameIndex := 282, descriptorIndex := 25, attributes := #[] }, { accessFlags := 25, nameIndex := 284, descriptorIndex := 25, attributes := #[] }, { accessFlags := 25, nameIndex := 286, descriptorIndex := 25, attributes := #[] }, { accessFlags := 25, nameIndex := 288, descriptorIndex := 25, attributes := #[] }, { accessFlags := 25, nameIndex := 290, descriptorIndex := 25, attributes := #[] }, { accessFlags := 25, nameIndex := 292, descriptorIndex := 25, attributes := #[] }, { accessFlags := 26, nameIndex := 108, descriptorIndex := 109, attributes := #[] }, { accessFlags := 25, nameIndex := 294, descriptorIndex := 25, attributes := #[] }])
  fields := #[{ name := "U", type := (.object "jdk/internal/misc/Unsafe"), accessFlags := 24, slot := 0, constantValue := 0 }, { name := "BIG_ENDIAN", type := .boolean, accessFlags := 26, slot := 1, constantValue := 0 }, { name := "LOG2_ARRAY_BOOLEAN_INDEX_SCALE", type := .int, accessFlags := 25, slot := 2, constantValue := 0 }, { name := "LOG2_ARRAY_BYTE_INDEX_SCALE", type := .int, accessFlags := 25, slot := 3, constantValue := 0 }, { name := "LOG2_ARRAY_CHAR_INDEX_SCALE", type := .int, accessFlags := 25, slot := 4, constantValue := 0 }, { name := "LOG2_ARRAY_SHORT_INDEX_SCALE", type := .int, accessFlags := 25, slot := 5, constantValue := 0 }, { name := "LOG2_ARRAY_INT_INDEX_SCALE", type := .int, accessFlags := 25, slot := 6, constantValue := 0 }, { name := "LOG2_ARRAY_LONG_INDEX_SCALE", type := .int, accessFlags := 25, slot := 7, constantValue := 0 }, { name := "LOG2_ARRAY_FLOAT_INDEX_SCALE", type := .int, accessFlags := 25, slot := 8, constantValue := 0 }, { name := "LOG2_ARRAY_DOUBLE_INDEX_SCALE", type := .int, accessFlags := 25, slot := 9, constantValue := 0 }, { name := "LOG2_BYTE_BIT_SIZE", type := .int, accessFlags := 26, slot := 10, constantValue := 0 }, { name := "T_BOOLEAN", type := .int, accessFlags := 25, slot := 11, constantValue := 0 }, { name := "T_CHAR", type := .int, accessFlags := 25, slot := 12, constantValue := 0 }, { name := "T_FLOAT", type := .int, accessFlags := 25, slot := 13, constantValue := 0 }, { name := "T_DOUBLE", type := .int, accessFlags := 25, slot := 14, constantValue := 0 }, { name := "T_BYTE", type := .int, accessFlags := 25, slot := 15, constantValue := 0 }, { name := "T_SHORT", type := .int, accessFlags := 25, slot := 16, constantValue := 0 }, { name := "T_INT", type := .int, accessFlags := 25, slot := 17, constantValue := 0 }, { name := "T_LONG", type := .int, accessFlags := 25, slot := 18, constantValue := 0 }, { name := "JLA", type := (.object "jdk/internal/access/JavaLangAccess"), accessFlags := 26, slot := 19, constantValue := 0 }, { name := "SOFT_MAX_ARRAY_LENGTH", type := .int, accessFlags := 25, slot := 20, constantValue := 0 }]
  methods := #[k16m0]
  instanceTypes := #[]
  staticTypes := #[(.object "jdk/internal/misc/Unsafe"), .boolean, .int, .int, .int, .int, .int, .int, .int, .int, .int, .int, .int, .int, .int, .int, .int, .int, .int, (.object "jdk/internal/access/JavaLangAccess"), .int]
  resolved := Array.replicate 378 none
  statics := none }

/-- the primitive byte -/
def k17 : Class := { plain "byte" none with kind := .primitive 'B', accessFlags := 0x411 }
/-- [B -/
def k18 : Class := { plain "[B" (some 0) with kind := .array 17 .byte, interfaces := #[13, 2], accessFlags := 1041 }

/-- the primitive char -/
def k19 : Class := { plain "char" none with kind := .primitive 'C', accessFlags := 0x411 }
/-- [C -/
def k20 : Class := { plain "[C" (some 0) with kind := .array 19 .char, interfaces := #[13, 2], accessFlags := 1041 }

/-- the primitive int -/
def k21 : Class := { plain "int" none with kind := .primitive 'I', accessFlags := 0x411 }
/-- [I -/
def k22 : Class := { plain "[I" (some 0) with kind := .array 21 .int, interfaces := #[13, 2], accessFlags := 1041 }

/-- [Lcom/example/tallyman/tallyman/ledger/Period; -/
def k23 : Class := { plain "[Lcom/example/tallyman/tallyman/ledger/Period;" (some 0) with kind := .array 12 (.object "com/example/tallyman/tallyman/ledger/Period"), interfaces := #[13, 2], accessFlags := 1041 }

def heap : Heap := #[{ cls := 7, slots := #[.long 0, .int 1, .null, .int 0, .null, .int 0, .int 0], vm := .statics 7 },
  { cls := 9, slots := #[.null, .null, .null], vm := .statics 9 },
  { cls := 12, slots := #[.ref 5, .ref 6, .ref 4], vm := .statics 12 },
  { cls := 14, slots := #[.ref 11], vm := .statics 14 },
  { cls := 23, slots := #[.ref 5, .ref 6], vm := .none },
  { cls := 12, slots := #[.null, .int 0, .int 0, .ref 7, .null, .null], vm := .none },
  { cls := 12, slots := #[.null, .int 1, .int 0, .ref 8, .null, .null], vm := .none },
  { cls := 7, slots := #[.ref 9, .int 0, .int 0, .int 0], vm := .none },
  { cls := 7, slots := #[.ref 10, .int 0, .int 0, .int 0], vm := .none },
  { cls := 18, slots := #[.int 100, .int 97, .int 121], vm := .none },
  { cls := 18, slots := #[.int 109, .int 111, .int 110, .int 116, .int 104], vm := .none },
  { cls := 14, slots := #[.null], vm := .none }]
def classes : Array Class := #[k0, k1, k2, k3, k4, k5, k6, k7, k8, k9, k10, k11, k12, k13, k14, k15, k16, k17, k18, k19, k20, k21, k22, k23]
def interned : List (Array UInt16 × Addr) := []
def slotsUsed : Nat := 45
def theMethod : MethodId := ⟨1, 3⟩
def args0 : Array Value := #[.int 5, .int 5, .int 5, .int 5, .int 5]
def aboutOver (below : List Frame) : State where
  vm := { classes := classes, interned := interned.toArray }
  heap := heap
  slotsUsed := slotsUsed
  threads := #[{ frames := .invoking theMethod args0 :: below }]
def below0 : List Frame := [.native { method := ⟨0, 0⟩, args := #[] }]
def about1 : State := aboutOver below0
def p0 : Program := .bare "" "" ""
def e0 : Env := launch0.env 0 0 0
theorem w_frames : about1.frames = Frame.invoking theMethod args0 :: below0 := rfl
set_option maxRecDepth 65536 in
theorem w_args : argsFit about1.vm theMethod args0 = true := by decide +kernel
set_option maxRecDepth 65536 in
theorem w_heap : heapFits about1 = true := by decide +kernel
set_option maxRecDepth 65536 in
theorem w_runnable : about1.curStatus? = some .runnable := by decide +kernel
set_option maxRecDepth 65536 in
theorem w_alone : about1.alone = true := by decide +kernel
set_option maxRecDepth 65536 in
theorem w_named : about1.methodNamed? x = some theMethod := by decide +kernel
set_option maxRecDepth 65536 in
theorem w_hears : about1.hears theMethod below0 = true := by decide +kernel
set_option maxRecDepth 65536 in
theorem w_ripe : about1.ripe theMethod args0 below0 = true := by decide +kernel
theorem w_running : about1.status = .running := rfl
set_option maxRecDepth 65536 in
theorem w_room : about1.hasRoom e0.platform room_1 = true :=
  launch0.hasRoom_least _ room_1 (by decide +kernel) (by decide +kernel) (by decide +kernel) (by decide +kernel) (by decide +kernel) (by decide +kernel)
theorem allAtoms_all (ts : List Jvm.Cond) (a : Array Jvm.Value) (st : Jvm.State) : (allAtoms ts).before a st = ts.all (fun c => c.before a st) := by
  induction ts with
  | nil => rfl
  | cons c t ih =>
    show (Jvm.Cond.and c (allAtoms t)).before a st = _
    rw [Jvm.Cond.before_and, ih, List.all_cons]
def words1 : List Jvm.Cond := Jvm.Cond.code x code maxLocals ret :: tables_1
/-- a 'code' word, met by the world's own term for the bytes: nothing is compared byte by byte -/
theorem code_word {y : MethodName} {bytes : ByteArray} {mx : Nat} {rt : Option FieldType} {a : Array Value} {s : State} {m : MethodId} {meth : Method} {c : Code} (h1 : s.methodNamed? y = some m) (h2 : s.vm.method? m = some meth) (h3 : meth.code = some c) (h4 : c.code = bytes)
    (h5 : (c.maxLocals == mx && c.exceptionTable.isEmpty && decide (c.maxStack ≤ mostOperands) && decide (meth.sig.returnType = rt) && !meth.locks && decide (parseMethodDescriptor y.desc = some meth.sig)) = true) : (Jvm.Cond.code y bytes mx rt).before a s = true := by
  simp only [Bool.and_eq_true, beq_iff_eq, Bool.not_eq_true', decide_eq_true_eq] at h5
  obtain ⟨⟨⟨⟨⟨g1, g2⟩, g3⟩, g4⟩, g5⟩, g6⟩ := h5
  simp [Cond.before, Cond.holds, Cond.value, h1, h2, h3, h4, g1, g2, g3, g4, g5, g6]
def isCode : Jvm.Cond → Bool
  | .code _ _ _ _ => true
  | _ => false
theorem all_split {L : List Jvm.Cond} {P : Jvm.Cond → Bool} (h1 : L.all (fun c => isCode c || P c) = true) (h2 : ∀ c ∈ L.filter isCode, P c = true) : L.all P = true := by
  refine List.all_eq_true.mpr fun c hc => ?_
  have h := List.all_eq_true.mp h1 c hc
  rcases Bool.eq_false_or_eq_true (isCode c) with hi | hi
  · exact h2 c (List.mem_filter.mpr ⟨hc, hi⟩)
  · simpa [hi] using h
set_option maxRecDepth 65536 in
theorem w_c0 : (Jvm.Cond.code x code maxLocals ret).before args0 about1 = true := code_word (m := ⟨1, 3⟩) (meth := k1m3) (c := k1c3) (by decide +kernel) rfl rfl rfl (by decide +kernel)
set_option maxRecDepth 65536 in
theorem w_c1 : (Jvm.Cond.code ({ cls := "com/example/tallyman/tallyman/ledger/PeriodNamedPinLaw", name := "ch", desc := "(IIIII)C" } : Jvm.MethodName) method_3_code (5 : Nat) (Option.some Jvm.ClassFile.FieldType.char)).before args0 about1 = true := code_word (m := ⟨1, 2⟩) (meth := k1m2) (c := k1c2) (by decide +kernel) rfl rfl rfl (by decide +kernel)
set_option maxRecDepth 65536 in
theorem w_c2 : (Jvm.Cond.code ({ cls := "com/example/tallyman/tallyman/ledger/PeriodNamedPinLaw", name := "at", desc := "(III)C" } : Jvm.MethodName) method_2_code (4 : Nat) (Option.some Jvm.ClassFile.FieldType.char)).before args0 about1 = true := code_word (m := ⟨1, 1⟩) (meth := k1m1) (c := k1c1) (by decide +kernel) rfl rfl rfl (by decide +kernel)
set_option maxRecDepth 65536 in
theorem w_c3 : (Jvm.Cond.code ({ cls := "java/lang/String", name := "length", desc := "()I" } : Jvm.MethodName) jdk_42_method_54_code (1 : Nat) (Option.some Jvm.ClassFile.FieldType.int)).before args0 about1 = true := code_word (m := ⟨7, 2⟩) (meth := k7m2) (c := k7c2) (by decide +kernel) rfl rfl rfl (by decide +kernel)
set_option maxRecDepth 65536 in
theorem w_c4 : (Jvm.Cond.code ({ cls := "java/lang/String", name := "coder", desc := "()B" } : Jvm.MethodName) jdk_42_method_152_code (1 : Nat) (Option.some Jvm.ClassFile.FieldType.byte)).before args0 about1 = true := code_word (m := ⟨7, 6⟩) (meth := k7m6) (c := k7c6) (by decide +kernel) rfl rfl rfl (by decide +kernel)
set_option maxRecDepth 65536 in
theorem w_c5 : (Jvm.Cond.code ({ cls := "java/lang/String", name := "charAt", desc := "(I)C" } : Jvm.MethodName) jdk_42_method_56_code (2 : Nat) (Option.some Jvm.ClassFile.FieldType.char)).before args0 about1 = true := code_word (m := ⟨7, 3⟩) (meth := k7m3) (c := k7c3) (by decide +kernel) rfl rfl rfl (by decide +kernel)
set_option maxRecDepth 65536 in
theorem w_c6 : (Jvm.Cond.code ({ cls := "java/lang/String", name := "isLatin1", desc := "()Z" } : Jvm.MethodName) jdk_42_method_154_code (1 : Nat) (Option.some Jvm.ClassFile.FieldType.boolean)).before args0 about1 = true := code_word (m := ⟨7, 7⟩) (meth := k7m7) (c := k7c7) (by decide +kernel) rfl rfl rfl (by decide +kernel)
set_option maxRecDepth 65536 in
theorem w_c7 : (Jvm.Cond.code ({ cls := "java/lang/StringLatin1", name := "charAt", desc := "([BI)C" } : Jvm.MethodName) jdk_43_method_2_code (2 : Nat) (Option.some Jvm.ClassFile.FieldType.char)).before args0 about1 = true := code_word (m := ⟨8, 1⟩) (meth := k8m1) (c := k8c1) (by decide +kernel) rfl rfl rfl (by decide +kernel)
set_option maxRecDepth 65536 in
theorem w_c8 : (Jvm.Cond.code ({ cls := "java/lang/String", name := "checkIndex", desc := "(II)V" } : Jvm.MethodName) jdk_42_method_155_code (2 : Nat) (Option.none : Option Jvm.ClassFile.FieldType)).before args0 about1 = true := code_word (m := ⟨7, 8⟩) (meth := k7m8) (c := k7c8) (by decide +kernel) rfl rfl rfl (by decide +kernel)
set_option maxRecDepth 65536 in
theorem w_c9 : (Jvm.Cond.code ({ cls := "jdk/internal/util/Preconditions", name := "checkIndex", desc := "(IILjava/util/function/BiFunction;)I" } : Jvm.MethodName) jdk_41_method_11_code (3 : Nat) (Option.some Jvm.ClassFile.FieldType.int)).before args0 about1 = true := code_word (m := ⟨9, 1⟩) (meth := k9m1) (c := k9c1) (by decide +kernel) rfl rfl rfl (by decide +kernel)
set_option maxRecDepth 65536 in
theorem w_c10 : (Jvm.Cond.code ({ cls := "java/lang/String", name := "<init>", desc := "([C)V" } : Jvm.MethodName) jdk_42_method_3_code (2 : Nat) (Option.none : Option Jvm.ClassFile.FieldType)).before args0 about1 = true := code_word (m := ⟨7, 1⟩) (meth := k7m1) (c := k7c1) (by decide +kernel) rfl rfl rfl (by decide +kernel)
set_option maxRecDepth 65536 in
theorem w_c11 : (Jvm.Cond.code ({ cls := "java/lang/String", name := "<init>", desc := "([CIILjava/lang/Void;)V" } : Jvm.MethodName) jdk_42_method_149_code (6 : Nat) (Option.none : Option Jvm.ClassFile.FieldType)).before args0 about1 = true := code_word (m := ⟨7, 5⟩) (meth := k7m5) (c := k7c5) (by decide +kernel) rfl rfl rfl (by decide +kernel)
set_option maxRecDepth 65536 in
theorem w_c12 : (Jvm.Cond.code ({ cls := "java/lang/Object", name := "<init>", desc := "()V" } : Jvm.MethodName) object_method_1_code (1 : Nat) (Option.none : Option Jvm.ClassFile.FieldType)).before args0 about1 = true := code_word (m := ⟨0, 0⟩) (meth := k0m0) (c := k0c0) (by decide +kernel) rfl rfl rfl (by decide +kernel)
set_option maxRecDepth 65536 in
theorem w_c13 : (Jvm.Cond.code ({ cls := "java/lang/StringUTF16", name := "compress", desc := "([CII)[B" } : Jvm.MethodName) jdk_52_method_16_code (6 : Nat) (Option.some (Jvm.ClassFile.FieldType.array Jvm.ClassFile.FieldType.byte))).before args0 about1 = true := code_word (m := ⟨10, 2⟩) (meth := k10m2) (c := k10c2) (by decide +kernel) rfl rfl rfl (by decide +kernel)
set_option maxRecDepth 65536 in
theorem w_c14 : (Jvm.Cond.code ({ cls := "java/lang/StringUTF16", name := "compress", desc := "([CI[BII)I" } : Jvm.MethodName) jdk_52_method_21_code (7 : Nat) (Option.some Jvm.ClassFile.FieldType.int)).before args0 about1 = true := code_word (m := ⟨10, 3⟩) (meth := k10m3) (c := k10c3) (by decide +kernel) rfl rfl rfl (by decide +kernel)
set_option maxRecDepth 65536 in
theorem w_c15 : (Jvm.Cond.code ({ cls := "java/lang/StringUTF16", name := "coderFromArrayLen", desc := "([BI)B" } : Jvm.MethodName) jdk_52_method_15_code (2 : Nat) (Option.some Jvm.ClassFile.FieldType.byte)).before args0 about1 = true := code_word (m := ⟨10, 1⟩) (meth := k10m1) (c := k10c1) (by decide +kernel) rfl rfl rfl (by decide +kernel)
set_option maxRecDepth 65536 in
theorem w_c16 : (Jvm.Cond.code ({ cls := "java/lang/String", name := "equals", desc := "(Ljava/lang/Object;)Z" } : Jvm.MethodName) jdk_42_method_66_code (3 : Nat) (Option.some Jvm.ClassFile.FieldType.boolean)).before args0 about1 = true := code_word (m := ⟨7, 4⟩) (meth := k7m4) (c := k7c4) (by decide +kernel) rfl rfl rfl (by decide +kernel)
set_option maxRecDepth 65536 in
theorem w_c17 : (Jvm.Cond.code ({ cls := "java/lang/StringLatin1", name := "equals", desc := "([B[B)Z" } : Jvm.MethodName) jdk_43_method_13_code (3 : Nat) (Option.some Jvm.ClassFile.FieldType.boolean)).before args0 about1 = true := code_word (m := ⟨8, 2⟩) (meth := k8m2) (c := k8c2) (by decide +kernel) rfl rfl rfl (by decide +kernel)
set_option maxRecDepth 65536 in
theorem w_c18 : (Jvm.Cond.code ({ cls := "com/example/tallyman/tallyman/ledger/Period", name := "named", desc := "(Ljava/lang/String;)Ljava/util/Optional;" } : Jvm.MethodName) prog_14_method_4_code (5 : Nat) (Option.some (Jvm.ClassFile.FieldType.object "java/util/Optional"))).before args0 about1 = true := code_word (m := ⟨12, 1⟩) (meth := k12m1) (c := k12c1) (by decide +kernel) rfl rfl rfl (by decide +kernel)
set_option maxRecDepth 65536 in
theorem w_c19 : (Jvm.Cond.code ({ cls := "com/example/tallyman/tallyman/ledger/Period", name := "values", desc := "()[Lcom/example/tallyman/tallyman/ledger/Period;" } : Jvm.MethodName) prog_14_method_1_code (0 : Nat) (Option.some (Jvm.ClassFile.FieldType.array (Jvm.ClassFile.FieldType.object "com/example/tallyman/tallyman/ledger/Period")))).before args0 about1 = true := code_word (m := ⟨12, 0⟩) (meth := k12m0) (c := k12c0) (by decide +kernel) rfl rfl rfl (by decide +kernel)
set_option maxRecDepth 65536 in
theorem w_c20 : (Jvm.Cond.code ({ cls := "java/util/Optional", name := "of", desc := "(Ljava/lang/Object;)Ljava/util/Optional;" } : Jvm.MethodName) jdk_32_method_3_code (1 : Nat) (Option.some (Jvm.ClassFile.FieldType.object "java/util/Optional"))).before args0 about1 = true := code_word (m := ⟨14, 2⟩) (meth := k14m2) (c := k14c2) (by decide +kernel) rfl rfl rfl (by decide +kernel)
set_option maxRecDepth 65536 in
theorem w_c21 : (Jvm.Cond.code ({ cls := "java/util/Objects", name := "requireNonNull", desc := "(Ljava/lang/Object;)Ljava/lang/Object;" } : Jvm.MethodName) jdk_31_method_10_code (1 : Nat) (Option.some (Jvm.ClassFile.FieldType.object "java/lang/Object"))).before args0 about1 = true := code_word (m := ⟨15, 1⟩) (meth := k15m1) (c := k15c1) (by decide +kernel) rfl rfl rfl (by decide +kernel)
set_option maxRecDepth 65536 in
theorem w_c22 : (Jvm.Cond.code ({ cls := "java/util/Optional", name := "<init>", desc := "(Ljava/lang/Object;)V" } : Jvm.MethodName) jdk_32_method_2_code (2 : Nat) (Option.none : Option Jvm.ClassFile.FieldType)).before args0 about1 = true := code_word (m := ⟨14, 1⟩) (meth := k14m1) (c := k14c1) (by decide +kernel) rfl rfl rfl (by decide +kernel)
set_option maxRecDepth 65536 in
theorem w_c23 : (Jvm.Cond.code ({ cls := "java/util/Optional", name := "orElse", desc := "(Ljava/lang/Object;)Ljava/lang/Object;" } : Jvm.MethodName) jdk_32_method_15_code (2 : Nat) (Option.some (Jvm.ClassFile.FieldType.object "java/lang/Object"))).before args0 about1 = true := code_word (m := ⟨14, 3⟩) (meth := k14m3) (c := k14c3) (by decide +kernel) rfl rfl rfl (by decide +kernel)
set_option maxRecDepth 65536 in
theorem w_c24 : (Jvm.Cond.code ({ cls := "java/util/Optional", name := "empty", desc := "()Ljava/util/Optional;" } : Jvm.MethodName) jdk_32_method_1_code (1 : Nat) (Option.some (Jvm.ClassFile.FieldType.object "java/util/Optional"))).before args0 about1 = true := code_word (m := ⟨14, 0⟩) (meth := k14m0) (c := k14c0) (by decide +kernel) rfl rfl rfl (by decide +kernel)
def codes1 : List Jvm.Cond := [Jvm.Cond.code x code maxLocals ret, Jvm.Cond.code ({ cls := "com/example/tallyman/tallyman/ledger/PeriodNamedPinLaw", name := "ch", desc := "(IIIII)C" } : Jvm.MethodName) method_3_code (5 : Nat) (Option.some Jvm.ClassFile.FieldType.char), Jvm.Cond.code ({ cls := "com/example/tallyman/tallyman/ledger/PeriodNamedPinLaw", name := "at", desc := "(III)C" } : Jvm.MethodName) method_2_code (4 : Nat) (Option.some Jvm.ClassFile.FieldType.char), Jvm.Cond.code ({ cls := "java/lang/String", name := "length", desc := "()I" } : Jvm.MethodName) jdk_42_method_54_code (1 : Nat) (Option.some Jvm.ClassFile.FieldType.int), Jvm.Cond.code ({ cls := "java/lang/String", name := "coder", desc := "()B" } : Jvm.MethodName) jdk_42_method_152_code (1 : Nat) (Option.some Jvm.ClassFile.FieldType.byte), Jvm.Cond.code ({ cls := "java/lang/String", name := "charAt", desc := "(I)C" } : Jvm.MethodName) jdk_42_method_56_code (2 : Nat) (Option.some Jvm.ClassFile.FieldType.char), Jvm.Cond.code ({ cls := "java/lang/String", name := "isLatin1", desc := "()Z" } : Jvm.MethodName) jdk_42_method_154_code (1 : Nat) (Option.some Jvm.ClassFile.FieldType.boolean), Jvm.Cond.code ({ cls := "java/lang/StringLatin1", name := "charAt", desc := "([BI)C" } : Jvm.MethodName) jdk_43_method_2_code (2 : Nat) (Option.some Jvm.ClassFile.FieldType.char), Jvm.Cond.code ({ cls := "java/lang/String", name := "checkIndex", desc := "(II)V" } : Jvm.MethodName) jdk_42_method_155_code (2 : Nat) (Option.none : Option Jvm.ClassFile.FieldType), Jvm.Cond.code ({ cls := "jdk/internal/util/Preconditions", name := "checkIndex", desc := "(IILjava/util/function/BiFunction;)I" } : Jvm.MethodName) jdk_41_method_11_code (3 : Nat) (Option.some Jvm.ClassFile.FieldType.int), Jvm.Cond.code ({ cls := "java/lang/String", name := "<init>", desc := "([C)V" } : Jvm.MethodName) jdk_42_method_3_code (2 : Nat) (Option.none : Option Jvm.ClassFile.FieldType), Jvm.Cond.code ({ cls := "java/lang/String", name := "<init>", desc := "([CIILjava/lang/Void;)V" } : Jvm.MethodName) jdk_42_method_149_code (6 : Nat) (Option.none : Option Jvm.ClassFile.FieldType), Jvm.Cond.code ({ cls := "java/lang/Object", name := "<init>", desc := "()V" } : Jvm.MethodName) object_method_1_code (1 : Nat) (Option.none : Option Jvm.ClassFile.FieldType), Jvm.Cond.code ({ cls := "java/lang/StringUTF16", name := "compress", desc := "([CII)[B" } : Jvm.MethodName) jdk_52_method_16_code (6 : Nat) (Option.some (Jvm.ClassFile.FieldType.array Jvm.ClassFile.FieldType.byte)), Jvm.Cond.code ({ cls := "java/lang/StringUTF16", name := "compress", desc := "([CI[BII)I" } : Jvm.MethodName) jdk_52_method_21_code (7 : Nat) (Option.some Jvm.ClassFile.FieldType.int), Jvm.Cond.code ({ cls := "java/lang/StringUTF16", name := "coderFromArrayLen", desc := "([BI)B" } : Jvm.MethodName) jdk_52_method_15_code (2 : Nat) (Option.some Jvm.ClassFile.FieldType.byte), Jvm.Cond.code ({ cls := "java/lang/String", name := "equals", desc := "(Ljava/lang/Object;)Z" } : Jvm.MethodName) jdk_42_method_66_code (3 : Nat) (Option.some Jvm.ClassFile.FieldType.boolean), Jvm.Cond.code ({ cls := "java/lang/StringLatin1", name := "equals", desc := "([B[B)Z" } : Jvm.MethodName) jdk_43_method_13_code (3 : Nat) (Option.some Jvm.ClassFile.FieldType.boolean), Jvm.Cond.code ({ cls := "com/example/tallyman/tallyman/ledger/Period", name := "named", desc := "(Ljava/lang/String;)Ljava/util/Optional;" } : Jvm.MethodName) prog_14_method_4_code (5 : Nat) (Option.some (Jvm.ClassFile.FieldType.object "java/util/Optional")), Jvm.Cond.code ({ cls := "com/example/tallyman/tallyman/ledger/Period", name := "values", desc := "()[Lcom/example/tallyman/tallyman/ledger/Period;" } : Jvm.MethodName) prog_14_method_1_code (0 : Nat) (Option.some (Jvm.ClassFile.FieldType.array (Jvm.ClassFile.FieldType.object "com/example/tallyman/tallyman/ledger/Period"))), Jvm.Cond.code ({ cls := "java/util/Optional", name := "of", desc := "(Ljava/lang/Object;)Ljava/util/Optional;" } : Jvm.MethodName) jdk_32_method_3_code (1 : Nat) (Option.some (Jvm.ClassFile.FieldType.object "java/util/Optional")), Jvm.Cond.code ({ cls := "java/util/Objects", name := "requireNonNull", desc := "(Ljava/lang/Object;)Ljava/lang/Object;" } : Jvm.MethodName) jdk_31_method_10_code (1 : Nat) (Option.some (Jvm.ClassFile.FieldType.object "java/lang/Object")), Jvm.Cond.code ({ cls := "java/util/Optional", name := "<init>", desc := "(Ljava/lang/Object;)V" } : Jvm.MethodName) jdk_32_method_2_code (2 : Nat) (Option.none : Option Jvm.ClassFile.FieldType), Jvm.Cond.code ({ cls := "java/util/Optional", name := "orElse", desc := "(Ljava/lang/Object;)Ljava/lang/Object;" } : Jvm.MethodName) jdk_32_method_15_code (2 : Nat) (Option.some (Jvm.ClassFile.FieldType.object "java/lang/Object")), Jvm.Cond.code ({ cls := "java/util/Optional", name := "empty", desc := "()Ljava/util/Optional;" } : Jvm.MethodName) jdk_32_method_1_code (1 : Nat) (Option.some (Jvm.ClassFile.FieldType.object "java/util/Optional"))]
set_option maxRecDepth 65536 in
theorem codes_eq : words1.filter isCode = codes1 := rfl
theorem w_codes : ∀ c ∈ words1.filter isCode, c.before args0 about1 = true := by
  rw [codes_eq]
  intro c hc
  simp only [codes1, List.mem_cons, List.not_mem_nil, or_false] at hc
  rcases hc with rfl | rfl | rfl | rfl | rfl | rfl | rfl | rfl | rfl | rfl | rfl | rfl | rfl | rfl | rfl | rfl | rfl | rfl | rfl | rfl | rfl | rfl | rfl | rfl | rfl
  · exact w_c0
  · exact w_c1
  · exact w_c2
  · exact w_c3
  · exact w_c4
  · exact w_c5
  · exact w_c6
  · exact w_c7
  · exact w_c8
  · exact w_c9
  · exact w_c10
  · exact w_c11
  · exact w_c12
  · exact w_c13
  · exact w_c14
  · exact w_c15
  · exact w_c16
  · exact w_c17
  · exact w_c18
  · exact w_c19
  · exact w_c20
  · exact w_c21
  · exact w_c22
  · exact w_c23
  · exact w_c24
set_option maxRecDepth 65536 in
theorem w_t1 : (words1.take 24).all (fun c => isCode c || c.before args0 about1) = true := by decide +kernel
set_option maxRecDepth 65536 in
theorem w_t2 : ((words1.drop 24).take 24).all (fun c => isCode c || c.before args0 about1) = true := by decide +kernel
set_option maxRecDepth 65536 in
theorem w_t3 : (((words1.drop 24).drop 24).take 24).all (fun c => isCode c || c.before args0 about1) = true := by decide +kernel
set_option maxRecDepth 65536 in
theorem w_t4 : ((((words1.drop 24).drop 24).drop 24).take 24).all (fun c => isCode c || c.before args0 about1) = true := by decide +kernel
set_option maxRecDepth 65536 in
theorem w_t5 : (((((words1.drop 24).drop 24).drop 24).drop 24).take 24).all (fun c => isCode c || c.before args0 about1) = true := by decide +kernel
set_option maxRecDepth 65536 in
theorem w_t6 : (((((words1.drop 24).drop 24).drop 24).drop 24).drop 24).all (fun c => isCode c || c.before args0 about1) = true := by decide +kernel
theorem w_tables : (allAtoms (Jvm.Cond.code x code maxLocals ret :: tables_1)).before args0 about1 = true := by
  rw [allAtoms_all]
  show words1.all (fun c => c.before args0 about1) = true
  refine all_split ?_ w_codes
  rw [← List.take_append_drop 24 words1, List.all_append, w_t1, ← List.take_append_drop 24 (words1.drop 24), List.all_append, w_t2, ← List.take_append_drop 24 ((words1.drop 24).drop 24), List.all_append, w_t3, ← List.take_append_drop 24 (((words1.drop 24).drop 24).drop 24), List.all_append, w_t4, ← List.take_append_drop 24 ((((words1.drop 24).drop 24).drop 24).drop 24), List.all_append, w_t5, w_t6]
  rfl
set_option maxRecDepth 65536 in
theorem w_rest : rest_1_c.before args0 about1 = true := by decide +kernel
set_option maxRecDepth 65536 in
theorem w_case : (Jvm.Cond.and given_1 narrow_1).before args0 about1 = true := by decide +kernel
set_option maxRecDepth 65536 in
theorem w_consts : constsHeld consts_1 about1 := Jvm.Lit.constsHeldB_iff.mp (by decide +kernel)
theorem w_applies : (headSpec (Jvm.Cond.code x code maxLocals ret :: tables_1) room_1).applies x e0.platform about1 = true :=
  (Spec.applies_iff w_frames).mpr ⟨w_running, w_runnable, w_alone, w_named, w_hears, w_ripe, w_room, w_tables⟩
theorem atStart : AtStart classFile x code maxLocals ret World_1 tables_1 room_1 Calls_1 rest_1 Pre_1 launch0 p0 e0 about1 theMethod args0 below0 :=
  ⟨lists_1, trivial, launch0.admits_env _ _ _, launch0.least_env, fairChoices_fair.cas, fairChoices_fair.clock, w_frames, w_args, w_heap, w_applies, ⟨w_consts, trivial⟩, w_rest, w_case⟩
end start1
theorem witness_1 : WitnessClaimed_1 := ⟨start1.p0, start1.e0, start1.about1, start1.theMethod, start1.args0, start1.below0, start1.atStart⟩
end Jvm.Pilot.@@N@@
