import JvmDerived
import JvmDerived.Pilot.@@N@@Statement
import JvmDerived.Pilot.@@N@@Code
set_option linter.unusedVariables false
set_option linter.unusedSimpArgs false
namespace Jvm.Pilot.@@N@@
open Jvm Jvm.ClassFile Sem Op Lib Jvm.Free Jvm.Stand Jvm.LawKit Jvm.RoadKit Bundle Jvm.Pilot.@@N@@.Jvm.D
section Own
variable {p : Program} {l : Launch} {e : Env} {R : Room} {s : State} {m : MethodId} {args : Array Value} {below : List Frame} {meth : Method} {c : Code} {T : State} {locs : List Loc} {cells slots : Nat} {Z : State} {h h' : Heap}
/-- the run goes on from S to a state of which F holds -/
def Goes (tb : Tables) (e : Env) (below : List Frame) (F : State → Prop) (S : State) : Prop := ∃ t, Steps tb e below S t ∧ F t
theorem Goes.via {tb : Tables} {F : State → Prop} {S S' : State} (q : ∀ t, Steps tb e below S' t → Steps tb e below S t) (g : Goes tb e below F S') : Goes tb e below F S := by
  obtain ⟨t, a, b⟩ := g
  exact ⟨t, q t a, b⟩
/-- what a body leaves -/
def Fin (s : State) (below : List Frame) (Q : Option Value → Heap → List Loc → Prop) (C S : Nat) (t : State) : Prop := ∃ o, t.status = .running ∧ Ended t below o ∧ ∃ v L, o = .returned v ∧ Q v t.heap L ∧ FrameEnd s o t L C S
theorem own_start {tb : Tables} {Q : Option Value → Heap → List Loc → Prop} {C S : Nat} {S0 : State} (g : Goes tb e below (Fin s below Q C S) S0) : ∃ s₂ o, Steps tb e below S0 s₂ ∧ s₂.status = .running ∧ Ended s₂ below o ∧ ∃ v L, o = .returned v ∧ Q v s₂.heap L ∧ FrameEnd s o s₂ L C S := by
  obtain ⟨t, a, o, b, d, r⟩ := g
  exact ⟨t, o, a, b, d, r⟩
theorem own_ret (X : Stand p l e R s m args below meth c T locs cells slots) (hx : p.tables.exec = Jvm.exec) {pc : Nat} {Ls : Array Slot} {w : Value} {t : FieldType} {i : Instr} {rest : List Value} (hlk : meth.locks = false) (hret : meth.sig.returnType = some t) (hn : narrow t w = w)
    (hi : (i = .ireturn ∧ (t = .int ∨ t = .boolean ∨ t = .byte ∨ t = .char ∨ t = .short) ∧ ∃ z, w = .int z) ∨ (i = .lreturn ∧ t = .long ∧ ∃ z, w = .long z) ∨ (i = .dreturn ∧ t = .double ∧ ∃ z, w = .double z) ∨ (i = .freturn ∧ t = .float ∧ ∃ z, w = .float z) ∨ (i = .areturn ∧ t.isReference = true ∧ w.isRef = true))
    (hd : decode c.code pc = .ok (i, 1)) {Q : Option Value → Heap → List Loc → Prop} {C S : Nat} (eT : T.heap = h) (hQ : Q (some w) h locs) (hc : cells ≤ C) (hs : slots ≤ S) : Goes p.tables e below (Fin s below Q C S) (T.setTop (mkF m pc Ls (w :: rest))) := by
  obtain ⟨fs, hr, hrun, hended, hW, hsame⟩ := X.leave (v := some w) (fun q => by rw [hret] at q; cases q) hlk
  exact ⟨_, retOut X hx hret hn hi hd hr, _, hrun, hended, _, _, rfl, (by show Q (some w) T.heap locs; rw [eT]; exact hQ), ⟨_, rfl⟩, hW, hsame.mono hc hs⟩
theorem own_retV (X : Stand p l e R s m args below meth c T locs cells slots) (hx : p.tables.exec = Jvm.exec) {pc : Nat} {Ls : Array Slot} (hlk : meth.locks = false) (hret : meth.sig.returnType = none)
    (hd : decode c.code pc = .ok (.return_, 1)) {Q : Option Value → Heap → List Loc → Prop} {C S : Nat} (eT : T.heap = h) (hQ : Q none h locs) (hc : cells ≤ C) (hs : slots ≤ S) : Goes p.tables e below (Fin s below Q C S) (T.setTop (mkF m pc Ls [])) := by
  obtain ⟨fs, hr, hrun, hended, hW, hsame⟩ := X.leave (v := none) (fun _ => rfl) hlk
  exact ⟨_, X.returnOut hx hret hd hr, _, hrun, hended, _, _, rfl, (by show Q none T.heap locs; rw [eT]; exact hQ), ⟨_, rfl⟩, hW, hsame.mono hc hs⟩
theorem own_b1 {P : Prop} [Decidable P] {v : Int32} (hv : v = if P then 1 else 0) (q : P) : ¬ v = 0 := by rw [hv, if_pos q]; decide
theorem own_b0 {P : Prop} [Decidable P] {v : Int32} (hv : v = if P then 1 else 0) (q : ¬ P) : v = 0 := by rw [hv, if_neg q]
theorem own_beq {P P' : Prop} [Decidable P] [Decidable P'] {v v' : Int32} (hv : v = if P then 1 else 0) (hv' : v' = if P' then 1 else 0) (q : P ↔ P') : v = v' := by rw [hv, hv']; simp [q]
theorem own_nb {P : Prop} [Decidable P] {v : Int32} (hv : v = if P then 1 else 0) : narrow .boolean (.int v) = .int v := by rw [hv]; split <;> rfl
theorem own_nb2 {P : Prop} [Decidable P] {v : Int32} (hv : v = if P then 1 else 0) : nar .boolean v = v := by rw [hv]; split <;> rfl
theorem own_lt {x y : Int64} (q : x < y) : lcmpW x y < 0 := (lw_lt x y).mpr q
theorem own_nlt {x y : Int64} (q : ¬ x < y) : ¬ lcmpW x y < 0 := fun r => q ((lw_lt x y).mp r)
theorem own_gt {x y : Int64} (q : y < x) : 0 < lcmpW x y := (lw_gt x y).mpr q
theorem own_ngt {x y : Int64} (q : ¬ y < x) : ¬ 0 < lcmpW x y := fun r => q ((lw_gt x y).mp r)
theorem own_eq {x y : Int64} (q : x = y) : lcmpW x y = 0 := (lw_eq x y).mpr q
theorem own_neq {x y : Int64} (q : ¬ x = y) : ¬ lcmpW x y = 0 := fun r => q ((lw_eq x y).mp r)
theorem own_staKeep {C n d : String} {v : Value} {ws : List Addr} (F : Sta Z h C n d v) (K : Keep h h' ws) (q : ∀ x ∈ ws, ∀ cc : Cell, h[x]? = some cc → cc.vm.isStatics = false) : Sta Z h' C n d v := by
  obtain ⟨cf, i, k, f, st, cell, h1, h2, h3, h4, h5, h6, h7⟩ := F
  exact ⟨cf, i, k, f, st, cell, h1, h2, h3, h4, K.2.1 st cell h5 (fun r => by rw [q st r cell h5] at h6; cases h6), h6, h7⟩
theorem own_nst {a : Addr} {C : String} (F : Exa Z h a C) : ∀ cc : Cell, h[a]? = some cc → cc.vm.isStatics = false := fun cc q => by
  obtain ⟨c1, k, h1, -, -, h4, -⟩ := F
  cases h1.symm.trans q
  exact h4
theorem own_nstV {a : Addr} {k : ClassId} {ty : FieldType} {n : Int32} {vs : List Value} {dv : Value} (F : Arv Z h a k ty n vs dv) : ∀ cc : Cell, h[a]? = some cc → cc.vm.isStatics = false := fun cc q => by
  obtain ⟨c1, A, -⟩ := F
  cases A.1.symm.trans q
  exact A.plain
theorem own_fval {a : Addr} {C n d : String} {v w : Value} (q : v = w) (F : Fld Z h a C n d v) : Fld Z h a C n d w := q ▸ F
theorem own_exS {a0 : Array Value} {C n d K : String} (q : (Cond.exactly (Term.static C n d) K).value a0 Z none Z [] = some true) (wi : (Cond.initialized C).before a0 Z = true) (wl : (Cond.laysStatic C n d).before a0 Z = true) : ∃ a, Sta Z Z.heap C n d (.ref a) ∧ Exa Z Z.heap a K ∧ (Term.static C n d).eval a0 Z none [] Z = some (.ref a) := by
  obtain ⟨a, c', cell, k, e1, -⟩ := Cond.exactly_spec (Cond.before_iff.mpr q)
  exact ⟨a, Sta.start e1 (Or.inr ⟨wi, wl⟩), Exa.start e1 q, e1⟩
theorem own_eqI {a0 : Array Value} {t : Term} {k : Int32} (q : (Cond.eq t (Term.int k)).value a0 Z none Z [] = some true) : t.eval a0 Z none [] Z = some (.int k) := by
  simp only [Cond.value] at q
  split at q <;> simp_all [Term.int_eval]
theorem own_fldI {a0 : Array Value} {t : Term} {O n d : String} {k : Int32} {a : Addr} (ev : t.eval a0 Z none [] Z = some (.ref a)) (q : (Cond.eq (Term.field t O n d) (Term.int k)).value a0 Z none Z [] = some true) : Fld Z Z.heap a O n d (.int k) := by
  have r : (Term.field t O n d).eval a0 Z none [] Z = some (.int k) := own_eqI q
  refine Fld.start ?_
  simpa [Term.eval, ev] using r
theorem own_intne {x y : Int32} (q : ¬ x = y) : Value.int x ≠ Value.int y := fun r => q (Value.int.inj r)
theorem own_fldN {a0 : Array Value} {t : Term} {O n d : String} {a : Addr} (ev : t.eval a0 Z none [] Z = some (.ref a)) (q : (Cond.eq (Term.field t O n d) Term.null).value a0 Z none Z [] = some true) : Fld Z Z.heap a O n d .null := by
  have r : (Term.field t O n d).eval a0 Z none [] Z = some .null := by
    have e0 : Term.null.eval a0 Z none [] Z = some .null := rfl
    simp only [Cond.value, e0] at q
    split at q <;> simp_all
  refine Fld.start ?_
  simpa [Term.eval, ev] using r
theorem own_nz {x : Int32} (q : x = 0 ∨ x = 1) : narrow .boolean (.int x) = .int x := by rcases q with rfl | rfl <;> rfl
theorem own_fz {x : Int32} (q : x = 0 ∨ x = 1) : fits .boolean (.int x) = true := by rcases q with rfl | rfl <;> rfl
theorem own_b01 {P : Prop} [Decidable P] {v : Int32} (hv : v = if P then 1 else 0) : v = 0 ∨ v = 1 := by rw [hv]; split <;> simp
theorem own_narR {C : String} {v : Value} (q : v.isRef = true) : narrow (.object C) v = v := by rcases ref_cases q with r | ⟨_, r⟩ <;> rw [r] <;> rfl
theorem own_fitR {C : String} {v : Value} (q : v.isRef = true) : fits (.object C) v = true := by rcases ref_cases q with r | ⟨_, r⟩ <;> rw [r] <;> rfl
theorem own_lenAt {a0 : Array Value} {t : Term} {k : Int32} {a : Addr} {cl : Cell} (ev : t.eval a0 Z none [] Z = some (.ref a)) (hA : Z.arrayAt? a = some cl) (q : (Term.length t).eval a0 Z none [] Z = some (.int k)) : cl.slots.size < 2 ^ 31 ∧ cl.slots.size.toInt32 = k := by
  by_cases hl : cl.slots.size < 2 ^ 31
  · rw [len_f ev hA hl] at q
    exact ⟨hl, Value.int.inj (Option.some.inj q)⟩
  · simp [Term.eval, ev, hA, hl] at q
end Own
theorem own_byte (x : Int64) : (x = x.toInt32.toInt8.toInt32.toInt64) = ((¬ x < -128) ∧ (¬ 127 < x)) := by
  apply propext
  rw [← Int64.toInt_inj, Int64.lt_iff_toInt_lt, Int64.lt_iff_toInt_lt, Int32.toInt_toInt64, Int8.toInt_toInt32, Int32.toInt_toInt8, Int64.toInt_toInt32]
  have h1 : (-128 : Int64).toInt = -128 := rfl
  have h2 : (127 : Int64).toInt = 127 := rfl
  rw [h1, h2, Int.bmod_def, Int.bmod_def]
  split <;> split <;> omega
theorem own_short (x : Int64) : (x = x.toInt32.toInt16.toInt32.toInt64) = ((¬ x < -32768) ∧ (¬ 32767 < x)) := by
  apply propext
  rw [← Int64.toInt_inj, Int64.lt_iff_toInt_lt, Int64.lt_iff_toInt_lt, Int32.toInt_toInt64, Int16.toInt_toInt32, Int32.toInt_toInt16, Int64.toInt_toInt32]
  have h1 : (-32768 : Int64).toInt = -32768 := rfl
  have h2 : (32767 : Int64).toInt = 32767 := rfl
  rw [h1, h2, Int.bmod_def, Int.bmod_def]
  split <;> split <;> omega
theorem own_int (x : Int64) : (x = x.toInt32.toInt64) = ((¬ x < -2147483648) ∧ (¬ 2147483647 < x)) := by
  apply propext
  rw [← Int64.toInt_inj, Int64.lt_iff_toInt_lt, Int64.lt_iff_toInt_lt, Int32.toInt_toInt64, Int64.toInt_toInt32]
  have h1 : (-2147483648 : Int64).toInt = -2147483648 := rfl
  have h2 : (2147483647 : Int64).toInt = 2147483647 := rfl
  rw [h1, h2, Int.bmod_def]
  split <;> omega

theorem pd_0 : parseMethodDescriptor "(J)Lcom/example/finder_compiler/findercompiler/CmpType;" = some ⟨[.long], some (.object "com/example/finder_compiler/findercompiler/CmpType")⟩ := by decide +kernel
theorem pn_32 : plainName "com/example/finder_compiler/findercompiler/CmpType" = true := by first | (simp [plainName, overriddenIn]; done) | decide +kernel
theorem pn_33 : plainName "com/example/finder_compiler/findercompiler/CmpTypeNarrowestPinLaw" = true := by first | (simp [plainName, overriddenIn]; done) | decide +kernel
theorem d1_0 : decode prog_55_method_7_code 0 = .ok (.getstatic 16, 3) := by decide +kernel
theorem d1_3 : decode prog_55_method_7_code 3 = .ok (.astore_n 2, 1) := by decide +kernel
theorem d1_4 : decode prog_55_method_7_code 4 = .ok (.lload_n 0, 1) := by decide +kernel
theorem d1_5 : decode prog_55_method_7_code 5 = .ok (.lload_n 0, 1) := by decide +kernel
theorem d1_6 : decode prog_55_method_7_code 6 = .ok (.l2i, 1) := by decide +kernel
theorem d1_7 : decode prog_55_method_7_code 7 = .ok (.i2b, 1) := by decide +kernel
theorem d1_8 : decode prog_55_method_7_code 8 = .ok (.i2l, 1) := by decide +kernel
theorem d1_9 : decode prog_55_method_7_code 9 = .ok (.lcmp, 1) := by decide +kernel
theorem d1_10 : decode prog_55_method_7_code 10 = .ok (.ifCond .ne 10, 3) := by decide +kernel
theorem d1_13 : decode prog_55_method_7_code 13 = .ok (.getstatic 7, 3) := by decide +kernel
theorem d1_16 : decode prog_55_method_7_code 16 = .ok (.astore_n 2, 1) := by decide +kernel
theorem d1_17 : decode prog_55_method_7_code 17 = .ok (.goto 31, 3) := by decide +kernel
theorem d1_20 : decode prog_55_method_7_code 20 = .ok (.lload_n 0, 1) := by decide +kernel
theorem d1_21 : decode prog_55_method_7_code 21 = .ok (.lload_n 0, 1) := by decide +kernel
theorem d1_22 : decode prog_55_method_7_code 22 = .ok (.l2i, 1) := by decide +kernel
theorem d1_23 : decode prog_55_method_7_code 23 = .ok (.i2s, 1) := by decide +kernel
theorem d1_24 : decode prog_55_method_7_code 24 = .ok (.i2l, 1) := by decide +kernel
theorem d1_25 : decode prog_55_method_7_code 25 = .ok (.lcmp, 1) := by decide +kernel
theorem d1_26 : decode prog_55_method_7_code 26 = .ok (.ifCond .ne 10, 3) := by decide +kernel
theorem d1_29 : decode prog_55_method_7_code 29 = .ok (.getstatic 10, 3) := by decide +kernel
theorem d1_32 : decode prog_55_method_7_code 32 = .ok (.astore_n 2, 1) := by decide +kernel
theorem d1_33 : decode prog_55_method_7_code 33 = .ok (.goto 15, 3) := by decide +kernel
theorem d1_36 : decode prog_55_method_7_code 36 = .ok (.lload_n 0, 1) := by decide +kernel
theorem d1_37 : decode prog_55_method_7_code 37 = .ok (.lload_n 0, 1) := by decide +kernel
theorem d1_38 : decode prog_55_method_7_code 38 = .ok (.l2i, 1) := by decide +kernel
theorem d1_39 : decode prog_55_method_7_code 39 = .ok (.i2l, 1) := by decide +kernel
theorem d1_40 : decode prog_55_method_7_code 40 = .ok (.lcmp, 1) := by decide +kernel
theorem d1_41 : decode prog_55_method_7_code 41 = .ok (.ifCond .ne 7, 3) := by decide +kernel
theorem d1_44 : decode prog_55_method_7_code 44 = .ok (.getstatic 13, 3) := by decide +kernel
theorem d1_47 : decode prog_55_method_7_code 47 = .ok (.astore_n 2, 1) := by decide +kernel
theorem d1_48 : decode prog_55_method_7_code 48 = .ok (.aload_n 2, 1) := by decide +kernel
theorem d1_49 : decode prog_55_method_7_code 49 = .ok (.areturn, 1) := by decide +kernel
theorem ef_1 (m : MethodId) (q0 : Int64) : entryFrame m #[(.long q0)] 3 = mkF m 0 #[.val (.long q0), .second, .unset] [] := by first | (simp [entryFrame, mkF, argsToLocals, Value.category]; done) | rfl
def Q1 (Z : State) (q0 : Int64) (x0 : Addr) (x1 : Addr) (x2 : Addr) (x3 : Addr) (h0 : Heap) (n0 : Nat) (v : Option Value) (h : Heap) (L : List Loc) : Prop := ∃ r : Addr, v = some (.ref r) ∧ (r = if q0 = q0.toInt32.toInt8.toInt32.toInt64 then x0 else if q0 = q0.toInt32.toInt16.toInt32.toInt64 then x1 else if q0 = q0.toInt32.toInt64 then x2 else x3) ∧ Fr n0 L ∧ h = h0
set_option maxRecDepth 65536 in
set_option maxHeartbeats 40000000 in
theorem rm1 (l : Launch) (Z : State) (a0 : Array Value) (hw : ∀ d ∈ tables_1, d.before a0 Z = true) (ws : List Jvm.Cond) (q0 : Int64) (x0 : Addr) (x1 : Addr) (x2 : Addr) (x3 : Addr) (h0 : Heap) (n0 : Nat) (Z0 : n0 ≤ h0.size) (f0_BYTE : Sta Z h0 "com/example/finder_compiler/findercompiler/CmpType" "BYTE" "Lcom/example/finder_compiler/findercompiler/CmpType;" (.ref x0)) (f1_SHORT : Sta Z h0 "com/example/finder_compiler/findercompiler/CmpType" "SHORT" "Lcom/example/finder_compiler/findercompiler/CmpType;" (.ref x1)) (f2_INT : Sta Z h0 "com/example/finder_compiler/findercompiler/CmpType" "INT" "Lcom/example/finder_compiler/findercompiler/CmpType;" (.ref x2)) (f3_LONG : Sta Z h0 "com/example/finder_compiler/findercompiler/CmpType" "LONG" "Lcom/example/finder_compiler/findercompiler/CmpType;" (.ref x3)) :
    MetFree l (⟨"com/example/finder_compiler/findercompiler/CmpType", "narrowest", "(J)Lcom/example/finder_compiler/findercompiler/CmpType;"⟩ : MethodName) (head1 (Jvm.Cond.code (⟨"com/example/finder_compiler/findercompiler/CmpType", "narrowest", "(J)Lcom/example/finder_compiler/findercompiler/CmpType;"⟩ : MethodName) prog_55_method_7_code 3 (some (.object "com/example/finder_compiler/findercompiler/CmpType")) :: ws) ({ frames := 0, cells := 0, slots := 0, locals := 0 } : Room)) (fun a U => a = #[(.long q0)] ∧ Z.Warmed39 U.vm ∧ U.heap = h0) (fun _ _ _ _ _ => True) (fun _ U o U' => ∃ v L, o = .returned v ∧ Q1 Z q0 x0 x1 x2 x3 h0 n0 v U'.heap L ∧ FrameEnd U o U' L 0 0) := by
  refine MetFree.of_bodySF (plainFor_of_name pn_32) hisR ?_
  intro p e s m args below meth c s₁ Bd hml0 hP hK
  obtain ⟨rfl, hZ, hh⟩ := hP
  have hx := Bd.exec
  have hby := Bd.bytes
  have hml : c.maxLocals = 3 := hml0
  have hown : s.vm.findClass "com/example/finder_compiler/findercompiler/CmpType" = some m.cls := findClass_of_methodNamed Bd.named
  have hnm := (name_of_methodNamed Bd.named Bd.method).1
  have X0 : Stand p l e ({ frames := 0, cells := 0, slots := 0, locals := 0 } : Room) s m #[(.long q0)] below meth c s₁ [] 0 0 := Stand.of_body Bd
  have e0 : s₁.heap = h0 := by rw [← hh, Bd.state]; rfl
  have N0 := Fr.nil n0
  refine own_start (Q := fun v h L => Q1 Z q0 x0 x1 x2 x3 h0 n0 v h L) ?_
  refine Goes.via (S' := (s₁.setTop (mkF m 0 #[.val (.long q0), .second, .unset] []))) (fun t k => castTop (ef_1 m q0) k) ?_
  obtain ⟨T1, X1, e1, st1⟩ := getS2 X0 hx hZ hown (host := "") (Or.inl (hw _ (List.mem_of_getElem? (i := 12) rfl))) Via.refl e0 f3_LONG (g := (mkF m 0 #[.val (.long q0), .second, .unset] [])) rfl (hb hby d1_0)
  refine Goes.via (S' := (T1.setTop (mkF m 3 #[.val (.long q0), .second, .unset] [(.ref x3)]))) (fun t k => st1 _ k) ?_
  refine Goes.via (S' := (T1.setTop (mkF m 4 #[.val (.long q0), .second, .val (.ref x3)] []))) (fun t k => XS.astoreN X1.here hx rfl (hb hby d1_3) rfl rfl (l' := #[.val (.long q0), .second, .val (.ref x3)]) rfl k) ?_
  refine Goes.via (S' := (T1.setTop (mkF m 5 #[.val (.long q0), .second, .val (.ref x3)] [(.long q0)]))) (fun t k => XS.lloadN X1.here hx rfl (hb hby d1_4) rfl k) ?_
  refine Goes.via (S' := (T1.setTop (mkF m 6 #[.val (.long q0), .second, .val (.ref x3)] [(.long q0), (.long q0)]))) (fun t k => XS.lloadN X1.here hx rfl (hb hby d1_5) rfl k) ?_
  refine Goes.via (S' := (T1.setTop (mkF m 7 #[.val (.long q0), .second, .val (.ref x3)] [(.int (q0.toInt32)), (.long q0)]))) (fun t k => XS.l2i X1.here hx rfl (hb hby d1_6) rfl k) ?_
  refine Goes.via (S' := (T1.setTop (mkF m 8 #[.val (.long q0), .second, .val (.ref x3)] [(.int ((q0.toInt32).toInt8.toInt32)), (.long q0)]))) (fun t k => XS.i2b X1.here hx rfl (hb hby d1_7) rfl k) ?_
  refine Goes.via (S' := (T1.setTop (mkF m 9 #[.val (.long q0), .second, .val (.ref x3)] [(.long (((q0.toInt32).toInt8.toInt32).toInt64)), (.long q0)]))) (fun t k => XS.i2l X1.here hx rfl (hb hby d1_8) rfl k) ?_
  refine Goes.via (S' := (T1.setTop (mkF m 10 #[.val (.long q0), .second, .val (.ref x3)] [(.int (lcmpW q0 (((q0.toInt32).toInt8.toInt32).toInt64)))]))) (fun t k => XS.lcmp X1.here hx rfl (hb hby d1_9) rfl k) ?_
  by_cases hc3 : (q0 = (((q0.toInt32).toInt8.toInt32).toInt64))
  · refine Goes.via (S' := (T1.setTop (mkF m 13 #[.val (.long q0), .second, .val (.ref x3)] []))) (fun t k => XS.ifNo X1.here hx rfl (hb hby d1_10) rfl ((if0 _ _).trans (teq (own_eq hc3)).2) k) ?_
    obtain ⟨T4, X4, e4, st4⟩ := getS2 X1 hx hZ hown (host := "") (Or.inl (hw _ (List.mem_of_getElem? (i := 14) rfl))) Via.refl e1 f0_BYTE (g := (mkF m 13 #[.val (.long q0), .second, .val (.ref x3)] [])) rfl (hb hby d1_13)
    refine Goes.via (S' := (T4.setTop (mkF m 16 #[.val (.long q0), .second, .val (.ref x3)] [(.ref x0)]))) (fun t k => st4 _ k) ?_
    refine Goes.via (S' := (T4.setTop (mkF m 17 #[.val (.long q0), .second, .val (.ref x0)] []))) (fun t k => XS.astoreN X4.here hx rfl (hb hby d1_16) rfl rfl (l' := #[.val (.long q0), .second, .val (.ref x0)]) rfl k) ?_
    refine Goes.via (S' := (T4.setTop (mkF m 48 #[.val (.long q0), .second, .val (.ref x0)] []))) (fun t k => XS.goto X4.here hx rfl (pc0 := 17) (pc' := 48) rfl (hb hby d1_17) (by decide) (by decide) k) ?_
    refine Goes.via (S' := (T4.setTop (mkF m 49 #[.val (.long q0), .second, .val (.ref x0)] [(.ref x0)]))) (fun t k => XS.aloadN X4.here hx rfl (hb hby d1_48) rfl rfl k) ?_
    exact own_ret X4 hx Bd.notSynchronized Bd.returns rfl (Or.inr (Or.inr (Or.inr (Or.inr ⟨rfl, rfl, rfl⟩)))) (hb hby d1_49) e4 ⟨x0, rfl, (by rw [if_pos hc3]), N0, rfl⟩ (by decide) (by decide)
  · refine Goes.via (S' := (T1.setTop (mkF m 20 #[.val (.long q0), .second, .val (.ref x3)] []))) (fun t k => XS.ifYes X1.here hx rfl (pc0 := 10) (pc' := 20) rfl (hb hby d1_10) rfl ((if0 _ _).trans (feq (own_neq hc3)).2) (by decide) (by decide) k) ?_
    refine Goes.via (S' := (T1.setTop (mkF m 21 #[.val (.long q0), .second, .val (.ref x3)] [(.long q0)]))) (fun t k => XS.lloadN X1.here hx rfl (hb hby d1_20) rfl k) ?_
    refine Goes.via (S' := (T1.setTop (mkF m 22 #[.val (.long q0), .second, .val (.ref x3)] [(.long q0), (.long q0)]))) (fun t k => XS.lloadN X1.here hx rfl (hb hby d1_21) rfl k) ?_
    refine Goes.via (S' := (T1.setTop (mkF m 23 #[.val (.long q0), .second, .val (.ref x3)] [(.int (q0.toInt32)), (.long q0)]))) (fun t k => XS.l2i X1.here hx rfl (hb hby d1_22) rfl k) ?_
    refine Goes.via (S' := (T1.setTop (mkF m 24 #[.val (.long q0), .second, .val (.ref x3)] [(.int ((q0.toInt32).toInt16.toInt32)), (.long q0)]))) (fun t k => XS.i2s X1.here hx rfl (hb hby d1_23) rfl k) ?_
    refine Goes.via (S' := (T1.setTop (mkF m 25 #[.val (.long q0), .second, .val (.ref x3)] [(.long (((q0.toInt32).toInt16.toInt32).toInt64)), (.long q0)]))) (fun t k => XS.i2l X1.here hx rfl (hb hby d1_24) rfl k) ?_
    refine Goes.via (S' := (T1.setTop (mkF m 26 #[.val (.long q0), .second, .val (.ref x3)] [(.int (lcmpW q0 (((q0.toInt32).toInt16.toInt32).toInt64)))]))) (fun t k => XS.lcmp X1.here hx rfl (hb hby d1_25) rfl k) ?_
    by_cases hc6 : (q0 = (((q0.toInt32).toInt16.toInt32).toInt64))
    · refine Goes.via (S' := (T1.setTop (mkF m 29 #[.val (.long q0), .second, .val (.ref x3)] []))) (fun t k => XS.ifNo X1.here hx rfl (hb hby d1_26) rfl ((if0 _ _).trans (teq (own_eq hc6)).2) k) ?_
      obtain ⟨T7, X7, e7, st7⟩ := getS2 X1 hx hZ hown (host := "") (Or.inl (hw _ (List.mem_of_getElem? (i := 18) rfl))) Via.refl e1 f1_SHORT (g := (mkF m 29 #[.val (.long q0), .second, .val (.ref x3)] [])) rfl (hb hby d1_29)
      refine Goes.via (S' := (T7.setTop (mkF m 32 #[.val (.long q0), .second, .val (.ref x3)] [(.ref x1)]))) (fun t k => st7 _ k) ?_
      refine Goes.via (S' := (T7.setTop (mkF m 33 #[.val (.long q0), .second, .val (.ref x1)] []))) (fun t k => XS.astoreN X7.here hx rfl (hb hby d1_32) rfl rfl (l' := #[.val (.long q0), .second, .val (.ref x1)]) rfl k) ?_
      refine Goes.via (S' := (T7.setTop (mkF m 48 #[.val (.long q0), .second, .val (.ref x1)] []))) (fun t k => XS.goto X7.here hx rfl (pc0 := 33) (pc' := 48) rfl (hb hby d1_33) (by decide) (by decide) k) ?_
      refine Goes.via (S' := (T7.setTop (mkF m 49 #[.val (.long q0), .second, .val (.ref x1)] [(.ref x1)]))) (fun t k => XS.aloadN X7.here hx rfl (hb hby d1_48) rfl rfl k) ?_
      exact own_ret X7 hx Bd.notSynchronized Bd.returns rfl (Or.inr (Or.inr (Or.inr (Or.inr ⟨rfl, rfl, rfl⟩)))) (hb hby d1_49) e7 ⟨x1, rfl, (by rw [if_neg hc3, if_pos hc6]), N0, rfl⟩ (by decide) (by decide)
    · refine Goes.via (S' := (T1.setTop (mkF m 36 #[.val (.long q0), .second, .val (.ref x3)] []))) (fun t k => XS.ifYes X1.here hx rfl (pc0 := 26) (pc' := 36) rfl (hb hby d1_26) rfl ((if0 _ _).trans (feq (own_neq hc6)).2) (by decide) (by decide) k) ?_
      refine Goes.via (S' := (T1.setTop (mkF m 37 #[.val (.long q0), .second, .val (.ref x3)] [(.long q0)]))) (fun t k => XS.lloadN X1.here hx rfl (hb hby d1_36) rfl k) ?_
      refine Goes.via (S' := (T1.setTop (mkF m 38 #[.val (.long q0), .second, .val (.ref x3)] [(.long q0), (.long q0)]))) (fun t k => XS.lloadN X1.here hx rfl (hb hby d1_37) rfl k) ?_
      refine Goes.via (S' := (T1.setTop (mkF m 39 #[.val (.long q0), .second, .val (.ref x3)] [(.int (q0.toInt32)), (.long q0)]))) (fun t k => XS.l2i X1.here hx rfl (hb hby d1_38) rfl k) ?_
      refine Goes.via (S' := (T1.setTop (mkF m 40 #[.val (.long q0), .second, .val (.ref x3)] [(.long ((q0.toInt32).toInt64)), (.long q0)]))) (fun t k => XS.i2l X1.here hx rfl (hb hby d1_39) rfl k) ?_
      refine Goes.via (S' := (T1.setTop (mkF m 41 #[.val (.long q0), .second, .val (.ref x3)] [(.int (lcmpW q0 ((q0.toInt32).toInt64)))]))) (fun t k => XS.lcmp X1.here hx rfl (hb hby d1_40) rfl k) ?_
      by_cases hc9 : (q0 = ((q0.toInt32).toInt64))
      · refine Goes.via (S' := (T1.setTop (mkF m 44 #[.val (.long q0), .second, .val (.ref x3)] []))) (fun t k => XS.ifNo X1.here hx rfl (hb hby d1_41) rfl ((if0 _ _).trans (teq (own_eq hc9)).2) k) ?_
        obtain ⟨T10, X10, e10, st10⟩ := getS2 X1 hx hZ hown (host := "") (Or.inl (hw _ (List.mem_of_getElem? (i := 21) rfl))) Via.refl e1 f2_INT (g := (mkF m 44 #[.val (.long q0), .second, .val (.ref x3)] [])) rfl (hb hby d1_44)
        refine Goes.via (S' := (T10.setTop (mkF m 47 #[.val (.long q0), .second, .val (.ref x3)] [(.ref x2)]))) (fun t k => st10 _ k) ?_
        refine Goes.via (S' := (T10.setTop (mkF m 48 #[.val (.long q0), .second, .val (.ref x2)] []))) (fun t k => XS.astoreN X10.here hx rfl (hb hby d1_47) rfl rfl (l' := #[.val (.long q0), .second, .val (.ref x2)]) rfl k) ?_
        refine Goes.via (S' := (T10.setTop (mkF m 49 #[.val (.long q0), .second, .val (.ref x2)] [(.ref x2)]))) (fun t k => XS.aloadN X10.here hx rfl (hb hby d1_48) rfl rfl k) ?_
        exact own_ret X10 hx Bd.notSynchronized Bd.returns rfl (Or.inr (Or.inr (Or.inr (Or.inr ⟨rfl, rfl, rfl⟩)))) (hb hby d1_49) e10 ⟨x2, rfl, (by rw [if_neg hc3, if_neg hc6, if_pos hc9]), N0, rfl⟩ (by decide) (by decide)
      · refine Goes.via (S' := (T1.setTop (mkF m 48 #[.val (.long q0), .second, .val (.ref x3)] []))) (fun t k => XS.ifYes X1.here hx rfl (pc0 := 41) (pc' := 48) rfl (hb hby d1_41) rfl ((if0 _ _).trans (feq (own_neq hc9)).2) (by decide) (by decide) k) ?_
        refine Goes.via (S' := (T1.setTop (mkF m 49 #[.val (.long q0), .second, .val (.ref x3)] [(.ref x3)]))) (fun t k => XS.aloadN X1.here hx rfl (hb hby d1_48) rfl rfl k) ?_
        exact own_ret X1 hx Bd.notSynchronized Bd.returns rfl (Or.inr (Or.inr (Or.inr (Or.inr ⟨rfl, rfl, rfl⟩)))) (hb hby d1_49) e1 ⟨x3, rfl, (by rw [if_neg hc3, if_neg hc6, if_neg hc9]), N0, rfl⟩ (by decide) (by decide)
theorem ef_0 (m : MethodId) (q0 : Int64) (p1 : Int32) : entryFrame m #[(.long q0), (.int p1)] maxLocals = mkF m 0 #[.val (.long q0), .second, .val (.int p1), .unset, .unset, .unset, .unset, .unset, .unset, .unset] [] := by first | (simp [entryFrame, mkF, argsToLocals, Value.category, maxLocals]; done) | rfl
def Q0 (Z : State) (q0 : Int64) (p1 : Int32) (x0 : Addr) (x1 : Addr) (x2 : Addr) (x3 : Addr) (h0 : Heap) (n0 : Nat) (v : Option Value) (h : Heap) (L : List Loc) : Prop := v = some (.int 1) ∧ Fr n0 L
set_option maxRecDepth 65536 in
set_option maxHeartbeats 40000000 in
theorem rm0 (l : Launch) (Z : State) (a0 : Array Value) (hw : ∀ d ∈ tables_1, d.before a0 Z = true) (ws : List Jvm.Cond) (q0 : Int64) (p1 : Int32) (x0 : Addr) (x1 : Addr) (x2 : Addr) (x3 : Addr) (h0 : Heap) (n0 : Nat) (Z0 : n0 ≤ h0.size) (f0_BYTE : Sta Z h0 "com/example/finder_compiler/findercompiler/CmpType" "BYTE" "Lcom/example/finder_compiler/findercompiler/CmpType;" (.ref x0)) (f1_SHORT : Sta Z h0 "com/example/finder_compiler/findercompiler/CmpType" "SHORT" "Lcom/example/finder_compiler/findercompiler/CmpType;" (.ref x1)) (f2_INT : Sta Z h0 "com/example/finder_compiler/findercompiler/CmpType" "INT" "Lcom/example/finder_compiler/findercompiler/CmpType;" (.ref x2)) (f3_LONG : Sta Z h0 "com/example/finder_compiler/findercompiler/CmpType" "LONG" "Lcom/example/finder_compiler/findercompiler/CmpType;" (.ref x3)) :
    MetFree l x (head1 (Jvm.Cond.code x code maxLocals ret :: ws) room_1) (fun a U => a = #[(.long q0), (.int p1)] ∧ Z.Warmed39 U.vm ∧ U.heap = h0) (fun _ _ _ _ _ => True) (fun _ U o U' => ∃ v L, o = .returned v ∧ Q0 Z q0 p1 x0 x1 x2 x3 h0 n0 v U'.heap L ∧ FrameEnd U o U' L 0 0) := by
  refine MetFree.of_bodySF (plainFor_of_name pn_33) hisR ?_
  intro p e s m args below meth c s₁ Bd hml0 hP hK
  obtain ⟨rfl, hZ, hh⟩ := hP
  have hx := Bd.exec
  have hby := Bd.bytes
  have hml : c.maxLocals = 10 := hml0
  have hown : s.vm.findClass "com/example/finder_compiler/findercompiler/CmpTypeNarrowestPinLaw" = some m.cls := findClass_of_methodNamed Bd.named
  have hnm := (name_of_methodNamed Bd.named Bd.method).1
  have X0 : Stand p l e room_1 s m #[(.long q0), (.int p1)] below meth c s₁ [] 0 0 := Stand.of_body Bd
  have e0 : s₁.heap = h0 := by rw [← hh, Bd.state]; rfl
  have N0 := Fr.nil n0
  refine own_start (Q := fun v h L => Q0 Z q0 p1 x0 x1 x2 x3 h0 n0 v h L) ?_
  refine Goes.via (S' := (s₁.setTop (mkF m 0 #[.val (.long q0), .second, .val (.int p1), .unset, .unset, .unset, .unset, .unset, .unset, .unset] []))) (fun t k => castTop (ef_0 m q0 p1) k) ?_
  refine Goes.via (S' := (s₁.setTop (mkF m 1 #[.val (.long q0), .second, .val (.int p1), .unset, .unset, .unset, .unset, .unset, .unset, .unset] [(.long q0)]))) (fun t k => XS.lloadN X0.here hx rfl (hb hby at_0) rfl k) ?_
  refine Goes.via (S' := (s₁.setTop (mkF m 2 #[.val (.long q0), .second, .val (.int p1), .unset, .unset, .unset, .unset, .unset, .unset, .unset] [(.int p1), (.long q0)]))) (fun t k => XS.iloadN X0.here hx rfl (hb hby at_1) rfl k) ?_
  refine Goes.via (S' := (s₁.setTop (mkF m 4 #[.val (.long q0), .second, .val (.int p1), .unset, .unset, .unset, .unset, .unset, .unset, .unset] [(.int (63 : Int32)), (.int p1), (.long q0)]))) (fun t k => XS.bipush X0.here hx rfl (hb hby at_2) k) ?_
  refine Goes.via (S' := (s₁.setTop (mkF m 5 #[.val (.long q0), .second, .val (.int p1), .unset, .unset, .unset, .unset, .unset, .unset, .unset] [(.int (p1 &&& (63 : Int32))), (.long q0)]))) (fun t k => XS.iand X0.here hx rfl (hb hby at_4) rfl k) ?_
  refine Goes.via (S' := (s₁.setTop (mkF m 6 #[.val (.long q0), .second, .val (.int p1), .unset, .unset, .unset, .unset, .unset, .unset, .unset] [(.long (q0 >>> ((p1 &&& (63 : Int32)) &&& 0x3f).toInt64))]))) (fun t k => XS.lshr X0.here hx rfl (hb hby at_5) rfl k) ?_
  refine Goes.via (S' := (s₁.setTop (mkF m 7 #[.val (.long q0), .second, .val (.int p1), .val (.long (q0 >>> ((p1 &&& (63 : Int32)) &&& 0x3f).toInt64)), .second, .unset, .unset, .unset, .unset, .unset] []))) (fun t k => XS.lstoreN X0.here hx rfl (hb hby at_6) rfl (l' := #[.val (.long q0), .second, .val (.int p1), .val (.long (q0 >>> ((p1 &&& (63 : Int32)) &&& 0x3f).toInt64)), .second, .unset, .unset, .unset, .unset, .unset]) rfl k) ?_
  refine Goes.via (S' := (s₁.setTop (mkF m 8 #[.val (.long q0), .second, .val (.int p1), .val (.long (q0 >>> ((p1 &&& (63 : Int32)) &&& 0x3f).toInt64)), .second, .unset, .unset, .unset, .unset, .unset] [(.long (q0 >>> ((p1 &&& (63 : Int32)) &&& 0x3f).toInt64))]))) (fun t k => XS.lloadN X0.here hx rfl (hb hby at_7) rfl k) ?_
  refine Goes.via (S' := (s₁.setTop (mkF m 11 #[.val (.long q0), .second, .val (.int p1), .val (.long (q0 >>> ((p1 &&& (63 : Int32)) &&& 0x3f).toInt64)), .second, .unset, .unset, .unset, .unset, .unset] [(.long (-128 : Int64)), (.long (q0 >>> ((p1 &&& (63 : Int32)) &&& 0x3f).toInt64))]))) (fun t k => X0.ldc2Long hx hown (mvT hZ (hw _ (List.mem_of_getElem? (i := 0) rfl))) (g := (mkF m 8 #[.val (.long q0), .second, .val (.int p1), .val (.long (q0 >>> ((p1 &&& (63 : Int32)) &&& 0x3f).toInt64)), .second, .unset, .unset, .unset, .unset, .unset] [(.long (q0 >>> ((p1 &&& (63 : Int32)) &&& 0x3f).toInt64))])) rfl (hb hby at_8) _ k) ?_
  refine Goes.via (S' := (s₁.setTop (mkF m 12 #[.val (.long q0), .second, .val (.int p1), .val (.long (q0 >>> ((p1 &&& (63 : Int32)) &&& 0x3f).toInt64)), .second, .unset, .unset, .unset, .unset, .unset] [(.int (lcmpW (q0 >>> ((p1 &&& (63 : Int32)) &&& 0x3f).toInt64) (-128 : Int64)))]))) (fun t k => XS.lcmp X0.here hx rfl (hb hby at_11) rfl k) ?_
  obtain ⟨v3, hv3⟩ : ∃ z : Int32, z = (if ((¬ ((q0 >>> ((p1 &&& (63 : Int32)) &&& 0x3f).toInt64) < (-128 : Int64))) ∧ (¬ ((127 : Int64) < (q0 >>> ((p1 &&& (63 : Int32)) &&& 0x3f).toInt64)))) then (1 : Int32) else 0) := ⟨_, rfl⟩
  refine Goes.via (S' := (s₁.setTop (mkF m 28 #[.val (.long q0), .second, .val (.int p1), .val (.long (q0 >>> ((p1 &&& (63 : Int32)) &&& 0x3f).toInt64)), .second, .unset, .unset, .unset, .unset, .unset] [(.int v3)]))) (fun t k => ?_) ?_
  · by_cases hc1 : ((q0 >>> ((p1 &&& (63 : Int32)) &&& 0x3f).toInt64) < (-128 : Int64))
    · refine XS.ifYes X0.here hx rfl (pc0 := 12) (pc' := 27) rfl (hb hby at_12) rfl ((if0 _ _).trans (tlt (own_lt hc1)).1) (by decide) (by decide) ?_
      show Steps p.tables e below (s₁.setTop (mkF m 27 #[.val (.long q0), .second, .val (.int p1), .val (.long (q0 >>> ((p1 &&& (63 : Int32)) &&& 0x3f).toInt64)), .second, .unset, .unset, .unset, .unset, .unset] [])) _
      refine XS.iconst X0.here hx rfl (hb hby at_27) ?_
      show Steps p.tables e below (s₁.setTop (mkF m 28 #[.val (.long q0), .second, .val (.int p1), .val (.long (q0 >>> ((p1 &&& (63 : Int32)) &&& 0x3f).toInt64)), .second, .unset, .unset, .unset, .unset, .unset] [(.int (0 : Int32))])) _
      have q_v3 : v3 = (0 : Int32) := hv3.trans (if_neg (fun q => (fun q => q hc1) q.1))
      rw [q_v3] at k
      exact k
    · refine XS.ifNo X0.here hx rfl (hb hby at_12) rfl ((if0 _ _).trans (flt (own_nlt hc1)).1) ?_
      show Steps p.tables e below (s₁.setTop (mkF m 15 #[.val (.long q0), .second, .val (.int p1), .val (.long (q0 >>> ((p1 &&& (63 : Int32)) &&& 0x3f).toInt64)), .second, .unset, .unset, .unset, .unset, .unset] [])) _
      refine XS.lloadN X0.here hx rfl (hb hby at_15) rfl ?_
      show Steps p.tables e below (s₁.setTop (mkF m 16 #[.val (.long q0), .second, .val (.int p1), .val (.long (q0 >>> ((p1 &&& (63 : Int32)) &&& 0x3f).toInt64)), .second, .unset, .unset, .unset, .unset, .unset] [(.long (q0 >>> ((p1 &&& (63 : Int32)) &&& 0x3f).toInt64))])) _
      refine X0.ldc2Long hx hown (mvT hZ (hw _ (List.mem_of_getElem? (i := 1) rfl))) (g := (mkF m 16 #[.val (.long q0), .second, .val (.int p1), .val (.long (q0 >>> ((p1 &&& (63 : Int32)) &&& 0x3f).toInt64)), .second, .unset, .unset, .unset, .unset, .unset] [(.long (q0 >>> ((p1 &&& (63 : Int32)) &&& 0x3f).toInt64))])) rfl (hb hby at_16) _ ?_
      show Steps p.tables e below (s₁.setTop (mkF m 19 #[.val (.long q0), .second, .val (.int p1), .val (.long (q0 >>> ((p1 &&& (63 : Int32)) &&& 0x3f).toInt64)), .second, .unset, .unset, .unset, .unset, .unset] [(.long (127 : Int64)), (.long (q0 >>> ((p1 &&& (63 : Int32)) &&& 0x3f).toInt64))])) _
      refine XS.lcmp X0.here hx rfl (hb hby at_19) rfl ?_
      show Steps p.tables e below (s₁.setTop (mkF m 20 #[.val (.long q0), .second, .val (.int p1), .val (.long (q0 >>> ((p1 &&& (63 : Int32)) &&& 0x3f).toInt64)), .second, .unset, .unset, .unset, .unset, .unset] [(.int (lcmpW (q0 >>> ((p1 &&& (63 : Int32)) &&& 0x3f).toInt64) (127 : Int64)))])) _
      by_cases hc2 : ((127 : Int64) < (q0 >>> ((p1 &&& (63 : Int32)) &&& 0x3f).toInt64))
      · refine XS.ifYes X0.here hx rfl (pc0 := 20) (pc' := 27) rfl (hb hby at_20) rfl ((if0 _ _).trans (tlt (own_gt hc2)).2.2.1) (by decide) (by decide) ?_
        show Steps p.tables e below (s₁.setTop (mkF m 27 #[.val (.long q0), .second, .val (.int p1), .val (.long (q0 >>> ((p1 &&& (63 : Int32)) &&& 0x3f).toInt64)), .second, .unset, .unset, .unset, .unset, .unset] [])) _
        refine XS.iconst X0.here hx rfl (hb hby at_27) ?_
        show Steps p.tables e below (s₁.setTop (mkF m 28 #[.val (.long q0), .second, .val (.int p1), .val (.long (q0 >>> ((p1 &&& (63 : Int32)) &&& 0x3f).toInt64)), .second, .unset, .unset, .unset, .unset, .unset] [(.int (0 : Int32))])) _
        have q_v3 : v3 = (0 : Int32) := hv3.trans (if_neg (fun q => (fun q => q hc2) q.2))
        rw [q_v3] at k
        exact k
      · refine XS.ifNo X0.here hx rfl (hb hby at_20) rfl ((if0 _ _).trans (flt (own_ngt hc2)).2.2.1) ?_
        show Steps p.tables e below (s₁.setTop (mkF m 23 #[.val (.long q0), .second, .val (.int p1), .val (.long (q0 >>> ((p1 &&& (63 : Int32)) &&& 0x3f).toInt64)), .second, .unset, .unset, .unset, .unset, .unset] [])) _
        refine XS.iconst X0.here hx rfl (hb hby at_23) ?_
        show Steps p.tables e below (s₁.setTop (mkF m 24 #[.val (.long q0), .second, .val (.int p1), .val (.long (q0 >>> ((p1 &&& (63 : Int32)) &&& 0x3f).toInt64)), .second, .unset, .unset, .unset, .unset, .unset] [(.int (1 : Int32))])) _
        refine XS.goto X0.here hx rfl (pc0 := 24) (pc' := 28) rfl (hb hby at_24) (by decide) (by decide) ?_
        show Steps p.tables e below (s₁.setTop (mkF m 28 #[.val (.long q0), .second, .val (.int p1), .val (.long (q0 >>> ((p1 &&& (63 : Int32)) &&& 0x3f).toInt64)), .second, .unset, .unset, .unset, .unset, .unset] [(.int (1 : Int32))])) _
        have q_v3 : v3 = (1 : Int32) := hv3.trans (if_pos ⟨hc1, hc2⟩)
        rw [q_v3] at k
        exact k
  refine Goes.via (S' := (s₁.setTop (mkF m 30 #[.val (.long q0), .second, .val (.int p1), .val (.long (q0 >>> ((p1 &&& (63 : Int32)) &&& 0x3f).toInt64)), .second, .val (.int v3), .unset, .unset, .unset, .unset] []))) (fun t k => XS.istore X0.here hx rfl (hb hby at_28) rfl (l' := #[.val (.long q0), .second, .val (.int p1), .val (.long (q0 >>> ((p1 &&& (63 : Int32)) &&& 0x3f).toInt64)), .second, .val (.int v3), .unset, .unset, .unset, .unset]) rfl k) ?_
  refine Goes.via (S' := (s₁.setTop (mkF m 31 #[.val (.long q0), .second, .val (.int p1), .val (.long (q0 >>> ((p1 &&& (63 : Int32)) &&& 0x3f).toInt64)), .second, .val (.int v3), .unset, .unset, .unset, .unset] [(.long (q0 >>> ((p1 &&& (63 : Int32)) &&& 0x3f).toInt64))]))) (fun t k => XS.lloadN X0.here hx rfl (hb hby at_30) rfl k) ?_
  refine Goes.via (S' := (s₁.setTop (mkF m 34 #[.val (.long q0), .second, .val (.int p1), .val (.long (q0 >>> ((p1 &&& (63 : Int32)) &&& 0x3f).toInt64)), .second, .val (.int v3), .unset, .unset, .unset, .unset] [(.long (-32768 : Int64)), (.long (q0 >>> ((p1 &&& (63 : Int32)) &&& 0x3f).toInt64))]))) (fun t k => X0.ldc2Long hx hown (mvT hZ (hw _ (List.mem_of_getElem? (i := 2) rfl))) (g := (mkF m 31 #[.val (.long q0), .second, .val (.int p1), .val (.long (q0 >>> ((p1 &&& (63 : Int32)) &&& 0x3f).toInt64)), .second, .val (.int v3), .unset, .unset, .unset, .unset] [(.long (q0 >>> ((p1 &&& (63 : Int32)) &&& 0x3f).toInt64))])) rfl (hb hby at_31) _ k) ?_
  refine Goes.via (S' := (s₁.setTop (mkF m 35 #[.val (.long q0), .second, .val (.int p1), .val (.long (q0 >>> ((p1 &&& (63 : Int32)) &&& 0x3f).toInt64)), .second, .val (.int v3), .unset, .unset, .unset, .unset] [(.int (lcmpW (q0 >>> ((p1 &&& (63 : Int32)) &&& 0x3f).toInt64) (-32768 : Int64)))]))) (fun t k => XS.lcmp X0.here hx rfl (hb hby at_34) rfl k) ?_
  obtain ⟨v6, hv6⟩ : ∃ z : Int32, z = (if ((¬ ((q0 >>> ((p1 &&& (63 : Int32)) &&& 0x3f).toInt64) < (-32768 : Int64))) ∧ (¬ ((32767 : Int64) < (q0 >>> ((p1 &&& (63 : Int32)) &&& 0x3f).toInt64)))) then (1 : Int32) else 0) := ⟨_, rfl⟩
  refine Goes.via (S' := (s₁.setTop (mkF m 51 #[.val (.long q0), .second, .val (.int p1), .val (.long (q0 >>> ((p1 &&& (63 : Int32)) &&& 0x3f).toInt64)), .second, .val (.int v3), .unset, .unset, .unset, .unset] [(.int v6)]))) (fun t k => ?_) ?_
  · by_cases hc4 : ((q0 >>> ((p1 &&& (63 : Int32)) &&& 0x3f).toInt64) < (-32768 : Int64))
    · refine XS.ifYes X0.here hx rfl (pc0 := 35) (pc' := 50) rfl (hb hby at_35) rfl ((if0 _ _).trans (tlt (own_lt hc4)).1) (by decide) (by decide) ?_
      show Steps p.tables e below (s₁.setTop (mkF m 50 #[.val (.long q0), .second, .val (.int p1), .val (.long (q0 >>> ((p1 &&& (63 : Int32)) &&& 0x3f).toInt64)), .second, .val (.int v3), .unset, .unset, .unset, .unset] [])) _
      refine XS.iconst X0.here hx rfl (hb hby at_50) ?_
      show Steps p.tables e below (s₁.setTop (mkF m 51 #[.val (.long q0), .second, .val (.int p1), .val (.long (q0 >>> ((p1 &&& (63 : Int32)) &&& 0x3f).toInt64)), .second, .val (.int v3), .unset, .unset, .unset, .unset] [(.int (0 : Int32))])) _
      have q_v6 : v6 = (0 : Int32) := hv6.trans (if_neg (fun q => (fun q => q hc4) q.1))
      rw [q_v6] at k
      exact k
    · refine XS.ifNo X0.here hx rfl (hb hby at_35) rfl ((if0 _ _).trans (flt (own_nlt hc4)).1) ?_
      show Steps p.tables e below (s₁.setTop (mkF m 38 #[.val (.long q0), .second, .val (.int p1), .val (.long (q0 >>> ((p1 &&& (63 : Int32)) &&& 0x3f).toInt64)), .second, .val (.int v3), .unset, .unset, .unset, .unset] [])) _
      refine XS.lloadN X0.here hx rfl (hb hby at_38) rfl ?_
      show Steps p.tables e below (s₁.setTop (mkF m 39 #[.val (.long q0), .second, .val (.int p1), .val (.long (q0 >>> ((p1 &&& (63 : Int32)) &&& 0x3f).toInt64)), .second, .val (.int v3), .unset, .unset, .unset, .unset] [(.long (q0 >>> ((p1 &&& (63 : Int32)) &&& 0x3f).toInt64))])) _
      refine X0.ldc2Long hx hown (mvT hZ (hw _ (List.mem_of_getElem? (i := 3) rfl))) (g := (mkF m 39 #[.val (.long q0), .second, .val (.int p1), .val (.long (q0 >>> ((p1 &&& (63 : Int32)) &&& 0x3f).toInt64)), .second, .val (.int v3), .unset, .unset, .unset, .unset] [(.long (q0 >>> ((p1 &&& (63 : Int32)) &&& 0x3f).toInt64))])) rfl (hb hby at_39) _ ?_
      show Steps p.tables e below (s₁.setTop (mkF m 42 #[.val (.long q0), .second, .val (.int p1), .val (.long (q0 >>> ((p1 &&& (63 : Int32)) &&& 0x3f).toInt64)), .second, .val (.int v3), .unset, .unset, .unset, .unset] [(.long (32767 : Int64)), (.long (q0 >>> ((p1 &&& (63 : Int32)) &&& 0x3f).toInt64))])) _
      refine XS.lcmp X0.here hx rfl (hb hby at_42) rfl ?_
      show Steps p.tables e below (s₁.setTop (mkF m 43 #[.val (.long q0), .second, .val (.int p1), .val (.long (q0 >>> ((p1 &&& (63 : Int32)) &&& 0x3f).toInt64)), .second, .val (.int v3), .unset, .unset, .unset, .unset] [(.int (lcmpW (q0 >>> ((p1 &&& (63 : Int32)) &&& 0x3f).toInt64) (32767 : Int64)))])) _
      by_cases hc5 : ((32767 : Int64) < (q0 >>> ((p1 &&& (63 : Int32)) &&& 0x3f).toInt64))
      · refine XS.ifYes X0.here hx rfl (pc0 := 43) (pc' := 50) rfl (hb hby at_43) rfl ((if0 _ _).trans (tlt (own_gt hc5)).2.2.1) (by decide) (by decide) ?_
        show Steps p.tables e below (s₁.setTop (mkF m 50 #[.val (.long q0), .second, .val (.int p1), .val (.long (q0 >>> ((p1 &&& (63 : Int32)) &&& 0x3f).toInt64)), .second, .val (.int v3), .unset, .unset, .unset, .unset] [])) _
        refine XS.iconst X0.here hx rfl (hb hby at_50) ?_
        show Steps p.tables e below (s₁.setTop (mkF m 51 #[.val (.long q0), .second, .val (.int p1), .val (.long (q0 >>> ((p1 &&& (63 : Int32)) &&& 0x3f).toInt64)), .second, .val (.int v3), .unset, .unset, .unset, .unset] [(.int (0 : Int32))])) _
        have q_v6 : v6 = (0 : Int32) := hv6.trans (if_neg (fun q => (fun q => q hc5) q.2))
        rw [q_v6] at k
        exact k
      · refine XS.ifNo X0.here hx rfl (hb hby at_43) rfl ((if0 _ _).trans (flt (own_ngt hc5)).2.2.1) ?_
        show Steps p.tables e below (s₁.setTop (mkF m 46 #[.val (.long q0), .second, .val (.int p1), .val (.long (q0 >>> ((p1 &&& (63 : Int32)) &&& 0x3f).toInt64)), .second, .val (.int v3), .unset, .unset, .unset, .unset] [])) _
        refine XS.iconst X0.here hx rfl (hb hby at_46) ?_
        show Steps p.tables e below (s₁.setTop (mkF m 47 #[.val (.long q0), .second, .val (.int p1), .val (.long (q0 >>> ((p1 &&& (63 : Int32)) &&& 0x3f).toInt64)), .second, .val (.int v3), .unset, .unset, .unset, .unset] [(.int (1 : Int32))])) _
        refine XS.goto X0.here hx rfl (pc0 := 47) (pc' := 51) rfl (hb hby at_47) (by decide) (by decide) ?_
        show Steps p.tables e below (s₁.setTop (mkF m 51 #[.val (.long q0), .second, .val (.int p1), .val (.long (q0 >>> ((p1 &&& (63 : Int32)) &&& 0x3f).toInt64)), .second, .val (.int v3), .unset, .unset, .unset, .unset] [(.int (1 : Int32))])) _
        have q_v6 : v6 = (1 : Int32) := hv6.trans (if_pos ⟨hc4, hc5⟩)
        rw [q_v6] at k
        exact k
  refine Goes.via (S' := (s₁.setTop (mkF m 53 #[.val (.long q0), .second, .val (.int p1), .val (.long (q0 >>> ((p1 &&& (63 : Int32)) &&& 0x3f).toInt64)), .second, .val (.int v3), .val (.int v6), .unset, .unset, .unset] []))) (fun t k => XS.istore X0.here hx rfl (hb hby at_51) rfl (l' := #[.val (.long q0), .second, .val (.int p1), .val (.long (q0 >>> ((p1 &&& (63 : Int32)) &&& 0x3f).toInt64)), .second, .val (.int v3), .val (.int v6), .unset, .unset, .unset]) rfl k) ?_
  refine Goes.via (S' := (s₁.setTop (mkF m 54 #[.val (.long q0), .second, .val (.int p1), .val (.long (q0 >>> ((p1 &&& (63 : Int32)) &&& 0x3f).toInt64)), .second, .val (.int v3), .val (.int v6), .unset, .unset, .unset] [(.long (q0 >>> ((p1 &&& (63 : Int32)) &&& 0x3f).toInt64))]))) (fun t k => XS.lloadN X0.here hx rfl (hb hby at_53) rfl k) ?_
  refine Goes.via (S' := (s₁.setTop (mkF m 57 #[.val (.long q0), .second, .val (.int p1), .val (.long (q0 >>> ((p1 &&& (63 : Int32)) &&& 0x3f).toInt64)), .second, .val (.int v3), .val (.int v6), .unset, .unset, .unset] [(.long (-2147483648 : Int64)), (.long (q0 >>> ((p1 &&& (63 : Int32)) &&& 0x3f).toInt64))]))) (fun t k => X0.ldc2Long hx hown (mvT hZ (hw _ (List.mem_of_getElem? (i := 4) rfl))) (g := (mkF m 54 #[.val (.long q0), .second, .val (.int p1), .val (.long (q0 >>> ((p1 &&& (63 : Int32)) &&& 0x3f).toInt64)), .second, .val (.int v3), .val (.int v6), .unset, .unset, .unset] [(.long (q0 >>> ((p1 &&& (63 : Int32)) &&& 0x3f).toInt64))])) rfl (hb hby at_54) _ k) ?_
  refine Goes.via (S' := (s₁.setTop (mkF m 58 #[.val (.long q0), .second, .val (.int p1), .val (.long (q0 >>> ((p1 &&& (63 : Int32)) &&& 0x3f).toInt64)), .second, .val (.int v3), .val (.int v6), .unset, .unset, .unset] [(.int (lcmpW (q0 >>> ((p1 &&& (63 : Int32)) &&& 0x3f).toInt64) (-2147483648 : Int64)))]))) (fun t k => XS.lcmp X0.here hx rfl (hb hby at_57) rfl k) ?_
  obtain ⟨v9, hv9⟩ : ∃ z : Int32, z = (if ((¬ ((q0 >>> ((p1 &&& (63 : Int32)) &&& 0x3f).toInt64) < (-2147483648 : Int64))) ∧ (¬ ((2147483647 : Int64) < (q0 >>> ((p1 &&& (63 : Int32)) &&& 0x3f).toInt64)))) then (1 : Int32) else 0) := ⟨_, rfl⟩
  refine Goes.via (S' := (s₁.setTop (mkF m 74 #[.val (.long q0), .second, .val (.int p1), .val (.long (q0 >>> ((p1 &&& (63 : Int32)) &&& 0x3f).toInt64)), .second, .val (.int v3), .val (.int v6), .unset, .unset, .unset] [(.int v9)]))) (fun t k => ?_) ?_
  · by_cases hc7 : ((q0 >>> ((p1 &&& (63 : Int32)) &&& 0x3f).toInt64) < (-2147483648 : Int64))
    · refine XS.ifYes X0.here hx rfl (pc0 := 58) (pc' := 73) rfl (hb hby at_58) rfl ((if0 _ _).trans (tlt (own_lt hc7)).1) (by decide) (by decide) ?_
      show Steps p.tables e below (s₁.setTop (mkF m 73 #[.val (.long q0), .second, .val (.int p1), .val (.long (q0 >>> ((p1 &&& (63 : Int32)) &&& 0x3f).toInt64)), .second, .val (.int v3), .val (.int v6), .unset, .unset, .unset] [])) _
      refine XS.iconst X0.here hx rfl (hb hby at_73) ?_
      show Steps p.tables e below (s₁.setTop (mkF m 74 #[.val (.long q0), .second, .val (.int p1), .val (.long (q0 >>> ((p1 &&& (63 : Int32)) &&& 0x3f).toInt64)), .second, .val (.int v3), .val (.int v6), .unset, .unset, .unset] [(.int (0 : Int32))])) _
      have q_v9 : v9 = (0 : Int32) := hv9.trans (if_neg (fun q => (fun q => q hc7) q.1))
      rw [q_v9] at k
      exact k
    · refine XS.ifNo X0.here hx rfl (hb hby at_58) rfl ((if0 _ _).trans (flt (own_nlt hc7)).1) ?_
      show Steps p.tables e below (s₁.setTop (mkF m 61 #[.val (.long q0), .second, .val (.int p1), .val (.long (q0 >>> ((p1 &&& (63 : Int32)) &&& 0x3f).toInt64)), .second, .val (.int v3), .val (.int v6), .unset, .unset, .unset] [])) _
      refine XS.lloadN X0.here hx rfl (hb hby at_61) rfl ?_
      show Steps p.tables e below (s₁.setTop (mkF m 62 #[.val (.long q0), .second, .val (.int p1), .val (.long (q0 >>> ((p1 &&& (63 : Int32)) &&& 0x3f).toInt64)), .second, .val (.int v3), .val (.int v6), .unset, .unset, .unset] [(.long (q0 >>> ((p1 &&& (63 : Int32)) &&& 0x3f).toInt64))])) _
      refine X0.ldc2Long hx hown (mvT hZ (hw _ (List.mem_of_getElem? (i := 5) rfl))) (g := (mkF m 62 #[.val (.long q0), .second, .val (.int p1), .val (.long (q0 >>> ((p1 &&& (63 : Int32)) &&& 0x3f).toInt64)), .second, .val (.int v3), .val (.int v6), .unset, .unset, .unset] [(.long (q0 >>> ((p1 &&& (63 : Int32)) &&& 0x3f).toInt64))])) rfl (hb hby at_62) _ ?_
      show Steps p.tables e below (s₁.setTop (mkF m 65 #[.val (.long q0), .second, .val (.int p1), .val (.long (q0 >>> ((p1 &&& (63 : Int32)) &&& 0x3f).toInt64)), .second, .val (.int v3), .val (.int v6), .unset, .unset, .unset] [(.long (2147483647 : Int64)), (.long (q0 >>> ((p1 &&& (63 : Int32)) &&& 0x3f).toInt64))])) _
      refine XS.lcmp X0.here hx rfl (hb hby at_65) rfl ?_
      show Steps p.tables e below (s₁.setTop (mkF m 66 #[.val (.long q0), .second, .val (.int p1), .val (.long (q0 >>> ((p1 &&& (63 : Int32)) &&& 0x3f).toInt64)), .second, .val (.int v3), .val (.int v6), .unset, .unset, .unset] [(.int (lcmpW (q0 >>> ((p1 &&& (63 : Int32)) &&& 0x3f).toInt64) (2147483647 : Int64)))])) _
      by_cases hc8 : ((2147483647 : Int64) < (q0 >>> ((p1 &&& (63 : Int32)) &&& 0x3f).toInt64))
      · refine XS.ifYes X0.here hx rfl (pc0 := 66) (pc' := 73) rfl (hb hby at_66) rfl ((if0 _ _).trans (tlt (own_gt hc8)).2.2.1) (by decide) (by decide) ?_
        show Steps p.tables e below (s₁.setTop (mkF m 73 #[.val (.long q0), .second, .val (.int p1), .val (.long (q0 >>> ((p1 &&& (63 : Int32)) &&& 0x3f).toInt64)), .second, .val (.int v3), .val (.int v6), .unset, .unset, .unset] [])) _
        refine XS.iconst X0.here hx rfl (hb hby at_73) ?_
        show Steps p.tables e below (s₁.setTop (mkF m 74 #[.val (.long q0), .second, .val (.int p1), .val (.long (q0 >>> ((p1 &&& (63 : Int32)) &&& 0x3f).toInt64)), .second, .val (.int v3), .val (.int v6), .unset, .unset, .unset] [(.int (0 : Int32))])) _
        have q_v9 : v9 = (0 : Int32) := hv9.trans (if_neg (fun q => (fun q => q hc8) q.2))
        rw [q_v9] at k
        exact k
      · refine XS.ifNo X0.here hx rfl (hb hby at_66) rfl ((if0 _ _).trans (flt (own_ngt hc8)).2.2.1) ?_
        show Steps p.tables e below (s₁.setTop (mkF m 69 #[.val (.long q0), .second, .val (.int p1), .val (.long (q0 >>> ((p1 &&& (63 : Int32)) &&& 0x3f).toInt64)), .second, .val (.int v3), .val (.int v6), .unset, .unset, .unset] [])) _
        refine XS.iconst X0.here hx rfl (hb hby at_69) ?_
        show Steps p.tables e below (s₁.setTop (mkF m 70 #[.val (.long q0), .second, .val (.int p1), .val (.long (q0 >>> ((p1 &&& (63 : Int32)) &&& 0x3f).toInt64)), .second, .val (.int v3), .val (.int v6), .unset, .unset, .unset] [(.int (1 : Int32))])) _
        refine XS.goto X0.here hx rfl (pc0 := 70) (pc' := 74) rfl (hb hby at_70) (by decide) (by decide) ?_
        show Steps p.tables e below (s₁.setTop (mkF m 74 #[.val (.long q0), .second, .val (.int p1), .val (.long (q0 >>> ((p1 &&& (63 : Int32)) &&& 0x3f).toInt64)), .second, .val (.int v3), .val (.int v6), .unset, .unset, .unset] [(.int (1 : Int32))])) _
        have q_v9 : v9 = (1 : Int32) := hv9.trans (if_pos ⟨hc7, hc8⟩)
        rw [q_v9] at k
        exact k
  refine Goes.via (S' := (s₁.setTop (mkF m 76 #[.val (.long q0), .second, .val (.int p1), .val (.long (q0 >>> ((p1 &&& (63 : Int32)) &&& 0x3f).toInt64)), .second, .val (.int v3), .val (.int v6), .val (.int v9), .unset, .unset] []))) (fun t k => XS.istore X0.here hx rfl (hb hby at_74) rfl (l' := #[.val (.long q0), .second, .val (.int p1), .val (.long (q0 >>> ((p1 &&& (63 : Int32)) &&& 0x3f).toInt64)), .second, .val (.int v3), .val (.int v6), .val (.int v9), .unset, .unset]) rfl k) ?_
  refine Goes.via (S' := (s₁.setTop (mkF m 78 #[.val (.long q0), .second, .val (.int p1), .val (.long (q0 >>> ((p1 &&& (63 : Int32)) &&& 0x3f).toInt64)), .second, .val (.int v3), .val (.int v6), .val (.int v9), .unset, .unset] [(.int v3)]))) (fun t k => XS.iload X0.here hx rfl (hb hby at_76) rfl k) ?_
  by_cases hc11 : ((¬ ((q0 >>> ((p1 &&& (63 : Int32)) &&& 0x3f).toInt64) < (-128 : Int64))) ∧ (¬ ((127 : Int64) < (q0 >>> ((p1 &&& (63 : Int32)) &&& 0x3f).toInt64))))
  · refine Goes.via (S' := (s₁.setTop (mkF m 81 #[.val (.long q0), .second, .val (.int p1), .val (.long (q0 >>> ((p1 &&& (63 : Int32)) &&& 0x3f).toInt64)), .second, .val (.int v3), .val (.int v6), .val (.int v9), .unset, .unset] []))) (fun t k => XS.ifNo X0.here hx rfl (hb hby at_78) rfl ((if0 _ _).trans (feq (own_b1 hv3 hc11)).1) k) ?_
    obtain ⟨T12, X12, e12, st12⟩ := getS2 X0 hx hZ hown (host := "") (Or.inl (hw _ (List.mem_of_getElem? (i := 6) rfl))) Via.refl e0 f0_BYTE (g := (mkF m 81 #[.val (.long q0), .second, .val (.int p1), .val (.long (q0 >>> ((p1 &&& (63 : Int32)) &&& 0x3f).toInt64)), .second, .val (.int v3), .val (.int v6), .val (.int v9), .unset, .unset] [])) rfl (hb hby at_81)
    refine Goes.via (S' := (T12.setTop (mkF m 84 #[.val (.long q0), .second, .val (.int p1), .val (.long (q0 >>> ((p1 &&& (63 : Int32)) &&& 0x3f).toInt64)), .second, .val (.int v3), .val (.int v6), .val (.int v9), .unset, .unset] [(.ref x0)]))) (fun t k => st12 _ k) ?_
    refine Goes.via (S' := (T12.setTop (mkF m 86 #[.val (.long q0), .second, .val (.int p1), .val (.long (q0 >>> ((p1 &&& (63 : Int32)) &&& 0x3f).toInt64)), .second, .val (.int v3), .val (.int v6), .val (.int v9), .val (.ref x0), .unset] []))) (fun t k => XS.astore X12.here hx rfl (hb hby at_84) rfl rfl (l' := #[.val (.long q0), .second, .val (.int p1), .val (.long (q0 >>> ((p1 &&& (63 : Int32)) &&& 0x3f).toInt64)), .second, .val (.int v3), .val (.int v6), .val (.int v9), .val (.ref x0), .unset]) rfl k) ?_
    refine Goes.via (S' := (T12.setTop (mkF m 120 #[.val (.long q0), .second, .val (.int p1), .val (.long (q0 >>> ((p1 &&& (63 : Int32)) &&& 0x3f).toInt64)), .second, .val (.int v3), .val (.int v6), .val (.int v9), .val (.ref x0), .unset] []))) (fun t k => XS.goto X12.here hx rfl (pc0 := 86) (pc' := 120) rfl (hb hby at_86) (by decide) (by decide) k) ?_
    refine Goes.via (S' := (T12.setTop (mkF m 121 #[.val (.long q0), .second, .val (.int p1), .val (.long (q0 >>> ((p1 &&& (63 : Int32)) &&& 0x3f).toInt64)), .second, .val (.int v3), .val (.int v6), .val (.int v9), .val (.ref x0), .unset] [(.long (q0 >>> ((p1 &&& (63 : Int32)) &&& 0x3f).toInt64))]))) (fun t k => XS.lloadN X12.here hx rfl (hb hby at_120) rfl k) ?_
    obtain ⟨_, _, ⟨T13, L13, k13, n13⟩, -, X13, ⟨Lc13, hQ13, l13, y13, z13⟩, st13⟩ := Jvm.LawKit.callS X12 hx (y := (⟨"com/example/finder_compiler/findercompiler/CmpType", "narrowest", "(J)Lcom/example/finder_compiler/findercompiler/CmpType;"⟩ : MethodName)) hown (mvT hZ (hw _ (List.mem_of_getElem? (i := 9) rfl))) (mvT hZ (hw _ (List.mem_of_getElem? (i := 10) rfl))) (mvT hZ (hw _ (List.mem_of_getElem? (i := 7) rfl))) (mvT hZ (hw _ (List.mem_of_getElem? (i := 11) rfl))) (by decide) (backOf (W := 0) (rm1 l Z a0 hw [] (q0 >>> ((p1 &&& (63 : Int32)) &&& 0x3f).toInt64) x0 x1 x2 x3 h0 n0 Z0 f0_BYTE f1_SHORT f2_INT f3_LONG) hZ (hw _ (List.mem_of_getElem? (i := 11) rfl)) (hw _ (List.mem_of_getElem? (i := 7) rfl)) (by decide) (by decide)) (g := (mkF m 121 #[.val (.long q0), .second, .val (.int p1), .val (.long (q0 >>> ((p1 &&& (63 : Int32)) &&& 0x3f).toInt64)), .second, .val (.int v3), .val (.int v6), .val (.int v9), .val (.ref x0), .unset] [(.long (q0 >>> ((p1 &&& (63 : Int32)) &&& 0x3f).toInt64))])) rfl (by rw [hml]; rfl) (argsL := [(.long (q0 >>> ((p1 &&& (63 : Int32)) &&& 0x3f).toInt64))]) (rest := []) (lenOf pd_0 rfl) rfl (by show 2 * 0 + _ ≤ _; exact Nat.le_of_eq rfl) (hb hby at_121) (fun _ _ => ⟨rfl, e12, (by decide : 0 + 0 ≤ _), (by decide : 0 + 0 ≤ _)⟩)
    dsimp only [Pt.U, Pt.locs, Pt.cells, Pt.slots] at X13 l13 y13 z13 st13 hQ13
    subst l13 y13 z13
    obtain ⟨r13, rfl, hr13, N13q, eq13⟩ := hQ13
    have N13 := Fr.app N0 N13q
    refine Goes.via (S' := (T13.setTop (mkF m 124 #[.val (.long q0), .second, .val (.int p1), .val (.long (q0 >>> ((p1 &&& (63 : Int32)) &&& 0x3f).toInt64)), .second, .val (.int v3), .val (.int v6), .val (.int v9), .val (.ref x0), .unset] [(.ref r13)]))) (fun t k => st13 _ k) ?_
    refine Goes.via (S' := (T13.setTop (mkF m 126 #[.val (.long q0), .second, .val (.int p1), .val (.long (q0 >>> ((p1 &&& (63 : Int32)) &&& 0x3f).toInt64)), .second, .val (.int v3), .val (.int v6), .val (.int v9), .val (.ref x0), .val (.ref r13)] []))) (fun t k => XS.astore X13.here hx rfl (hb hby at_124) rfl rfl (l' := #[.val (.long q0), .second, .val (.int p1), .val (.long (q0 >>> ((p1 &&& (63 : Int32)) &&& 0x3f).toInt64)), .second, .val (.int v3), .val (.int v6), .val (.int v9), .val (.ref x0), .val (.ref r13)]) rfl k) ?_
    refine Goes.via (S' := (T13.setTop (mkF m 128 #[.val (.long q0), .second, .val (.int p1), .val (.long (q0 >>> ((p1 &&& (63 : Int32)) &&& 0x3f).toInt64)), .second, .val (.int v3), .val (.int v6), .val (.int v9), .val (.ref x0), .val (.ref r13)] [(.ref r13)]))) (fun t k => XS.aload X13.here hx rfl (hb hby at_126) rfl rfl k) ?_
    refine Goes.via (S' := (T13.setTop (mkF m 130 #[.val (.long q0), .second, .val (.int p1), .val (.long (q0 >>> ((p1 &&& (63 : Int32)) &&& 0x3f).toInt64)), .second, .val (.int v3), .val (.int v6), .val (.int v9), .val (.ref x0), .val (.ref r13)] [(.ref x0), (.ref r13)]))) (fun t k => XS.aload X13.here hx rfl (hb hby at_128) rfl rfl k) ?_
    refine Goes.via (S' := (T13.setTop (mkF m 133 #[.val (.long q0), .second, .val (.int p1), .val (.long (q0 >>> ((p1 &&& (63 : Int32)) &&& 0x3f).toInt64)), .second, .val (.int v3), .val (.int v6), .val (.int v9), .val (.ref x0), .val (.ref r13)] []))) (fun t k => Jvm.RoadKit.acmp (g := (mkF m 130 #[.val (.long q0), .second, .val (.int p1), .val (.long (q0 >>> ((p1 &&& (63 : Int32)) &&& 0x3f).toInt64)), .second, .val (.int v3), .val (.int v6), .val (.int v9), .val (.ref x0), .val (.ref r13)] [(.ref x0), (.ref r13)])) X13 hx rfl rfl rfl (pc0 := 130) (pc' := 133) (same := true) rfl (hb hby at_130) rfl (decide_eq_true (congrArg Value.ref (by rw [hr13, if_pos (by rw [own_byte]; exact hc11)]))) (by decide) (by decide) k) ?_
    refine Goes.via (S' := (T13.setTop (mkF m 134 #[.val (.long q0), .second, .val (.int p1), .val (.long (q0 >>> ((p1 &&& (63 : Int32)) &&& 0x3f).toInt64)), .second, .val (.int v3), .val (.int v6), .val (.int v9), .val (.ref x0), .val (.ref r13)] [(.int (1 : Int32))]))) (fun t k => XS.iconst X13.here hx rfl (hb hby at_133) k) ?_
    refine Goes.via (S' := (T13.setTop (mkF m 138 #[.val (.long q0), .second, .val (.int p1), .val (.long (q0 >>> ((p1 &&& (63 : Int32)) &&& 0x3f).toInt64)), .second, .val (.int v3), .val (.int v6), .val (.int v9), .val (.ref x0), .val (.ref r13)] [(.int (1 : Int32))]))) (fun t k => XS.goto X13.here hx rfl (pc0 := 134) (pc' := 138) rfl (hb hby at_134) (by decide) (by decide) k) ?_
    exact own_ret X13 hx Bd.notSynchronized Bd.returns rfl (Or.inl ⟨rfl, by simp, _, rfl⟩) (hb hby at_138) eq13 ⟨rfl, N13⟩ (by decide) (by decide)
  · refine Goes.via (S' := (s₁.setTop (mkF m 89 #[.val (.long q0), .second, .val (.int p1), .val (.long (q0 >>> ((p1 &&& (63 : Int32)) &&& 0x3f).toInt64)), .second, .val (.int v3), .val (.int v6), .val (.int v9), .unset, .unset] []))) (fun t k => XS.ifYes X0.here hx rfl (pc0 := 78) (pc' := 89) rfl (hb hby at_78) rfl ((if0 _ _).trans (teq (own_b0 hv3 hc11)).1) (by decide) (by decide) k) ?_
    refine Goes.via (S' := (s₁.setTop (mkF m 91 #[.val (.long q0), .second, .val (.int p1), .val (.long (q0 >>> ((p1 &&& (63 : Int32)) &&& 0x3f).toInt64)), .second, .val (.int v3), .val (.int v6), .val (.int v9), .unset, .unset] [(.int v6)]))) (fun t k => XS.iload X0.here hx rfl (hb hby at_89) rfl k) ?_
    by_cases hc15 : ((¬ ((q0 >>> ((p1 &&& (63 : Int32)) &&& 0x3f).toInt64) < (-32768 : Int64))) ∧ (¬ ((32767 : Int64) < (q0 >>> ((p1 &&& (63 : Int32)) &&& 0x3f).toInt64))))
    · refine Goes.via (S' := (s₁.setTop (mkF m 94 #[.val (.long q0), .second, .val (.int p1), .val (.long (q0 >>> ((p1 &&& (63 : Int32)) &&& 0x3f).toInt64)), .second, .val (.int v3), .val (.int v6), .val (.int v9), .unset, .unset] []))) (fun t k => XS.ifNo X0.here hx rfl (hb hby at_91) rfl ((if0 _ _).trans (feq (own_b1 hv6 hc15)).1) k) ?_
      obtain ⟨T16, X16, e16, st16⟩ := getS2 X0 hx hZ hown (host := "") (Or.inl (hw _ (List.mem_of_getElem? (i := 16) rfl))) Via.refl e0 f1_SHORT (g := (mkF m 94 #[.val (.long q0), .second, .val (.int p1), .val (.long (q0 >>> ((p1 &&& (63 : Int32)) &&& 0x3f).toInt64)), .second, .val (.int v3), .val (.int v6), .val (.int v9), .unset, .unset] [])) rfl (hb hby at_94)
      refine Goes.via (S' := (T16.setTop (mkF m 97 #[.val (.long q0), .second, .val (.int p1), .val (.long (q0 >>> ((p1 &&& (63 : Int32)) &&& 0x3f).toInt64)), .second, .val (.int v3), .val (.int v6), .val (.int v9), .unset, .unset] [(.ref x1)]))) (fun t k => st16 _ k) ?_
      refine Goes.via (S' := (T16.setTop (mkF m 99 #[.val (.long q0), .second, .val (.int p1), .val (.long (q0 >>> ((p1 &&& (63 : Int32)) &&& 0x3f).toInt64)), .second, .val (.int v3), .val (.int v6), .val (.int v9), .val (.ref x1), .unset] []))) (fun t k => XS.astore X16.here hx rfl (hb hby at_97) rfl rfl (l' := #[.val (.long q0), .second, .val (.int p1), .val (.long (q0 >>> ((p1 &&& (63 : Int32)) &&& 0x3f).toInt64)), .second, .val (.int v3), .val (.int v6), .val (.int v9), .val (.ref x1), .unset]) rfl k) ?_
      refine Goes.via (S' := (T16.setTop (mkF m 120 #[.val (.long q0), .second, .val (.int p1), .val (.long (q0 >>> ((p1 &&& (63 : Int32)) &&& 0x3f).toInt64)), .second, .val (.int v3), .val (.int v6), .val (.int v9), .val (.ref x1), .unset] []))) (fun t k => XS.goto X16.here hx rfl (pc0 := 99) (pc' := 120) rfl (hb hby at_99) (by decide) (by decide) k) ?_
      refine Goes.via (S' := (T16.setTop (mkF m 121 #[.val (.long q0), .second, .val (.int p1), .val (.long (q0 >>> ((p1 &&& (63 : Int32)) &&& 0x3f).toInt64)), .second, .val (.int v3), .val (.int v6), .val (.int v9), .val (.ref x1), .unset] [(.long (q0 >>> ((p1 &&& (63 : Int32)) &&& 0x3f).toInt64))]))) (fun t k => XS.lloadN X16.here hx rfl (hb hby at_120) rfl k) ?_
      obtain ⟨_, _, ⟨T17, L17, k17, n17⟩, -, X17, ⟨Lc17, hQ17, l17, y17, z17⟩, st17⟩ := Jvm.LawKit.callS X16 hx (y := (⟨"com/example/finder_compiler/findercompiler/CmpType", "narrowest", "(J)Lcom/example/finder_compiler/findercompiler/CmpType;"⟩ : MethodName)) hown (mvT hZ (hw _ (List.mem_of_getElem? (i := 9) rfl))) (mvT hZ (hw _ (List.mem_of_getElem? (i := 10) rfl))) (mvT hZ (hw _ (List.mem_of_getElem? (i := 7) rfl))) (mvT hZ (hw _ (List.mem_of_getElem? (i := 11) rfl))) (by decide) (backOf (W := 0) (rm1 l Z a0 hw [] (q0 >>> ((p1 &&& (63 : Int32)) &&& 0x3f).toInt64) x0 x1 x2 x3 h0 n0 Z0 f0_BYTE f1_SHORT f2_INT f3_LONG) hZ (hw _ (List.mem_of_getElem? (i := 11) rfl)) (hw _ (List.mem_of_getElem? (i := 7) rfl)) (by decide) (by decide)) (g := (mkF m 121 #[.val (.long q0), .second, .val (.int p1), .val (.long (q0 >>> ((p1 &&& (63 : Int32)) &&& 0x3f).toInt64)), .second, .val (.int v3), .val (.int v6), .val (.int v9), .val (.ref x1), .unset] [(.long (q0 >>> ((p1 &&& (63 : Int32)) &&& 0x3f).toInt64))])) rfl (by rw [hml]; rfl) (argsL := [(.long (q0 >>> ((p1 &&& (63 : Int32)) &&& 0x3f).toInt64))]) (rest := []) (lenOf pd_0 rfl) rfl (by show 2 * 0 + _ ≤ _; exact Nat.le_of_eq rfl) (hb hby at_121) (fun _ _ => ⟨rfl, e16, (by decide : 0 + 0 ≤ _), (by decide : 0 + 0 ≤ _)⟩)
      dsimp only [Pt.U, Pt.locs, Pt.cells, Pt.slots] at X17 l17 y17 z17 st17 hQ17
      subst l17 y17 z17
      obtain ⟨r17, rfl, hr17, N17q, eq17⟩ := hQ17
      have N17 := Fr.app N0 N17q
      refine Goes.via (S' := (T17.setTop (mkF m 124 #[.val (.long q0), .second, .val (.int p1), .val (.long (q0 >>> ((p1 &&& (63 : Int32)) &&& 0x3f).toInt64)), .second, .val (.int v3), .val (.int v6), .val (.int v9), .val (.ref x1), .unset] [(.ref r17)]))) (fun t k => st17 _ k) ?_
      refine Goes.via (S' := (T17.setTop (mkF m 126 #[.val (.long q0), .second, .val (.int p1), .val (.long (q0 >>> ((p1 &&& (63 : Int32)) &&& 0x3f).toInt64)), .second, .val (.int v3), .val (.int v6), .val (.int v9), .val (.ref x1), .val (.ref r17)] []))) (fun t k => XS.astore X17.here hx rfl (hb hby at_124) rfl rfl (l' := #[.val (.long q0), .second, .val (.int p1), .val (.long (q0 >>> ((p1 &&& (63 : Int32)) &&& 0x3f).toInt64)), .second, .val (.int v3), .val (.int v6), .val (.int v9), .val (.ref x1), .val (.ref r17)]) rfl k) ?_
      refine Goes.via (S' := (T17.setTop (mkF m 128 #[.val (.long q0), .second, .val (.int p1), .val (.long (q0 >>> ((p1 &&& (63 : Int32)) &&& 0x3f).toInt64)), .second, .val (.int v3), .val (.int v6), .val (.int v9), .val (.ref x1), .val (.ref r17)] [(.ref r17)]))) (fun t k => XS.aload X17.here hx rfl (hb hby at_126) rfl rfl k) ?_
      refine Goes.via (S' := (T17.setTop (mkF m 130 #[.val (.long q0), .second, .val (.int p1), .val (.long (q0 >>> ((p1 &&& (63 : Int32)) &&& 0x3f).toInt64)), .second, .val (.int v3), .val (.int v6), .val (.int v9), .val (.ref x1), .val (.ref r17)] [(.ref x1), (.ref r17)]))) (fun t k => XS.aload X17.here hx rfl (hb hby at_128) rfl rfl k) ?_
      refine Goes.via (S' := (T17.setTop (mkF m 133 #[.val (.long q0), .second, .val (.int p1), .val (.long (q0 >>> ((p1 &&& (63 : Int32)) &&& 0x3f).toInt64)), .second, .val (.int v3), .val (.int v6), .val (.int v9), .val (.ref x1), .val (.ref r17)] []))) (fun t k => Jvm.RoadKit.acmp (g := (mkF m 130 #[.val (.long q0), .second, .val (.int p1), .val (.long (q0 >>> ((p1 &&& (63 : Int32)) &&& 0x3f).toInt64)), .second, .val (.int v3), .val (.int v6), .val (.int v9), .val (.ref x1), .val (.ref r17)] [(.ref x1), (.ref r17)])) X17 hx rfl rfl rfl (pc0 := 130) (pc' := 133) (same := true) rfl (hb hby at_130) rfl (decide_eq_true (congrArg Value.ref (by rw [hr17, if_neg (by rw [own_byte]; exact hc11), if_pos (by rw [own_short]; exact hc15)]))) (by decide) (by decide) k) ?_
      refine Goes.via (S' := (T17.setTop (mkF m 134 #[.val (.long q0), .second, .val (.int p1), .val (.long (q0 >>> ((p1 &&& (63 : Int32)) &&& 0x3f).toInt64)), .second, .val (.int v3), .val (.int v6), .val (.int v9), .val (.ref x1), .val (.ref r17)] [(.int (1 : Int32))]))) (fun t k => XS.iconst X17.here hx rfl (hb hby at_133) k) ?_
      refine Goes.via (S' := (T17.setTop (mkF m 138 #[.val (.long q0), .second, .val (.int p1), .val (.long (q0 >>> ((p1 &&& (63 : Int32)) &&& 0x3f).toInt64)), .second, .val (.int v3), .val (.int v6), .val (.int v9), .val (.ref x1), .val (.ref r17)] [(.int (1 : Int32))]))) (fun t k => XS.goto X17.here hx rfl (pc0 := 134) (pc' := 138) rfl (hb hby at_134) (by decide) (by decide) k) ?_
      exact own_ret X17 hx Bd.notSynchronized Bd.returns rfl (Or.inl ⟨rfl, by simp, _, rfl⟩) (hb hby at_138) eq17 ⟨rfl, N17⟩ (by decide) (by decide)
    · refine Goes.via (S' := (s₁.setTop (mkF m 102 #[.val (.long q0), .second, .val (.int p1), .val (.long (q0 >>> ((p1 &&& (63 : Int32)) &&& 0x3f).toInt64)), .second, .val (.int v3), .val (.int v6), .val (.int v9), .unset, .unset] []))) (fun t k => XS.ifYes X0.here hx rfl (pc0 := 91) (pc' := 102) rfl (hb hby at_91) rfl ((if0 _ _).trans (teq (own_b0 hv6 hc15)).1) (by decide) (by decide) k) ?_
      refine Goes.via (S' := (s₁.setTop (mkF m 104 #[.val (.long q0), .second, .val (.int p1), .val (.long (q0 >>> ((p1 &&& (63 : Int32)) &&& 0x3f).toInt64)), .second, .val (.int v3), .val (.int v6), .val (.int v9), .unset, .unset] [(.int v9)]))) (fun t k => XS.iload X0.here hx rfl (hb hby at_102) rfl k) ?_
      by_cases hc19 : ((¬ ((q0 >>> ((p1 &&& (63 : Int32)) &&& 0x3f).toInt64) < (-2147483648 : Int64))) ∧ (¬ ((2147483647 : Int64) < (q0 >>> ((p1 &&& (63 : Int32)) &&& 0x3f).toInt64))))
      · refine Goes.via (S' := (s₁.setTop (mkF m 107 #[.val (.long q0), .second, .val (.int p1), .val (.long (q0 >>> ((p1 &&& (63 : Int32)) &&& 0x3f).toInt64)), .second, .val (.int v3), .val (.int v6), .val (.int v9), .unset, .unset] []))) (fun t k => XS.ifNo X0.here hx rfl (hb hby at_104) rfl ((if0 _ _).trans (feq (own_b1 hv9 hc19)).1) k) ?_
        obtain ⟨T20, X20, e20, st20⟩ := getS2 X0 hx hZ hown (host := "") (Or.inl (hw _ (List.mem_of_getElem? (i := 19) rfl))) Via.refl e0 f2_INT (g := (mkF m 107 #[.val (.long q0), .second, .val (.int p1), .val (.long (q0 >>> ((p1 &&& (63 : Int32)) &&& 0x3f).toInt64)), .second, .val (.int v3), .val (.int v6), .val (.int v9), .unset, .unset] [])) rfl (hb hby at_107)
        refine Goes.via (S' := (T20.setTop (mkF m 110 #[.val (.long q0), .second, .val (.int p1), .val (.long (q0 >>> ((p1 &&& (63 : Int32)) &&& 0x3f).toInt64)), .second, .val (.int v3), .val (.int v6), .val (.int v9), .unset, .unset] [(.ref x2)]))) (fun t k => st20 _ k) ?_
        refine Goes.via (S' := (T20.setTop (mkF m 112 #[.val (.long q0), .second, .val (.int p1), .val (.long (q0 >>> ((p1 &&& (63 : Int32)) &&& 0x3f).toInt64)), .second, .val (.int v3), .val (.int v6), .val (.int v9), .val (.ref x2), .unset] []))) (fun t k => XS.astore X20.here hx rfl (hb hby at_110) rfl rfl (l' := #[.val (.long q0), .second, .val (.int p1), .val (.long (q0 >>> ((p1 &&& (63 : Int32)) &&& 0x3f).toInt64)), .second, .val (.int v3), .val (.int v6), .val (.int v9), .val (.ref x2), .unset]) rfl k) ?_
        refine Goes.via (S' := (T20.setTop (mkF m 120 #[.val (.long q0), .second, .val (.int p1), .val (.long (q0 >>> ((p1 &&& (63 : Int32)) &&& 0x3f).toInt64)), .second, .val (.int v3), .val (.int v6), .val (.int v9), .val (.ref x2), .unset] []))) (fun t k => XS.goto X20.here hx rfl (pc0 := 112) (pc' := 120) rfl (hb hby at_112) (by decide) (by decide) k) ?_
        refine Goes.via (S' := (T20.setTop (mkF m 121 #[.val (.long q0), .second, .val (.int p1), .val (.long (q0 >>> ((p1 &&& (63 : Int32)) &&& 0x3f).toInt64)), .second, .val (.int v3), .val (.int v6), .val (.int v9), .val (.ref x2), .unset] [(.long (q0 >>> ((p1 &&& (63 : Int32)) &&& 0x3f).toInt64))]))) (fun t k => XS.lloadN X20.here hx rfl (hb hby at_120) rfl k) ?_
        obtain ⟨_, _, ⟨T21, L21, k21, n21⟩, -, X21, ⟨Lc21, hQ21, l21, y21, z21⟩, st21⟩ := Jvm.LawKit.callS X20 hx (y := (⟨"com/example/finder_compiler/findercompiler/CmpType", "narrowest", "(J)Lcom/example/finder_compiler/findercompiler/CmpType;"⟩ : MethodName)) hown (mvT hZ (hw _ (List.mem_of_getElem? (i := 9) rfl))) (mvT hZ (hw _ (List.mem_of_getElem? (i := 10) rfl))) (mvT hZ (hw _ (List.mem_of_getElem? (i := 7) rfl))) (mvT hZ (hw _ (List.mem_of_getElem? (i := 11) rfl))) (by decide) (backOf (W := 0) (rm1 l Z a0 hw [] (q0 >>> ((p1 &&& (63 : Int32)) &&& 0x3f).toInt64) x0 x1 x2 x3 h0 n0 Z0 f0_BYTE f1_SHORT f2_INT f3_LONG) hZ (hw _ (List.mem_of_getElem? (i := 11) rfl)) (hw _ (List.mem_of_getElem? (i := 7) rfl)) (by decide) (by decide)) (g := (mkF m 121 #[.val (.long q0), .second, .val (.int p1), .val (.long (q0 >>> ((p1 &&& (63 : Int32)) &&& 0x3f).toInt64)), .second, .val (.int v3), .val (.int v6), .val (.int v9), .val (.ref x2), .unset] [(.long (q0 >>> ((p1 &&& (63 : Int32)) &&& 0x3f).toInt64))])) rfl (by rw [hml]; rfl) (argsL := [(.long (q0 >>> ((p1 &&& (63 : Int32)) &&& 0x3f).toInt64))]) (rest := []) (lenOf pd_0 rfl) rfl (by show 2 * 0 + _ ≤ _; exact Nat.le_of_eq rfl) (hb hby at_121) (fun _ _ => ⟨rfl, e20, (by decide : 0 + 0 ≤ _), (by decide : 0 + 0 ≤ _)⟩)
        dsimp only [Pt.U, Pt.locs, Pt.cells, Pt.slots] at X21 l21 y21 z21 st21 hQ21
        subst l21 y21 z21
        obtain ⟨r21, rfl, hr21, N21q, eq21⟩ := hQ21
        have N21 := Fr.app N0 N21q
        refine Goes.via (S' := (T21.setTop (mkF m 124 #[.val (.long q0), .second, .val (.int p1), .val (.long (q0 >>> ((p1 &&& (63 : Int32)) &&& 0x3f).toInt64)), .second, .val (.int v3), .val (.int v6), .val (.int v9), .val (.ref x2), .unset] [(.ref r21)]))) (fun t k => st21 _ k) ?_
        refine Goes.via (S' := (T21.setTop (mkF m 126 #[.val (.long q0), .second, .val (.int p1), .val (.long (q0 >>> ((p1 &&& (63 : Int32)) &&& 0x3f).toInt64)), .second, .val (.int v3), .val (.int v6), .val (.int v9), .val (.ref x2), .val (.ref r21)] []))) (fun t k => XS.astore X21.here hx rfl (hb hby at_124) rfl rfl (l' := #[.val (.long q0), .second, .val (.int p1), .val (.long (q0 >>> ((p1 &&& (63 : Int32)) &&& 0x3f).toInt64)), .second, .val (.int v3), .val (.int v6), .val (.int v9), .val (.ref x2), .val (.ref r21)]) rfl k) ?_
        refine Goes.via (S' := (T21.setTop (mkF m 128 #[.val (.long q0), .second, .val (.int p1), .val (.long (q0 >>> ((p1 &&& (63 : Int32)) &&& 0x3f).toInt64)), .second, .val (.int v3), .val (.int v6), .val (.int v9), .val (.ref x2), .val (.ref r21)] [(.ref r21)]))) (fun t k => XS.aload X21.here hx rfl (hb hby at_126) rfl rfl k) ?_
        refine Goes.via (S' := (T21.setTop (mkF m 130 #[.val (.long q0), .second, .val (.int p1), .val (.long (q0 >>> ((p1 &&& (63 : Int32)) &&& 0x3f).toInt64)), .second, .val (.int v3), .val (.int v6), .val (.int v9), .val (.ref x2), .val (.ref r21)] [(.ref x2), (.ref r21)]))) (fun t k => XS.aload X21.here hx rfl (hb hby at_128) rfl rfl k) ?_
        refine Goes.via (S' := (T21.setTop (mkF m 133 #[.val (.long q0), .second, .val (.int p1), .val (.long (q0 >>> ((p1 &&& (63 : Int32)) &&& 0x3f).toInt64)), .second, .val (.int v3), .val (.int v6), .val (.int v9), .val (.ref x2), .val (.ref r21)] []))) (fun t k => Jvm.RoadKit.acmp (g := (mkF m 130 #[.val (.long q0), .second, .val (.int p1), .val (.long (q0 >>> ((p1 &&& (63 : Int32)) &&& 0x3f).toInt64)), .second, .val (.int v3), .val (.int v6), .val (.int v9), .val (.ref x2), .val (.ref r21)] [(.ref x2), (.ref r21)])) X21 hx rfl rfl rfl (pc0 := 130) (pc' := 133) (same := true) rfl (hb hby at_130) rfl (decide_eq_true (congrArg Value.ref (by rw [hr21, if_neg (by rw [own_byte]; exact hc11), if_neg (by rw [own_short]; exact hc15), if_pos (by rw [own_int]; exact hc19)]))) (by decide) (by decide) k) ?_
        refine Goes.via (S' := (T21.setTop (mkF m 134 #[.val (.long q0), .second, .val (.int p1), .val (.long (q0 >>> ((p1 &&& (63 : Int32)) &&& 0x3f).toInt64)), .second, .val (.int v3), .val (.int v6), .val (.int v9), .val (.ref x2), .val (.ref r21)] [(.int (1 : Int32))]))) (fun t k => XS.iconst X21.here hx rfl (hb hby at_133) k) ?_
        refine Goes.via (S' := (T21.setTop (mkF m 138 #[.val (.long q0), .second, .val (.int p1), .val (.long (q0 >>> ((p1 &&& (63 : Int32)) &&& 0x3f).toInt64)), .second, .val (.int v3), .val (.int v6), .val (.int v9), .val (.ref x2), .val (.ref r21)] [(.int (1 : Int32))]))) (fun t k => XS.goto X21.here hx rfl (pc0 := 134) (pc' := 138) rfl (hb hby at_134) (by decide) (by decide) k) ?_
        exact own_ret X21 hx Bd.notSynchronized Bd.returns rfl (Or.inl ⟨rfl, by simp, _, rfl⟩) (hb hby at_138) eq21 ⟨rfl, N21⟩ (by decide) (by decide)
      · refine Goes.via (S' := (s₁.setTop (mkF m 115 #[.val (.long q0), .second, .val (.int p1), .val (.long (q0 >>> ((p1 &&& (63 : Int32)) &&& 0x3f).toInt64)), .second, .val (.int v3), .val (.int v6), .val (.int v9), .unset, .unset] []))) (fun t k => XS.ifYes X0.here hx rfl (pc0 := 104) (pc' := 115) rfl (hb hby at_104) rfl ((if0 _ _).trans (teq (own_b0 hv9 hc19)).1) (by decide) (by decide) k) ?_
        obtain ⟨T22, X22, e22, st22⟩ := getS2 X0 hx hZ hown (host := "") (Or.inl (hw _ (List.mem_of_getElem? (i := 15) rfl))) Via.refl e0 f3_LONG (g := (mkF m 115 #[.val (.long q0), .second, .val (.int p1), .val (.long (q0 >>> ((p1 &&& (63 : Int32)) &&& 0x3f).toInt64)), .second, .val (.int v3), .val (.int v6), .val (.int v9), .unset, .unset] [])) rfl (hb hby at_115)
        refine Goes.via (S' := (T22.setTop (mkF m 118 #[.val (.long q0), .second, .val (.int p1), .val (.long (q0 >>> ((p1 &&& (63 : Int32)) &&& 0x3f).toInt64)), .second, .val (.int v3), .val (.int v6), .val (.int v9), .unset, .unset] [(.ref x3)]))) (fun t k => st22 _ k) ?_
        refine Goes.via (S' := (T22.setTop (mkF m 120 #[.val (.long q0), .second, .val (.int p1), .val (.long (q0 >>> ((p1 &&& (63 : Int32)) &&& 0x3f).toInt64)), .second, .val (.int v3), .val (.int v6), .val (.int v9), .val (.ref x3), .unset] []))) (fun t k => XS.astore X22.here hx rfl (hb hby at_118) rfl rfl (l' := #[.val (.long q0), .second, .val (.int p1), .val (.long (q0 >>> ((p1 &&& (63 : Int32)) &&& 0x3f).toInt64)), .second, .val (.int v3), .val (.int v6), .val (.int v9), .val (.ref x3), .unset]) rfl k) ?_
        refine Goes.via (S' := (T22.setTop (mkF m 121 #[.val (.long q0), .second, .val (.int p1), .val (.long (q0 >>> ((p1 &&& (63 : Int32)) &&& 0x3f).toInt64)), .second, .val (.int v3), .val (.int v6), .val (.int v9), .val (.ref x3), .unset] [(.long (q0 >>> ((p1 &&& (63 : Int32)) &&& 0x3f).toInt64))]))) (fun t k => XS.lloadN X22.here hx rfl (hb hby at_120) rfl k) ?_
        obtain ⟨_, _, ⟨T23, L23, k23, n23⟩, -, X23, ⟨Lc23, hQ23, l23, y23, z23⟩, st23⟩ := Jvm.LawKit.callS X22 hx (y := (⟨"com/example/finder_compiler/findercompiler/CmpType", "narrowest", "(J)Lcom/example/finder_compiler/findercompiler/CmpType;"⟩ : MethodName)) hown (mvT hZ (hw _ (List.mem_of_getElem? (i := 9) rfl))) (mvT hZ (hw _ (List.mem_of_getElem? (i := 10) rfl))) (mvT hZ (hw _ (List.mem_of_getElem? (i := 7) rfl))) (mvT hZ (hw _ (List.mem_of_getElem? (i := 11) rfl))) (by decide) (backOf (W := 0) (rm1 l Z a0 hw [] (q0 >>> ((p1 &&& (63 : Int32)) &&& 0x3f).toInt64) x0 x1 x2 x3 h0 n0 Z0 f0_BYTE f1_SHORT f2_INT f3_LONG) hZ (hw _ (List.mem_of_getElem? (i := 11) rfl)) (hw _ (List.mem_of_getElem? (i := 7) rfl)) (by decide) (by decide)) (g := (mkF m 121 #[.val (.long q0), .second, .val (.int p1), .val (.long (q0 >>> ((p1 &&& (63 : Int32)) &&& 0x3f).toInt64)), .second, .val (.int v3), .val (.int v6), .val (.int v9), .val (.ref x3), .unset] [(.long (q0 >>> ((p1 &&& (63 : Int32)) &&& 0x3f).toInt64))])) rfl (by rw [hml]; rfl) (argsL := [(.long (q0 >>> ((p1 &&& (63 : Int32)) &&& 0x3f).toInt64))]) (rest := []) (lenOf pd_0 rfl) rfl (by show 2 * 0 + _ ≤ _; exact Nat.le_of_eq rfl) (hb hby at_121) (fun _ _ => ⟨rfl, e22, (by decide : 0 + 0 ≤ _), (by decide : 0 + 0 ≤ _)⟩)
        dsimp only [Pt.U, Pt.locs, Pt.cells, Pt.slots] at X23 l23 y23 z23 st23 hQ23
        subst l23 y23 z23
        obtain ⟨r23, rfl, hr23, N23q, eq23⟩ := hQ23
        have N23 := Fr.app N0 N23q
        refine Goes.via (S' := (T23.setTop (mkF m 124 #[.val (.long q0), .second, .val (.int p1), .val (.long (q0 >>> ((p1 &&& (63 : Int32)) &&& 0x3f).toInt64)), .second, .val (.int v3), .val (.int v6), .val (.int v9), .val (.ref x3), .unset] [(.ref r23)]))) (fun t k => st23 _ k) ?_
        refine Goes.via (S' := (T23.setTop (mkF m 126 #[.val (.long q0), .second, .val (.int p1), .val (.long (q0 >>> ((p1 &&& (63 : Int32)) &&& 0x3f).toInt64)), .second, .val (.int v3), .val (.int v6), .val (.int v9), .val (.ref x3), .val (.ref r23)] []))) (fun t k => XS.astore X23.here hx rfl (hb hby at_124) rfl rfl (l' := #[.val (.long q0), .second, .val (.int p1), .val (.long (q0 >>> ((p1 &&& (63 : Int32)) &&& 0x3f).toInt64)), .second, .val (.int v3), .val (.int v6), .val (.int v9), .val (.ref x3), .val (.ref r23)]) rfl k) ?_
        refine Goes.via (S' := (T23.setTop (mkF m 128 #[.val (.long q0), .second, .val (.int p1), .val (.long (q0 >>> ((p1 &&& (63 : Int32)) &&& 0x3f).toInt64)), .second, .val (.int v3), .val (.int v6), .val (.int v9), .val (.ref x3), .val (.ref r23)] [(.ref r23)]))) (fun t k => XS.aload X23.here hx rfl (hb hby at_126) rfl rfl k) ?_
        refine Goes.via (S' := (T23.setTop (mkF m 130 #[.val (.long q0), .second, .val (.int p1), .val (.long (q0 >>> ((p1 &&& (63 : Int32)) &&& 0x3f).toInt64)), .second, .val (.int v3), .val (.int v6), .val (.int v9), .val (.ref x3), .val (.ref r23)] [(.ref x3), (.ref r23)]))) (fun t k => XS.aload X23.here hx rfl (hb hby at_128) rfl rfl k) ?_
        refine Goes.via (S' := (T23.setTop (mkF m 133 #[.val (.long q0), .second, .val (.int p1), .val (.long (q0 >>> ((p1 &&& (63 : Int32)) &&& 0x3f).toInt64)), .second, .val (.int v3), .val (.int v6), .val (.int v9), .val (.ref x3), .val (.ref r23)] []))) (fun t k => Jvm.RoadKit.acmp (g := (mkF m 130 #[.val (.long q0), .second, .val (.int p1), .val (.long (q0 >>> ((p1 &&& (63 : Int32)) &&& 0x3f).toInt64)), .second, .val (.int v3), .val (.int v6), .val (.int v9), .val (.ref x3), .val (.ref r23)] [(.ref x3), (.ref r23)])) X23 hx rfl rfl rfl (pc0 := 130) (pc' := 133) (same := true) rfl (hb hby at_130) rfl (decide_eq_true (congrArg Value.ref (by rw [hr23, if_neg (by rw [own_byte]; exact hc11), if_neg (by rw [own_short]; exact hc15), if_neg (by rw [own_int]; exact hc19)]))) (by decide) (by decide) k) ?_
        refine Goes.via (S' := (T23.setTop (mkF m 134 #[.val (.long q0), .second, .val (.int p1), .val (.long (q0 >>> ((p1 &&& (63 : Int32)) &&& 0x3f).toInt64)), .second, .val (.int v3), .val (.int v6), .val (.int v9), .val (.ref x3), .val (.ref r23)] [(.int (1 : Int32))]))) (fun t k => XS.iconst X23.here hx rfl (hb hby at_133) k) ?_
        refine Goes.via (S' := (T23.setTop (mkF m 138 #[.val (.long q0), .second, .val (.int p1), .val (.long (q0 >>> ((p1 &&& (63 : Int32)) &&& 0x3f).toInt64)), .second, .val (.int v3), .val (.int v6), .val (.int v9), .val (.ref x3), .val (.ref r23)] [(.int (1 : Int32))]))) (fun t k => XS.goto X23.here hx rfl (pc0 := 134) (pc' := 138) rfl (hb hby at_134) (by decide) (by decide) k) ?_
        exact own_ret X23 hx Bd.notSynchronized Bd.returns rfl (Or.inl ⟨rfl, by simp, _, rfl⟩) (hb hby at_138) eq23 ⟨rfl, N23⟩ (by decide) (by decide)
set_option maxRecDepth 65536 in
set_option maxHeartbeats 40000000 in
theorem comes_1 {Post : Tables → Env → Array Value → State → Outcome → State → Prop} (hpost : ∀ tb e args s v u, (limb_1_1.after args s (.returned v) u = true ∧ limb_1_2.after args s (.returned v) u = true ∧ True) → FrameEnd s (.returned v) u (Jvm.fieldLocs frame_1_writes args s ++ Jvm.arrayLocs frame_1_arrays args s ++ Jvm.staticLocs frame_1_statics s) 0 0 → Post tb e args s (.returned v) u) :
    ArmFor flags0 classFile x code maxLocals ret World_1 tables_1 room_1 Calls_1 rest_1 Pre_1 Post := by
  intro l hfl _ _ p e ha hc hk s m args below hf hA hF happ hP
  obtain ⟨hcalls, hrest, hpre⟩ := hP
  obtain ⟨-, -, -, hnamed, -, -, -, hat⟩ := (Spec.applies_iff hf).mp happ
  obtain ⟨hg, hn⟩ := and_e (Cond.before_iff.mp (show (Jvm.Cond.and given_1 narrow_1).before args s = true from hpre))
  obtain ⟨g1, g2⟩ := and_e hg
  obtain ⟨g3, g4⟩ := and_e g2
  obtain ⟨w0, w1, rfl⟩ : ∃ w0 w1 : Value, args = #[w0, w1] := by
    have hs : args.size = 2 := by simpa [Cond.value, given_1] using g1
    obtain ⟨L⟩ := args
    match L, hs with
    | [w0, w1], _ => exact ⟨w0, w1, rfl⟩
  have hw := fun d (hd : d ∈ tables_1) => atoms_spec (ws := Jvm.Cond.code x code maxLocals ret :: tables_1) hat d (List.mem_cons_of_mem _ hd)
  have hfit : Fit s := fun {y c} hc i hi => by
    obtain ⟨ha, rfl⟩ := Array.getElem?_eq_some_iff.mp hc
    have q := List.all_eq_true.mp ((Array.all_eq_true_iff_forall_mem.mp hF) _ (Array.getElem_mem ha)) i (List.mem_range.mpr hi)
    simpa [Array.getElem?_eq_getElem hi] using q
  obtain ⟨i0, ei0⟩ := isL_v g3
  obtain rfl : w0 = (.long i0) := Option.some.inj ei0
  obtain ⟨i1, ei1⟩ := is_v g4
  obtain rfl : w1 = (.int i1) := Option.some.inj ei1
  obtain ⟨g5, g6⟩ := and_e hn
  obtain ⟨g7, g8⟩ := and_e g6
  obtain ⟨g9, g10⟩ := and_e g8
  obtain ⟨x0, S0, E0, v0⟩ := own_exS g5 (hw _ (List.mem_of_getElem? (i := 7) rfl)) (hw _ (List.mem_of_getElem? (i := 8) rfl))
  obtain ⟨x1, S1, E1, v1⟩ := own_exS g9 (hw _ (List.mem_of_getElem? (i := 7) rfl)) (hw _ (List.mem_of_getElem? (i := 17) rfl))
  obtain ⟨x2, S2, E2, v2⟩ := own_exS g10 (hw _ (List.mem_of_getElem? (i := 7) rfl)) (hw _ (List.mem_of_getElem? (i := 20) rfl))
  obtain ⟨x3, S3, E3, v3⟩ := own_exS g7 (hw _ (List.mem_of_getElem? (i := 7) rfl)) (hw _ (List.mem_of_getElem? (i := 13) rfl))
  obtain ⟨n, o, h1, h2, h3, _, L, rfl, ⟨rfl, N⟩, hq⟩ := rm0 l s _ hw tables_1 i0 i1 x0 x1 x2 x3 s.heap s.heap.size (Nat.le_refl _) S0 S1 S2 S3 p e ha hc hk s m _ below hf ((Spec.applies_iff_loose hf).mp happ).1 ⟨rfl, State.Warmed39.refl s, rfl⟩ trivial
  refine ⟨n, _, h1, h2, h3, hpost _ _ _ _ _ _ ⟨Cond.after_iff.mpr rfl, Cond.after_iff.mpr (eq_i res_at (Term.int_eval (1)) rfl), trivial⟩ ⟨hq.1, hq.2.1, (hq.2.2.sift fun y hy => Or.inr (N y hy)).mono (by decide) (by decide)⟩⟩
theorem main_1_1 : Claimed_1_1 := comes_1 fun _ _ _ _ _ _ h hF => ⟨h.1, hF⟩
theorem main_1_2 : Claimed_1_2 := comes_1 fun _ _ _ _ _ _ h hF => ⟨h.2.1, hF⟩
end Jvm.Pilot.@@N@@
namespace Jvm.Pilot.@@N@@
open Jvm Jvm.ClassFile Sem Op Lib Jvm.Free Jvm.Stand Jvm.Pilot.@@N@@.Jvm.D
/-! MADE BY PROGRAM (witnessworld.py) out of the Statement's table words and the real class files: 12 classes; the members and pool entries that the words name. The judged class is class 1, her method 1. -/
namespace start1
open Jvm.ClassFile
def u (s : String) : CpInfo := .utf8 (stringToUtf16 s)
/-- a pool by its gaps: so many unusable entries, then the entry; so many at the end -/
def gap : Nat → List CpInfo → List CpInfo
  | 0, r => r
  | n + 1, r => .unusable :: gap n r
def poolList (es : List (Nat × CpInfo)) (last : Nat) : List CpInfo := es.foldr (fun e r => gap e.1 (e.2 :: r)) (gap last [])
def pool (es : List (Nat × CpInfo)) (last : Nat) : Array CpInfo := ⟨poolList es last⟩
def fileOf (pool : Array CpInfo) (this : Nat) (attrs : Array Attribute := #[]) (ms : Array MethodInfo := #[]) (fl : Nat := 33) (sup : Nat := 0) (ifs : Array Nat := #[]) (fds : Array FieldInfo := #[]) : ClassFile where
  minorVersion := 0
  majorVersion := 65
  constantPool := pool
  accessFlags := fl
  thisClass := this
  superClass := sup
  interfaces := ifs
  fields := fds
  methods := ms
  attributes := attrs
def plain (name : String) (sup : Option ClassId) : Class where
  name := name
  kind := .ordinary
  loader := none
  accessFlags := 33
  super := sup
  interfaces := #[]
  cf := none
  fields := #[]
  methods := #[]
  instanceTypes := #[]
  staticTypes := #[]
  resolved := #[]
  callSites := []
  init := .initialized
  statics := none
  mirror := none

def pool0 : Array CpInfo := pool [(5, u "<init>"), (0, u "()V"), (1, .class_ 10), (1, u "java/lang/Object")] 113

def k0m0 : Method := { name := "<init>", desc := "()V", sig := { parameters := [], returnType := none }, accessFlags := 1, code := none }
/-- java/lang/Object -/
def k0 : Class := { plain "java/lang/Object" none with
  accessFlags := 33
  interfaces := #[]
  cf := some (fileOf pool0 8 #[] #[{ accessFlags := 1, nameIndex := 5, descriptorIndex := 6, attributes := #[] }] 33 0 #[] #[])
  fields := #[]
  methods := #[k0m0]
  instanceTypes := #[]
  staticTypes := #[]
  resolved := Array.replicate 124 none
  statics := none }

def pool1 : Array CpInfo := pool [(2, .class_ 4), (1, u "java/lang/Object"), (0, u "<init>"), (0, u "()V"), (0, .long 18446744073709551488), (1, .long 127), (1, .long 18446744073709518848), (1, .long 32767), (1, .long 18446744071562067968), (1, .long 2147483647), (1, .fieldref 20 21), (0, .class_ 22), (0, .nameAndType 23 24), (0, u "com/example/finder_compiler/findercompiler/CmpType"), (0, u "BYTE"), (0, u "Lcom/example/finder_compiler/findercompiler/CmpType;"), (0, .fieldref 20 26), (0, .nameAndType 27 24), (0, u "SHORT"), (0, .fieldref 20 29), (0, .nameAndType 30 24), (0, u "INT"), (0, .fieldref 20 32), (0, .nameAndType 33 24), (0, u "LONG"), (0, .methodref 20 35), (0, .nameAndType 36 37), (0, u "narrowest"), (0, u "(J)Lcom/example/finder_compiler/findercompiler/CmpType;"), (0, .class_ 39), (0, u "com/example/finder_compiler/findercompiler/CmpTypeNarrowestPinLaw"), (2, u "law"), (0, u "(JI)Z")] 3

def k1m0 : Method := { name := "<init>", desc := "()V", sig := { parameters := [], returnType := none }, accessFlags := 2, code := none }
def k1c1 : Code := { maxStack := 4, maxLocals := 10, code := code, exceptionTable := #[], attributes := #[] }
def k1m1 : Method := { name := "law", desc := "(JI)Z", sig := { parameters := [.long, .int], returnType := some .boolean }, accessFlags := 9, code := some k1c1 }
/-- com/example/finder_compiler/findercompiler/CmpTypeNarrowestPinLaw -/
def k1 : Class := { plain "com/example/finder_compiler/findercompiler/CmpTypeNarrowestPinLaw" (some 0) with
  accessFlags := 49
  interfaces := #[]
  cf := some (fileOf pool1 38 #[] #[{ accessFlags := 2, nameIndex := 5, descriptorIndex := 6, attributes := #[] }, { accessFlags := 9, nameIndex := 42, descriptorIndex := 43, attributes := #[] }] 49 2 #[] #[])
  fields := #[]
  methods := #[k1m0, k1m1]
  instanceTypes := #[]
  staticTypes := #[]
  resolved := Array.replicate 47 none
  statics := none }

def pool2 : Array CpInfo := pool [(1, .class_ 2), (0, u "java/lang/constant/Constable"), (0, .class_ 4), (0, u "java/lang/Object")] 6

/-- java/lang/constant/Constable -/
def k2 : Class := { plain "java/lang/constant/Constable" (some 0) with
  accessFlags := 1537
  interfaces := #[]
  cf := some (fileOf pool2 1 #[] #[] 1537 3 #[] #[])
  fields := #[]
  methods := #[]
  instanceTypes := #[]
  staticTypes := #[]
  resolved := Array.replicate 11 none
  statics := none }

def pool3 : Array CpInfo := pool [(1, .class_ 2), (0, u "java/lang/Comparable"), (0, .class_ 4), (0, u "java/lang/Object")] 7

/-- java/lang/Comparable -/
def k3 : Class := { plain "java/lang/Comparable" (some 0) with
  accessFlags := 1537
  interfaces := #[]
  cf := some (fileOf pool3 1 #[] #[] 1537 3 #[] #[])
  fields := #[]
  methods := #[]
  instanceTypes := #[]
  staticTypes := #[]
  resolved := Array.replicate 12 none
  statics := none }

def pool4 : Array CpInfo := pool [(1, .class_ 2), (0, u "java/io/Serializable"), (0, .class_ 4), (0, u "java/lang/Object")] 2

/-- java/io/Serializable -/
def k4 : Class := { plain "java/io/Serializable" (some 0) with
  accessFlags := 1537
  interfaces := #[]
  cf := some (fileOf pool4 1 #[] #[] 1537 3 #[] #[])
  fields := #[]
  methods := #[]
  instanceTypes := #[]
  staticTypes := #[]
  resolved := Array.replicate 7 none
  statics := none }

def pool5 : Array CpInfo := pool [(2, .class_ 4), (1, u "java/lang/Enum"), (0, u "name"), (0, u "Ljava/lang/String;"), (2, u "ordinal"), (0, u "I"), (1, .class_ 14), (1, u "java/lang/Object"), (4, u "hash"), (86, .class_ 108), (1, u "java/lang/Enum$EnumDesc"), (2, .class_ 112), (0, u "java/lang/constant/Constable"), (0, .class_ 114), (0, u "java/lang/Comparable"), (0, .class_ 116), (0, u "java/io/Serializable")] 87

/-- java/lang/Enum -/
def k5 : Class := { plain "java/lang/Enum" (some 0) with
  accessFlags := 1057
  interfaces := #[2, 3, 4]
  cf := some (fileOf pool5 2 #[.nestMembers #[106]] #[] 1057 12 #[111, 113, 115] #[{ accessFlags := 18, nameIndex := 5, descriptorIndex := 6, attributes := #[] }, { accessFlags := 18, nameIndex := 9, descriptorIndex := 10, attributes := #[] }, { accessFlags := 2, nameIndex := 19, descriptorIndex := 10, attributes := #[] }])
  fields := #[{ name := "name", type := (.object "java/lang/String"), accessFlags := 18, slot := 0, constantValue := 0 }, { name := "ordinal", type := .int, accessFlags := 18, slot := 1, constantValue := 0 }, { name := "hash", type := .int, accessFlags := 2, slot := 2, constantValue := 0 }]
  methods := #[]
  instanceTypes := #[(.object "java/lang/String"), .int, .int]
  staticTypes := #[]
  resolved := Array.replicate 204 none
  statics := none }

def pool6 : Array CpInfo := pool [(1, .class_ 2), (0, u "com/example/finder_compiler/findercompiler/CmpType"), (2, u "BOOLEAN"), (0, u "Lcom/example/finder_compiler/findercompiler/CmpType;"), (0, .fieldref 1 8), (0, .nameAndType 9 6), (0, u "BYTE"), (0, .fieldref 1 11), (0, .nameAndType 12 6), (0, u "SHORT"), (0, .fieldref 1 14), (0, .nameAndType 15 6), (0, u "INT"), (0, .fieldref 1 17), (0, .nameAndType 18 6), (0, u "LONG"), (2, u "FLOAT"), (2, u "DOUBLE"), (2, u "CHAR"), (2, u "STRING"), (2, u "BIG_DECIMAL"), (2, u "BIG_INTEGER"), (2, u "UTIL_DATE"), (2, u "SQL_DATE"), (2, u "TIME"), (2, u "TIMESTAMP"), (2, u "$VALUES"), (0, u "[Lcom/example/finder_compiler/findercompiler/CmpType;"), (6, .class_ 61), (1, u "java/lang/Enum"), (8, u "kind"), (0, u "Lcom/example/finder_compiler/findercompiler/CmpType$Kind;"), (8, u "javaNames"), (0, u "Ljava/util/List;"), (2, u "BY_NAME"), (0, u "Ljava/util/Map;"), (42, u "PROMOTED"), (46, u "NONZERO"), (0, u "Ljava/util/regex/Pattern;"), (18, .class_ 197), (1, u "com/example/finder_compiler/findercompiler/CmpType$Kind"), (127, u "narrowest"), (0, u "(J)Lcom/example/finder_compiler/findercompiler/CmpType;")] 31

def k6c0 : Code := { maxStack := 4, maxLocals := 3, code := prog_55_method_7_code, exceptionTable := #[], attributes := #[] }
def k6m0 : Method := { name := "narrowest", desc := "(J)Lcom/example/finder_compiler/findercompiler/CmpType;", sig := { parameters := [.long], returnType := some (.object "com/example/finder_compiler/findercompiler/CmpType") }, accessFlags := 8, code := some k6c0 }
/-- com/example/finder_compiler/findercompiler/CmpType -/
def k6 : Class := { plain "com/example/finder_compiler/findercompiler/CmpType" (some 5) with
  accessFlags := 16433
  interfaces := #[]
  cf := some (fileOf pool6 1 #[.nestMembers #[195]] #[{ accessFlags := 8, nameIndex := 325, descriptorIndex := 326, attributes := #[] }] 16433 59 #[] #[{ accessFlags := 16409, nameIndex := 5, descriptorIndex := 6, attributes := #[] }, { accessFlags := 16409, nameIndex := 9, descriptorIndex := 6, attributes := #[] }, { accessFlags := 16409, nameIndex := 12, descriptorIndex := 6, attributes := #[] }, { accessFlags := 16409, nameIndex := 15, descriptorIndex := 6, attributes := #[] }, { accessFlags := 16409, nameIndex := 18, descriptorIndex := 6, attributes := #[] }, { accessFlags := 16409, nameIndex := 21, descriptorIndex := 6, attributes := #[] }, { accessFlags := 16409, nameIndex := 24, descriptorIndex := 6, attributes := #[] }, { accessFlags := 16409, nameIndex := 27, descriptorIndex := 6, attributes := #[] }, { accessFlags := 16409, nameIndex := 30, descriptorIndex := 6, attributes := #[] }, { accessFlags := 16409, nameIndex := 33, descriptorIndex := 6, attributes := #[] }, { accessFlags := 16409, nameIndex := 36, descriptorIndex := 6, attributes := #[] }, { accessFlags := 16409, nameIndex := 39, descriptorIndex := 6, attributes := #[] }, { accessFlags := 16409, nameIndex := 42, descriptorIndex := 6, attributes := #[] }, { accessFlags := 16409, nameIndex := 45, descriptorIndex := 6, attributes := #[] }, { accessFlags := 16409, nameIndex := 48, descriptorIndex := 6, attributes := #[] }, { accessFlags := 26, nameIndex := 84, descriptorIndex := 85, attributes := #[] }, { accessFlags := 26, nameIndex := 128, descriptorIndex := 81, attributes := #[] }, { accessFlags := 26, nameIndex := 175, descriptorIndex := 176, attributes := #[] }, { accessFlags := 18, nameIndex := 70, descriptorIndex := 71, attributes := #[] }, { accessFlags := 18, nameIndex := 80, descriptorIndex := 81, attributes := #[] }, { accessFlags := 4122, nameIndex := 51, descriptorIndex := 52, attributes := #[] }])
  fields := #[{ name := "BOOLEAN", type := (.object "com/example/finder_compiler/findercompiler/CmpType"), accessFlags := 16409, slot := 0, constantValue := 0 }, { name := "BYTE", type := (.object "com/example/finder_compiler/findercompiler/CmpType"), accessFlags := 16409, slot := 1, constantValue := 0 }, { name := "SHORT", type := (.object "com/example/finder_compiler/findercompiler/CmpType"), accessFlags := 16409, slot := 2, constantValue := 0 }, { name := "INT", type := (.object "com/example/finder_compiler/findercompiler/CmpType"), accessFlags := 16409, slot := 3, constantValue := 0 }, { name := "LONG", type := (.object "com/example/finder_compiler/findercompiler/CmpType"), accessFlags := 16409, slot := 4, constantValue := 0 }, { name := "FLOAT", type := (.object "com/example/finder_compiler/findercompiler/CmpType"), accessFlags := 16409, slot := 5, constantValue := 0 }, { name := "DOUBLE", type := (.object "com/example/finder_compiler/findercompiler/CmpType"), accessFlags := 16409, slot := 6, constantValue := 0 }, { name := "CHAR", type := (.object "com/example/finder_compiler/findercompiler/CmpType"), accessFlags := 16409, slot := 7, constantValue := 0 }, { name := "STRING", type := (.object "com/example/finder_compiler/findercompiler/CmpType"), accessFlags := 16409, slot := 8, constantValue := 0 }, { name := "BIG_DECIMAL", type := (.object "com/example/finder_compiler/findercompiler/CmpType"), accessFlags := 16409, slot := 9, constantValue := 0 }, { name := "BIG_INTEGER", type := (.object "com/example/finder_compiler/findercompiler/CmpType"), accessFlags := 16409, slot := 10, constantValue := 0 }, { name := "UTIL_DATE", type := (.object "com/example/finder_compiler/findercompiler/CmpType"), accessFlags := 16409, slot := 11, constantValue := 0 }, { name := "SQL_DATE", type := (.object "com/example/finder_compiler/findercompiler/CmpType"), accessFlags := 16409, slot := 12, constantValue := 0 }, { name := "TIME", type := (.object "com/example/finder_compiler/findercompiler/CmpType"), accessFlags := 16409, slot := 13, constantValue := 0 }, { name := "TIMESTAMP", type := (.object "com/example/finder_compiler/findercompiler/CmpType"), accessFlags := 16409, slot := 14, constantValue := 0 }, { name := "BY_NAME", type := (.object "java/util/Map"), accessFlags := 26, slot := 15, constantValue := 0 }, { name := "PROMOTED", type := (.object "java/util/List"), accessFlags := 26, slot := 16, constantValue := 0 }, { name := "NONZERO", type := (.object "java/util/regex/Pattern"), accessFlags := 26, slot := 17, constantValue := 0 }, { name := "kind", type := (.object "com/example/finder_compiler/findercompiler/CmpType$Kind"), accessFlags := 18, slot := 3, constantValue := 0 }, { name := "javaNames", type := (.object "java/util/List"), accessFlags := 18, slot := 4, constantValue := 0 }, { name := "$VALUES", type := (.array (.object "com/example/finder_compiler/findercompiler/CmpType")), accessFlags := 4122, slot := 18, constantValue := 0 }]
  methods := #[k6m0]
  instanceTypes := #[(.object "java/lang/String"), .int, .int, (.object "com/example/finder_compiler/findercompiler/CmpType$Kind"), (.object "java/util/List")]
  staticTypes := #[(.object "com/example/finder_compiler/findercompiler/CmpType"), (.object "com/example/finder_compiler/findercompiler/CmpType"), (.object "com/example/finder_compiler/findercompiler/CmpType"), (.object "com/example/finder_compiler/findercompiler/CmpType"), (.object "com/example/finder_compiler/findercompiler/CmpType"), (.object "com/example/finder_compiler/findercompiler/CmpType"), (.object "com/example/finder_compiler/findercompiler/CmpType"), (.object "com/example/finder_compiler/findercompiler/CmpType"), (.object "com/example/finder_compiler/findercompiler/CmpType"), (.object "com/example/finder_compiler/findercompiler/CmpType"), (.object "com/example/finder_compiler/findercompiler/CmpType"), (.object "com/example/finder_compiler/findercompiler/CmpType"), (.object "com/example/finder_compiler/findercompiler/CmpType"), (.object "com/example/finder_compiler/findercompiler/CmpType"), (.object "com/example/finder_compiler/findercompiler/CmpType"), (.object "java/util/Map"), (.object "java/util/List"), (.object "java/util/regex/Pattern"), (.array (.object "com/example/finder_compiler/findercompiler/CmpType"))]
  resolved := Array.replicate 358 none
  statics := some 0 }

def pool7 : Array CpInfo := pool [(1, u "java/lang/Cloneable"), (0, .class_ 1), (0, u "java/lang/Object"), (0, .class_ 3)] 3

/-- java/lang/Cloneable -/
def k7 : Class := { plain "java/lang/Cloneable" (some 0) with
  accessFlags := 1537
  interfaces := #[]
  cf := some (fileOf pool7 2 #[] #[] 1537 4 #[] #[])
  fields := #[]
  methods := #[]
  instanceTypes := #[]
  staticTypes := #[]
  resolved := Array.replicate 8 none
  statics := none }

/-- the primitive byte -/
def k8 : Class := { plain "byte" none with kind := .primitive 'B', accessFlags := 0x411 }
/-- [B -/
def k9 : Class := { plain "[B" (some 0) with kind := .array 8 .byte, interfaces := #[7, 4], accessFlags := 1041 }

/-- the primitive int -/
def k10 : Class := { plain "int" none with kind := .primitive 'I', accessFlags := 0x411 }
/-- [I -/
def k11 : Class := { plain "[I" (some 0) with kind := .array 10 .int, interfaces := #[7, 4], accessFlags := 1041 }

def heap : Heap := #[{ cls := 6, slots := #[.null, .ref 1, .ref 2, .ref 3, .ref 4, .null, .null, .null, .null, .null, .null, .null, .null, .null, .null, .null, .null, .null, .null], vm := .statics 6 },
  { cls := 6, slots := #[.null, .int 0, .int 0, .null, .null], vm := .none },
  { cls := 6, slots := #[.null, .int 1, .int 0, .null, .null], vm := .none },
  { cls := 6, slots := #[.null, .int 2, .int 0, .null, .null], vm := .none },
  { cls := 6, slots := #[.null, .int 3, .int 0, .null, .null], vm := .none }]
def classes : Array Class := #[k0, k1, k2, k3, k4, k5, k6, k7, k8, k9, k10, k11]
def interned : List (Array UInt16 × Addr) := []
def slotsUsed : Nat := 39
def theMethod : MethodId := ⟨1, 1⟩
def args0 : Array Value := #[.long 5, .int 5]
def aboutOver (below : List Frame) : State where
  vm := { classes := classes, interned := interned.toArray }
  heap := heap
  slotsUsed := slotsUsed
  threads := #[{ frames := .invoking theMethod args0 :: below }]
def below0 : List Frame := [.native { method := ⟨0, 0⟩, args := #[] }]
def about1 : State := aboutOver below0
def p0 : Program := .bare "" "" ""
def e0 : Env := launch0.env 0 0 0
theorem w_frames : about1.frames = Frame.invoking theMethod args0 :: below0 := rfl
set_option maxRecDepth 65536 in
theorem w_args : argsFit about1.vm theMethod args0 = true := by decide +kernel
set_option maxRecDepth 65536 in
theorem w_heap : heapFits about1 = true := by decide +kernel
set_option maxRecDepth 65536 in
theorem w_runnable : about1.curStatus? = some .runnable := by decide +kernel
set_option maxRecDepth 65536 in
theorem w_alone : about1.alone = true := by decide +kernel
set_option maxRecDepth 65536 in
theorem w_named : about1.methodNamed? x = some theMethod := by decide +kernel
set_option maxRecDepth 65536 in
theorem w_hears : about1.hears theMethod below0 = true := by decide +kernel
set_option maxRecDepth 65536 in
theorem w_ripe : about1.ripe theMethod args0 below0 = true := by decide +kernel
theorem w_running : about1.status = .running := rfl
set_option maxRecDepth 65536 in
theorem w_room : about1.hasRoom e0.platform room_1 = true :=
  launch0.hasRoom_least _ room_1 (by decide +kernel) (by decide +kernel) (by decide +kernel) (by decide +kernel) (by decide +kernel) (by decide +kernel)
theorem allAtoms_all (ts : List Jvm.Cond) (a : Array Jvm.Value) (st : Jvm.State) : (allAtoms ts).before a st = ts.all (fun c => c.before a st) := by
  induction ts with
  | nil => rfl
  | cons c t ih =>
    show (Jvm.Cond.and c (allAtoms t)).before a st = _
    rw [Jvm.Cond.before_and, ih, List.all_cons]
def words1 : List Jvm.Cond := Jvm.Cond.code x code maxLocals ret :: tables_1
/-- a 'code' word, met by the world's own term for the bytes: nothing is compared byte by byte -/
theorem code_word {y : MethodName} {bytes : ByteArray} {mx : Nat} {rt : Option FieldType} {a : Array Value} {s : State} {m : MethodId} {meth : Method} {c : Code} (h1 : s.methodNamed? y = some m) (h2 : s.vm.method? m = some meth) (h3 : meth.code = some c) (h4 : c.code = bytes)
    (h5 : (c.maxLocals == mx && c.exceptionTable.isEmpty && decide (c.maxStack ≤ mostOperands) && decide (meth.sig.returnType = rt) && !meth.locks && decide (parseMethodDescriptor y.desc = some meth.sig)) = true) : (Jvm.Cond.code y bytes mx rt).before a s = true := by
  simp only [Bool.and_eq_true, beq_iff_eq, Bool.not_eq_true', decide_eq_true_eq] at h5
  obtain ⟨⟨⟨⟨⟨g1, g2⟩, g3⟩, g4⟩, g5⟩, g6⟩ := h5
  simp [Cond.before, Cond.holds, Cond.value, h1, h2, h3, h4, g1, g2, g3, g4, g5, g6]
def isCode : Jvm.Cond → Bool
  | .code _ _ _ _ => true
  | _ => false
theorem all_split {L : List Jvm.Cond} {P : Jvm.Cond → Bool} (h1 : L.all (fun c => isCode c || P c) = true) (h2 : ∀ c ∈ L.filter isCode, P c = true) : L.all P = true := by
  refine List.all_eq_true.mpr fun c hc => ?_
  have h := List.all_eq_true.mp h1 c hc
  rcases Bool.eq_false_or_eq_true (isCode c) with hi | hi
  · exact h2 c (List.mem_filter.mpr ⟨hc, hi⟩)
  · simpa [hi] using h
set_option maxRecDepth 65536 in
theorem w_c0 : (Jvm.Cond.code x code maxLocals ret).before args0 about1 = true := code_word (m := ⟨1, 1⟩) (meth := k1m1) (c := k1c1) (by decide +kernel) rfl rfl rfl (by decide +kernel)
set_option maxRecDepth 65536 in
theorem w_c1 : (Jvm.Cond.code ({ cls := "com/example/finder_compiler/findercompiler/CmpType", name := "narrowest", desc := "(J)Lcom/example/finder_compiler/findercompiler/CmpType;" } : Jvm.MethodName) prog_55_method_7_code (3 : Nat) (Option.some (Jvm.ClassFile.FieldType.object "com/example/finder_compiler/findercompiler/CmpType"))).before args0 about1 = true := code_word (m := ⟨6, 0⟩) (meth := k6m0) (c := k6c0) (by decide +kernel) rfl rfl rfl (by decide +kernel)
def codes1 : List Jvm.Cond := [Jvm.Cond.code x code maxLocals ret, Jvm.Cond.code ({ cls := "com/example/finder_compiler/findercompiler/CmpType", name := "narrowest", desc := "(J)Lcom/example/finder_compiler/findercompiler/CmpType;" } : Jvm.MethodName) prog_55_method_7_code (3 : Nat) (Option.some (Jvm.ClassFile.FieldType.object "com/example/finder_compiler/findercompiler/CmpType"))]
set_option maxRecDepth 65536 in
theorem codes_eq : words1.filter isCode = codes1 := rfl
theorem w_codes : ∀ c ∈ words1.filter isCode, c.before args0 about1 = true := by
  rw [codes_eq]
  intro c hc
  simp only [codes1, List.mem_cons, List.not_mem_nil, or_false] at hc
  rcases hc with rfl | rfl
  · exact w_c0
  · exact w_c1
set_option maxRecDepth 65536 in
theorem w_t1 : words1.all (fun c => isCode c || c.before args0 about1) = true := by decide +kernel
theorem w_tables : (allAtoms (Jvm.Cond.code x code maxLocals ret :: tables_1)).before args0 about1 = true := by
  rw [allAtoms_all]
  show words1.all (fun c => c.before args0 about1) = true
  refine all_split ?_ w_codes
  rw [w_t1]
set_option maxRecDepth 65536 in
theorem w_case : (Jvm.Cond.and given_1 narrow_1).before args0 about1 = true := by decide +kernel
theorem w_applies : (headSpec (Jvm.Cond.code x code maxLocals ret :: tables_1) room_1).applies x e0.platform about1 = true :=
  (Spec.applies_iff w_frames).mpr ⟨w_running, w_runnable, w_alone, w_named, w_hears, w_ripe, w_room, w_tables⟩
theorem atStart : AtStart classFile x code maxLocals ret World_1 tables_1 room_1 Calls_1 rest_1 Pre_1 launch0 p0 e0 about1 theMethod args0 below0 :=
  ⟨lists_1, trivial, launch0.admits_env _ _ _, launch0.least_env, fairChoices_fair.cas, fairChoices_fair.clock, w_frames, w_args, w_heap, w_applies, trivial, trivial, w_case⟩
end start1
theorem witness_1 : WitnessClaimed_1 := ⟨start1.p0, start1.e0, start1.about1, start1.theMethod, start1.args0, start1.below0, start1.atStart⟩
end Jvm.Pilot.@@N@@
