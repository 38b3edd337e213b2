import JvmDerived
import JvmDerived.Pilot.@@N@@Statement
import JvmDerived.Pilot.@@N@@Code
set_option linter.unusedVariables false
set_option linter.unusedSimpArgs false
namespace Jvm.Pilot.@@N@@
open Jvm Jvm.ClassFile Sem Op Lib Jvm.Free Jvm.Stand Jvm.LawKit Jvm.RoadKit Bundle Jvm.Pilot.@@N@@.Jvm.D
section Own
variable {p : Program} {l : Launch} {e : Env} {R : Room} {s : State} {m : MethodId} {args : Array Value} {below : List Frame} {meth : Method} {c : Code} {T : State} {locs : List Loc} {cells slots : Nat} {Z : State} {h h' : Heap}
/-- the run goes on from S to a state of which F holds -/
def Goes (tb : Tables) (e : Env) (below : List Frame) (F : State → Prop) (S : State) : Prop := ∃ t, Steps tb e below S t ∧ F t
theorem Goes.via {tb : Tables} {F : State → Prop} {S S' : State} (q : ∀ t, Steps tb e below S' t → Steps tb e below S t) (g : Goes tb e below F S') : Goes tb e below F S := by
  obtain ⟨t, a, b⟩ := g
  exact ⟨t, q t a, b⟩
/-- what a body leaves -/
def Fin (s : State) (below : List Frame) (Q : Option Value → Heap → List Loc → Prop) (C S : Nat) (t : State) : Prop := ∃ o, t.status = .running ∧ Ended t below o ∧ ∃ v L, o = .returned v ∧ Q v t.heap L ∧ FrameEnd s o t L C S
theorem own_start {tb : Tables} {Q : Option Value → Heap → List Loc → Prop} {C S : Nat} {S0 : State} (g : Goes tb e below (Fin s below Q C S) S0) : ∃ s₂ o, Steps tb e below S0 s₂ ∧ s₂.status = .running ∧ Ended s₂ below o ∧ ∃ v L, o = .returned v ∧ Q v s₂.heap L ∧ FrameEnd s o s₂ L C S := by
  obtain ⟨t, a, o, b, d, r⟩ := g
  exact ⟨t, o, a, b, d, r⟩
theorem own_ret (X : Stand p l e R s m args below meth c T locs cells slots) (hx : p.tables.exec = Jvm.exec) {pc : Nat} {Ls : Array Slot} {w : Value} {t : FieldType} {i : Instr} {rest : List Value} (hlk : meth.locks = false) (hret : meth.sig.returnType = some t) (hn : narrow t w = w)
    (hi : (i = .ireturn ∧ (t = .int ∨ t = .boolean ∨ t = .byte ∨ t = .char ∨ t = .short) ∧ ∃ z, w = .int z) ∨ (i = .lreturn ∧ t = .long ∧ ∃ z, w = .long z) ∨ (i = .dreturn ∧ t = .double ∧ ∃ z, w = .double z) ∨ (i = .freturn ∧ t = .float ∧ ∃ z, w = .float z) ∨ (i = .areturn ∧ t.isReference = true ∧ w.isRef = true))
    (hd : decode c.code pc = .ok (i, 1)) {Q : Option Value → Heap → List Loc → Prop} {C S : Nat} (eT : T.heap = h) (hQ : Q (some w) h locs) (hc : cells ≤ C) (hs : slots ≤ S) : Goes p.tables e below (Fin s below Q C S) (T.setTop (mkF m pc Ls (w :: rest))) := by
  obtain ⟨fs, hr, hrun, hended, hW, hsame⟩ := X.leave (v := some w) (fun q => by rw [hret] at q; cases q) hlk
  exact ⟨_, retOut X hx hret hn hi hd hr, _, hrun, hended, _, _, rfl, (by show Q (some w) T.heap locs; rw [eT]; exact hQ), ⟨_, rfl⟩, hW, hsame.mono hc hs⟩
theorem own_retV (X : Stand p l e R s m args below meth c T locs cells slots) (hx : p.tables.exec = Jvm.exec) {pc : Nat} {Ls : Array Slot} (hlk : meth.locks = false) (hret : meth.sig.returnType = none)
    (hd : decode c.code pc = .ok (.return_, 1)) {Q : Option Value → Heap → List Loc → Prop} {C S : Nat} (eT : T.heap = h) (hQ : Q none h locs) (hc : cells ≤ C) (hs : slots ≤ S) : Goes p.tables e below (Fin s below Q C S) (T.setTop (mkF m pc Ls [])) := by
  obtain ⟨fs, hr, hrun, hended, hW, hsame⟩ := X.leave (v := none) (fun _ => rfl) hlk
  exact ⟨_, X.returnOut hx hret hd hr, _, hrun, hended, _, _, rfl, (by show Q none T.heap locs; rw [eT]; exact hQ), ⟨_, rfl⟩, hW, hsame.mono hc hs⟩
theorem own_b1 {P : Prop} [Decidable P] {v : Int32} (hv : v = if P then 1 else 0) (q : P) : ¬ v = 0 := by rw [hv, if_pos q]; decide
theorem own_b0 {P : Prop} [Decidable P] {v : Int32} (hv : v = if P then 1 else 0) (q : ¬ P) : v = 0 := by rw [hv, if_neg q]
theorem own_beq {P P' : Prop} [Decidable P] [Decidable P'] {v v' : Int32} (hv : v = if P then 1 else 0) (hv' : v' = if P' then 1 else 0) (q : P ↔ P') : v = v' := by rw [hv, hv']; simp [q]
theorem own_nb {P : Prop} [Decidable P] {v : Int32} (hv : v = if P then 1 else 0) : narrow .boolean (.int v) = .int v := by rw [hv]; split <;> rfl
theorem own_nb2 {P : Prop} [Decidable P] {v : Int32} (hv : v = if P then 1 else 0) : nar .boolean v = v := by rw [hv]; split <;> rfl
theorem own_lt {x y : Int64} (q : x < y) : lcmpW x y < 0 := (lw_lt x y).mpr q
theorem own_nlt {x y : Int64} (q : ¬ x < y) : ¬ lcmpW x y < 0 := fun r => q ((lw_lt x y).mp r)
theorem own_gt {x y : Int64} (q : y < x) : 0 < lcmpW x y := (lw_gt x y).mpr q
theorem own_ngt {x y : Int64} (q : ¬ y < x) : ¬ 0 < lcmpW x y := fun r => q ((lw_gt x y).mp r)
theorem own_eq {x y : Int64} (q : x = y) : lcmpW x y = 0 := (lw_eq x y).mpr q
theorem own_neq {x y : Int64} (q : ¬ x = y) : ¬ lcmpW x y = 0 := fun r => q ((lw_eq x y).mp r)
theorem own_staKeep {C n d : String} {v : Value} {ws : List Addr} (F : Sta Z h C n d v) (K : Keep h h' ws) (q : ∀ x ∈ ws, ∀ cc : Cell, h[x]? = some cc → cc.vm.isStatics = false) : Sta Z h' C n d v := by
  obtain ⟨cf, i, k, f, st, cell, h1, h2, h3, h4, h5, h6, h7⟩ := F
  exact ⟨cf, i, k, f, st, cell, h1, h2, h3, h4, K.2.1 st cell h5 (fun r => by rw [q st r cell h5] at h6; cases h6), h6, h7⟩
theorem own_nst {a : Addr} {C : String} (F : Exa Z h a C) : ∀ cc : Cell, h[a]? = some cc → cc.vm.isStatics = false := fun cc q => by
  obtain ⟨c1, k, h1, -, -, h4, -⟩ := F
  cases h1.symm.trans q
  exact h4
theorem own_nstV {a : Addr} {k : ClassId} {ty : FieldType} {n : Int32} {vs : List Value} {dv : Value} (F : Arv Z h a k ty n vs dv) : ∀ cc : Cell, h[a]? = some cc → cc.vm.isStatics = false := fun cc q => by
  obtain ⟨c1, A, -⟩ := F
  cases A.1.symm.trans q
  exact A.plain
theorem own_fval {a : Addr} {C n d : String} {v w : Value} (q : v = w) (F : Fld Z h a C n d v) : Fld Z h a C n d w := q ▸ F
theorem own_exS {a0 : Array Value} {C n d K : String} (q : (Cond.exactly (Term.static C n d) K).value a0 Z none Z [] = some true) (wi : (Cond.initialized C).before a0 Z = true) (wl : (Cond.laysStatic C n d).before a0 Z = true) : ∃ a, Sta Z Z.heap C n d (.ref a) ∧ Exa Z Z.heap a K ∧ (Term.static C n d).eval a0 Z none [] Z = some (.ref a) := by
  obtain ⟨a, c', cell, k, e1, -⟩ := Cond.exactly_spec (Cond.before_iff.mpr q)
  exact ⟨a, Sta.start e1 (Or.inr ⟨wi, wl⟩), Exa.start e1 q, e1⟩
theorem own_eqI {a0 : Array Value} {t : Term} {k : Int32} (q : (Cond.eq t (Term.int k)).value a0 Z none Z [] = some true) : t.eval a0 Z none [] Z = some (.int k) := by
  simp only [Cond.value] at q
  split at q <;> simp_all [Term.int_eval]
theorem own_fldI {a0 : Array Value} {t : Term} {O n d : String} {k : Int32} {a : Addr} (ev : t.eval a0 Z none [] Z = some (.ref a)) (q : (Cond.eq (Term.field t O n d) (Term.int k)).value a0 Z none Z [] = some true) : Fld Z Z.heap a O n d (.int k) := by
  have r : (Term.field t O n d).eval a0 Z none [] Z = some (.int k) := own_eqI q
  refine Fld.start ?_
  simpa [Term.eval, ev] using r
theorem own_intne {x y : Int32} (q : ¬ x = y) : Value.int x ≠ Value.int y := fun r => q (Value.int.inj r)
theorem own_fldN {a0 : Array Value} {t : Term} {O n d : String} {a : Addr} (ev : t.eval a0 Z none [] Z = some (.ref a)) (q : (Cond.eq (Term.field t O n d) Term.null).value a0 Z none Z [] = some true) : Fld Z Z.heap a O n d .null := by
  have r : (Term.field t O n d).eval a0 Z none [] Z = some .null := by
    have e0 : Term.null.eval a0 Z none [] Z = some .null := rfl
    simp only [Cond.value, e0] at q
    split at q <;> simp_all
  refine Fld.start ?_
  simpa [Term.eval, ev] using r
theorem own_nz {x : Int32} (q : x = 0 ∨ x = 1) : narrow .boolean (.int x) = .int x := by rcases q with rfl | rfl <;> rfl
theorem own_fz {x : Int32} (q : x = 0 ∨ x = 1) : fits .boolean (.int x) = true := by rcases q with rfl | rfl <;> rfl
theorem own_b01 {P : Prop} [Decidable P] {v : Int32} (hv : v = if P then 1 else 0) : v = 0 ∨ v = 1 := by rw [hv]; split <;> simp
theorem own_narR {C : String} {v : Value} (q : v.isRef = true) : narrow (.object C) v = v := by rcases ref_cases q with r | ⟨_, r⟩ <;> rw [r] <;> rfl
theorem own_fitR {C : String} {v : Value} (q : v.isRef = true) : fits (.object C) v = true := by rcases ref_cases q with r | ⟨_, r⟩ <;> rw [r] <;> rfl
theorem own_lenAt {a0 : Array Value} {t : Term} {k : Int32} {a : Addr} {cl : Cell} (ev : t.eval a0 Z none [] Z = some (.ref a)) (hA : Z.arrayAt? a = some cl) (q : (Term.length t).eval a0 Z none [] Z = some (.int k)) : cl.slots.size < 2 ^ 31 ∧ cl.slots.size.toInt32 = k := by
  by_cases hl : cl.slots.size < 2 ^ 31
  · rw [len_f ev hA hl] at q
    exact ⟨hl, Value.int.inj (Option.some.inj q)⟩
  · simp [Term.eval, ev, hA, hl] at q
end Own

theorem pd_0 : parseMethodDescriptor "()V" = some ⟨[], none⟩ := by decide +kernel
theorem pd_1 : parseMethodDescriptor "(I)Lcom/example/careful_store/carefulstore/LockMode;" = some ⟨[.int], some (.object "com/example/careful_store/carefulstore/LockMode")⟩ := by decide +kernel
theorem pd_2 : parseMethodDescriptor "(Lcom/example/careful_store/carefulstore/LockMode;ZZ)V" = some ⟨[(.object "com/example/careful_store/carefulstore/LockMode"), .boolean, .boolean], none⟩ := by decide +kernel
theorem pd_3 : parseMethodDescriptor "()Lcom/example/careful_store/carefulstore/Lock;" = some ⟨[], some (.object "com/example/careful_store/carefulstore/Lock")⟩ := by decide +kernel
theorem pd_4 : parseMethodDescriptor "()Lcom/example/careful_store/carefulstore/LockMode;" = some ⟨[], some (.object "com/example/careful_store/carefulstore/LockMode")⟩ := by decide +kernel
theorem pd_5 : parseMethodDescriptor "()Z" = some ⟨[], some .boolean⟩ := by decide +kernel
theorem pd_6 : parseMethodDescriptor "(Lcom/example/careful_store/carefulstore/Lock;)Z" = some ⟨[(.object "com/example/careful_store/carefulstore/Lock")], some .boolean⟩ := by decide +kernel
theorem pn_3 : plainName "java/lang/Record" = true := by first | (simp [plainName, overriddenIn]; done) | decide +kernel
theorem pn_21 : plainName "com/example/careful_store/carefulstore/LockGapPartPinLaw" = true := by first | (simp [plainName, overriddenIn]; done) | decide +kernel
theorem pn_34 : plainName "com/example/careful_store/carefulstore/Lock" = true := by first | (simp [plainName, overriddenIn]; done) | decide +kernel
theorem d3_0 : decode jdk_30_method_1_code 0 = .ok (.aload_n 0, 1) := by decide +kernel
theorem d3_1 : decode jdk_30_method_1_code 1 = .ok (.invokespecial 1, 3) := by decide +kernel
theorem d3_4 : decode jdk_30_method_1_code 4 = .ok (.return_, 1) := by decide +kernel
theorem ef_3 (m : MethodId) (xa : Addr) : entryFrame m #[(.ref xa)] 1 = mkF m 0 #[.val (.ref xa)] [] := by first | (simp [entryFrame, mkF, argsToLocals, Value.category]; done) | rfl
def Q3 (Z : State) (xa : Addr) (h0 : Heap) (n0 : Nat) (v : Option Value) (h : Heap) (L : List Loc) : Prop := v = none ∧ Fr n0 L ∧ h = h0
set_option maxRecDepth 65536 in
set_option maxHeartbeats 40000000 in
theorem rm3 (l : Launch) (Z : State) (a0 : Array Value) (hw : ∀ d ∈ tables_1, d.before a0 Z = true) (ws : List Jvm.Cond) (xa : Addr) (h0 : Heap) (n0 : Nat) (Z0 : n0 ≤ h0.size) :
    MetFree l (⟨"java/lang/Record", "<init>", "()V"⟩ : MethodName) (head1 (Jvm.Cond.code (⟨"java/lang/Record", "<init>", "()V"⟩ : MethodName) jdk_30_method_1_code 1 none :: ws) ({ frames := 1, cells := 0, slots := 0, locals := 12 } : Room)) (fun a U => a = #[(.ref xa)] ∧ Z.Warmed39 U.vm ∧ U.heap = h0) (fun _ _ _ _ _ => True) (fun _ U o U' => ∃ v L, o = .returned v ∧ Q3 Z xa h0 n0 v U'.heap L ∧ FrameEnd U o U' L 0 0) := by
  refine MetFree.of_bodySF (plainFor_of_name pn_3) hisR ?_
  intro p e s m args below meth c s₁ Bd hml0 hP hK
  obtain ⟨rfl, hZ, hh⟩ := hP
  have hx := Bd.exec
  have hby := Bd.bytes
  have hml : c.maxLocals = 1 := hml0
  have hown : s.vm.findClass "java/lang/Record" = some m.cls := findClass_of_methodNamed Bd.named
  have hnm := (name_of_methodNamed Bd.named Bd.method).1
  have X0 : Stand p l e ({ frames := 1, cells := 0, slots := 0, locals := 12 } : Room) s m #[(.ref xa)] below meth c s₁ [] 0 0 := Stand.of_body Bd
  have e0 : s₁.heap = h0 := by rw [← hh, Bd.state]; rfl
  have N0 := Fr.nil n0
  refine own_start (Q := fun v h L => Q3 Z xa h0 n0 v h L) ?_
  refine Goes.via (S' := (s₁.setTop (mkF m 0 #[.val (.ref xa)] []))) (fun t k => castTop (ef_3 m xa) k) ?_
  refine Goes.via (S' := (s₁.setTop (mkF m 1 #[.val (.ref xa)] [(.ref xa)]))) (fun t k => XS.aloadN X0.here hx rfl (hb hby d3_0) rfl rfl k) ?_
  obtain ⟨T1, X1, e1, st1⟩ := initO X0 hx hZ hown (hw _ (List.mem_of_getElem? (i := 16) rfl)) (hw _ (List.mem_of_getElem? (i := 17) rfl)) (hw _ (List.mem_of_getElem? (i := 18) rfl)) e0 (g := (mkF m 1 #[.val (.ref xa)] [(.ref xa)])) rfl (by rw [hml]; rfl) rfl (hb hby d3_1) (by decide) (W := 0) (by show 2 * 0 + _ ≤ _; exact Nat.le_of_eq rfl) (by decide)
  refine Goes.via (S' := (T1.setTop (mkF m 4 #[.val (.ref xa)] []))) (fun t k => st1 _ k) ?_
  exact own_retV X1 hx Bd.notSynchronized Bd.returns (hb hby d3_4) e1 ⟨rfl, N0, rfl⟩ (by decide) (by decide)
theorem d1_0 : decode method_2_code 0 = .ok (.iload_n 0, 1) := by decide +kernel
theorem d1_1 : decode method_2_code 1 = .ok (.ldc 7, 2) := by decide +kernel
theorem d1_3 : decode method_2_code 3 = .ok (.iand, 1) := by decide +kernel
theorem d1_4 : decode method_2_code 4 = .ok (.iconst 3, 1) := by decide +kernel
theorem d1_5 : decode method_2_code 5 = .ok (.irem, 1) := by decide +kernel
theorem d1_6 : decode method_2_code 6 = .ok (.istore_n 1, 1) := by decide +kernel
theorem d1_7 : decode method_2_code 7 = .ok (.iload_n 1, 1) := by decide +kernel
theorem d1_8 : decode method_2_code 8 = .ok (.ifCond .ne 5, 3) := by decide +kernel
theorem d1_11 : decode method_2_code 11 = .ok (.aconst_null, 1) := by decide +kernel
theorem d1_12 : decode method_2_code 12 = .ok (.areturn, 1) := by decide +kernel
theorem d1_13 : decode method_2_code 13 = .ok (.iload_n 1, 1) := by decide +kernel
theorem d1_14 : decode method_2_code 14 = .ok (.iconst 1, 1) := by decide +kernel
theorem d1_15 : decode method_2_code 15 = .ok (.if_icmp .ne 7, 3) := by decide +kernel
theorem d1_18 : decode method_2_code 18 = .ok (.getstatic 8, 3) := by decide +kernel
theorem d1_21 : decode method_2_code 21 = .ok (.areturn, 1) := by decide +kernel
theorem d1_22 : decode method_2_code 22 = .ok (.getstatic 14, 3) := by decide +kernel
theorem d1_25 : decode method_2_code 25 = .ok (.areturn, 1) := by decide +kernel
theorem ef_1 (m : MethodId) (p0 : Int32) : entryFrame m #[(.int p0)] 2 = mkF m 0 #[.val (.int p0), .unset] [] := by first | (simp [entryFrame, mkF, argsToLocals, Value.category]; done) | rfl
def Q1 (Z : State) (p0 : Int32) (xs : Addr) (xe : Addr) (h0 : Heap) (n0 : Nat) (v : Option Value) (h : Heap) (L : List Loc) : Prop := ∃ r : Value, v = some r ∧ (r.isRef = true) ∧ Fr n0 L ∧ h = h0
set_option maxRecDepth 65536 in
set_option maxHeartbeats 40000000 in
theorem rm1 (l : Launch) (Z : State) (a0 : Array Value) (hw : ∀ d ∈ tables_1, d.before a0 Z = true) (ws : List Jvm.Cond) (p0 : Int32) (xs : Addr) (xe : Addr) (h0 : Heap) (n0 : Nat) (Z0 : n0 ≤ h0.size) (f0_SHARE : Sta Z h0 "com/example/careful_store/carefulstore/LockMode" "SHARE" "Lcom/example/careful_store/carefulstore/LockMode;" (.ref xs)) (f1_EXCLUSIVE : Sta Z h0 "com/example/careful_store/carefulstore/LockMode" "EXCLUSIVE" "Lcom/example/careful_store/carefulstore/LockMode;" (.ref xe)) :
    MetFree l (⟨"com/example/careful_store/carefulstore/LockGapPartPinLaw", "modeOf", "(I)Lcom/example/careful_store/carefulstore/LockMode;"⟩ : MethodName) (head1 (Jvm.Cond.code (⟨"com/example/careful_store/carefulstore/LockGapPartPinLaw", "modeOf", "(I)Lcom/example/careful_store/carefulstore/LockMode;"⟩ : MethodName) method_2_code 2 (some (.object "com/example/careful_store/carefulstore/LockMode")) :: ws) ({ frames := 0, cells := 0, slots := 0, locals := 0 } : Room)) (fun a U => a = #[(.int p0)] ∧ Z.Warmed39 U.vm ∧ U.heap = h0) (fun _ _ _ _ _ => True) (fun _ U o U' => ∃ v L, o = .returned v ∧ Q1 Z p0 xs xe h0 n0 v U'.heap L ∧ FrameEnd U o U' L 0 0) := by
  refine MetFree.of_bodySF (plainFor_of_name pn_21) hisR ?_
  intro p e s m args below meth c s₁ Bd hml0 hP hK
  obtain ⟨rfl, hZ, hh⟩ := hP
  have hx := Bd.exec
  have hby := Bd.bytes
  have hml : c.maxLocals = 2 := hml0
  have hown : s.vm.findClass "com/example/careful_store/carefulstore/LockGapPartPinLaw" = some m.cls := findClass_of_methodNamed Bd.named
  have hnm := (name_of_methodNamed Bd.named Bd.method).1
  have X0 : Stand p l e ({ frames := 0, cells := 0, slots := 0, locals := 0 } : Room) s m #[(.int p0)] below meth c s₁ [] 0 0 := Stand.of_body Bd
  have e0 : s₁.heap = h0 := by rw [← hh, Bd.state]; rfl
  have N0 := Fr.nil n0
  refine own_start (Q := fun v h L => Q1 Z p0 xs xe h0 n0 v h L) ?_
  refine Goes.via (S' := (s₁.setTop (mkF m 0 #[.val (.int p0), .unset] []))) (fun t k => castTop (ef_1 m p0) k) ?_
  refine Goes.via (S' := (s₁.setTop (mkF m 1 #[.val (.int p0), .unset] [(.int p0)]))) (fun t k => XS.iloadN X0.here hx rfl (hb hby d1_0) rfl k) ?_
  refine Goes.via (S' := (s₁.setTop (mkF m 3 #[.val (.int p0), .unset] [(.int (2147483647 : Int32)), (.int p0)]))) (fun t k => X0.ldcInt hx hown (mvT hZ (hw _ (List.mem_of_getElem? (i := 4) rfl))) (g := (mkF m 1 #[.val (.int p0), .unset] [(.int p0)])) rfl (hb hby d1_1) _ k) ?_
  refine Goes.via (S' := (s₁.setTop (mkF m 4 #[.val (.int p0), .unset] [(.int (p0 &&& (2147483647 : Int32)))]))) (fun t k => XS.iand X0.here hx rfl (hb hby d1_3) rfl k) ?_
  refine Goes.via (S' := (s₁.setTop (mkF m 5 #[.val (.int p0), .unset] [(.int (3 : Int32)), (.int (p0 &&& (2147483647 : Int32)))]))) (fun t k => XS.iconst X0.here hx rfl (hb hby d1_4) k) ?_
  refine Goes.via (S' := (s₁.setTop (mkF m 6 #[.val (.int p0), .unset] [(.int ((p0 &&& (2147483647 : Int32)) % (3 : Int32)))]))) (fun t k => iremM X0 hx rfl (hb hby d1_5) rfl (by decide) k) ?_
  refine Goes.via (S' := (s₁.setTop (mkF m 7 #[.val (.int p0), .val (.int ((p0 &&& (2147483647 : Int32)) % (3 : Int32)))] []))) (fun t k => XS.istoreN X0.here hx rfl (hb hby d1_6) rfl (l' := #[.val (.int p0), .val (.int ((p0 &&& (2147483647 : Int32)) % (3 : Int32)))]) rfl k) ?_
  refine Goes.via (S' := (s₁.setTop (mkF m 8 #[.val (.int p0), .val (.int ((p0 &&& (2147483647 : Int32)) % (3 : Int32)))] [(.int ((p0 &&& (2147483647 : Int32)) % (3 : Int32)))]))) (fun t k => XS.iloadN X0.here hx rfl (hb hby d1_7) rfl k) ?_
  by_cases hc1 : (((p0 &&& (2147483647 : Int32)) % (3 : Int32)) = (0 : Int32))
  · refine Goes.via (S' := (s₁.setTop (mkF m 11 #[.val (.int p0), .val (.int ((p0 &&& (2147483647 : Int32)) % (3 : Int32)))] []))) (fun t k => XS.ifNo X0.here hx rfl (hb hby d1_8) rfl ((if0 _ _).trans (teq hc1).2) k) ?_
    refine Goes.via (S' := (s₁.setTop (mkF m 12 #[.val (.int p0), .val (.int ((p0 &&& (2147483647 : Int32)) % (3 : Int32)))] [.null]))) (fun t k => XS.aconstNull X0.here hx rfl (hb hby d1_11) k) ?_
    exact own_ret X0 hx Bd.notSynchronized Bd.returns rfl (Or.inr (Or.inr (Or.inr (Or.inr ⟨rfl, rfl, rfl⟩)))) (hb hby d1_12) e0 ⟨.null, rfl, rfl, N0, rfl⟩ (by decide) (by decide)
  · refine Goes.via (S' := (s₁.setTop (mkF m 13 #[.val (.int p0), .val (.int ((p0 &&& (2147483647 : Int32)) % (3 : Int32)))] []))) (fun t k => XS.ifYes X0.here hx rfl (pc0 := 8) (pc' := 13) rfl (hb hby d1_8) rfl ((if0 _ _).trans (feq hc1).2) (by decide) (by decide) k) ?_
    refine Goes.via (S' := (s₁.setTop (mkF m 14 #[.val (.int p0), .val (.int ((p0 &&& (2147483647 : Int32)) % (3 : Int32)))] [(.int ((p0 &&& (2147483647 : Int32)) % (3 : Int32)))]))) (fun t k => XS.iloadN X0.here hx rfl (hb hby d1_13) rfl k) ?_
    refine Goes.via (S' := (s₁.setTop (mkF m 15 #[.val (.int p0), .val (.int ((p0 &&& (2147483647 : Int32)) % (3 : Int32)))] [(.int (1 : Int32)), (.int ((p0 &&& (2147483647 : Int32)) % (3 : Int32)))]))) (fun t k => XS.iconst X0.here hx rfl (hb hby d1_14) k) ?_
    by_cases hc2 : (((p0 &&& (2147483647 : Int32)) % (3 : Int32)) = (1 : Int32))
    · refine Goes.via (S' := (s₁.setTop (mkF m 18 #[.val (.int p0), .val (.int ((p0 &&& (2147483647 : Int32)) % (3 : Int32)))] []))) (fun t k => XS.icmpNo X0.here hx rfl (hb hby d1_15) rfl (teq hc2).2 k) ?_
      obtain ⟨T3, X3, e3, st3⟩ := getS2 X0 hx hZ hown (host := "") (Or.inl (hw _ (List.mem_of_getElem? (i := 55) rfl))) Via.refl e0 f0_SHARE (g := (mkF m 18 #[.val (.int p0), .val (.int ((p0 &&& (2147483647 : Int32)) % (3 : Int32)))] [])) rfl (hb hby d1_18)
      refine Goes.via (S' := (T3.setTop (mkF m 21 #[.val (.int p0), .val (.int ((p0 &&& (2147483647 : Int32)) % (3 : Int32)))] [(.ref xs)]))) (fun t k => st3 _ k) ?_
      exact own_ret X3 hx Bd.notSynchronized Bd.returns rfl (Or.inr (Or.inr (Or.inr (Or.inr ⟨rfl, rfl, rfl⟩)))) (hb hby d1_21) e3 ⟨(.ref xs), rfl, rfl, N0, rfl⟩ (by decide) (by decide)
    · refine Goes.via (S' := (s₁.setTop (mkF m 22 #[.val (.int p0), .val (.int ((p0 &&& (2147483647 : Int32)) % (3 : Int32)))] []))) (fun t k => XS.icmpYes X0.here hx rfl (pc0 := 15) (pc' := 22) rfl (hb hby d1_15) rfl (feq hc2).2 (by decide) (by decide) k) ?_
      obtain ⟨T4, X4, e4, st4⟩ := getS2 X0 hx hZ hown (host := "") (Or.inl (hw _ (List.mem_of_getElem? (i := 52) rfl))) Via.refl e0 f1_EXCLUSIVE (g := (mkF m 22 #[.val (.int p0), .val (.int ((p0 &&& (2147483647 : Int32)) % (3 : Int32)))] [])) rfl (hb hby d1_22)
      refine Goes.via (S' := (T4.setTop (mkF m 25 #[.val (.int p0), .val (.int ((p0 &&& (2147483647 : Int32)) % (3 : Int32)))] [(.ref xe)]))) (fun t k => st4 _ k) ?_
      exact own_ret X4 hx Bd.notSynchronized Bd.returns rfl (Or.inr (Or.inr (Or.inr (Or.inr ⟨rfl, rfl, rfl⟩)))) (hb hby d1_25) e4 ⟨(.ref xe), rfl, rfl, N0, rfl⟩ (by decide) (by decide)
theorem d2_0 : decode prog_27_method_1_code 0 = .ok (.aload_n 0, 1) := by decide +kernel
theorem d2_1 : decode prog_27_method_1_code 1 = .ok (.invokespecial 1, 3) := by decide +kernel
theorem d2_4 : decode prog_27_method_1_code 4 = .ok (.aload_n 0, 1) := by decide +kernel
theorem d2_5 : decode prog_27_method_1_code 5 = .ok (.aload_n 1, 1) := by decide +kernel
theorem d2_6 : decode prog_27_method_1_code 6 = .ok (.putfield 7, 3) := by decide +kernel
theorem d2_9 : decode prog_27_method_1_code 9 = .ok (.aload_n 0, 1) := by decide +kernel
theorem d2_10 : decode prog_27_method_1_code 10 = .ok (.iload_n 2, 1) := by decide +kernel
theorem d2_11 : decode prog_27_method_1_code 11 = .ok (.putfield 13, 3) := by decide +kernel
theorem d2_14 : decode prog_27_method_1_code 14 = .ok (.aload_n 0, 1) := by decide +kernel
theorem d2_15 : decode prog_27_method_1_code 15 = .ok (.iload_n 3, 1) := by decide +kernel
theorem d2_16 : decode prog_27_method_1_code 16 = .ok (.putfield 17, 3) := by decide +kernel
theorem d2_19 : decode prog_27_method_1_code 19 = .ok (.return_, 1) := by decide +kernel
theorem ef_2 (m : MethodId) (xa : Addr) (vm : Value) (p1 : Int32) (p2 : Int32) (hr_vm : vm.isRef = true) : entryFrame m #[(.ref xa), vm, (.int p1), (.int p2)] 4 = mkF m 0 #[.val (.ref xa), .val vm, .val (.int p1), .val (.int p2)] [] := by
  rcases ref_cases hr_vm with q_vm | ⟨_, q_vm⟩ <;> subst q_vm <;> first | (simp [entryFrame, mkF, argsToLocals, Value.category]; done) | rfl
def Q2 (Z : State) (xa : Addr) (vm : Value) (p1 : Int32) (p2 : Int32) (u0 : Value) (u1 : Value) (u2 : Value) (h0 : Heap) (n0 : Nat) (v : Option Value) (h : Heap) (L : List Loc) : Prop := v = none ∧ Fr n0 L ∧ Keep h0 h [xa] ∧ Exa Z h xa "com/example/careful_store/carefulstore/Lock" ∧ Fld Z h xa "com/example/careful_store/carefulstore/Lock" "mode" "Lcom/example/careful_store/carefulstore/LockMode;" vm ∧ Fld Z h xa "com/example/careful_store/carefulstore/Lock" "gap" "Z" (.int p1) ∧ Fld Z h xa "com/example/careful_store/carefulstore/Lock" "insert" "Z" (.int p2)
set_option maxRecDepth 65536 in
set_option maxHeartbeats 40000000 in
theorem rm2 (l : Launch) (Z : State) (a0 : Array Value) (hw : ∀ d ∈ tables_1, d.before a0 Z = true) (ws : List Jvm.Cond) (xa : Addr) (vm : Value) (p1 : Int32) (p2 : Int32) (u0 : Value) (u1 : Value) (u2 : Value) (h0 : Heap) (n0 : Nat) (Z0 : n0 ≤ h0.size) (f0_xa : Exa Z h0 xa "com/example/careful_store/carefulstore/Lock") (f1_xa_mode : Fld Z h0 xa "com/example/careful_store/carefulstore/Lock" "mode" "Lcom/example/careful_store/carefulstore/LockMode;" u0) (f2_xa_gap : Fld Z h0 xa "com/example/careful_store/carefulstore/Lock" "gap" "Z" u1) (f3_xa_insert : Fld Z h0 xa "com/example/careful_store/carefulstore/Lock" "insert" "Z" u2) (g_xa : n0 ≤ xa) (hr_vm : vm.isRef = true) (hb1 : p1 = 0 ∨ p1 = 1) (hb2 : p2 = 0 ∨ p2 = 1) :
    MetFree l (⟨"com/example/careful_store/carefulstore/Lock", "<init>", "(Lcom/example/careful_store/carefulstore/LockMode;ZZ)V"⟩ : MethodName) (head1 (Jvm.Cond.code (⟨"com/example/careful_store/carefulstore/Lock", "<init>", "(Lcom/example/careful_store/carefulstore/LockMode;ZZ)V"⟩ : MethodName) prog_27_method_1_code 4 none :: ws) ({ frames := 2, cells := 0, slots := 0, locals := 24 } : Room)) (fun a U => a = #[(.ref xa), vm, (.int p1), (.int p2)] ∧ Z.Warmed39 U.vm ∧ U.heap = h0) (fun _ _ _ _ _ => True) (fun _ U o U' => ∃ v L, o = .returned v ∧ Q2 Z xa vm p1 p2 u0 u1 u2 h0 n0 v U'.heap L ∧ FrameEnd U o U' L 0 0) := by
  refine MetFree.of_bodySF (plainFor_of_name pn_34) hisR ?_
  intro p e s m args below meth c s₁ Bd hml0 hP hK
  obtain ⟨rfl, hZ, hh⟩ := hP
  have hx := Bd.exec
  have hby := Bd.bytes
  have hml : c.maxLocals = 4 := hml0
  have hown : s.vm.findClass "com/example/careful_store/carefulstore/Lock" = some m.cls := findClass_of_methodNamed Bd.named
  have hnm := (name_of_methodNamed Bd.named Bd.method).1
  have X0 : Stand p l e ({ frames := 2, cells := 0, slots := 0, locals := 24 } : Room) s m #[(.ref xa), vm, (.int p1), (.int p2)] below meth c s₁ [] 0 0 := Stand.of_body Bd
  have e0 : s₁.heap = h0 := by rw [← hh, Bd.state]; rfl
  have N0 := Fr.nil n0
  refine own_start (Q := fun v h L => Q2 Z xa vm p1 p2 u0 u1 u2 h0 n0 v h L) ?_
  refine Goes.via (S' := (s₁.setTop (mkF m 0 #[.val (.ref xa), .val vm, .val (.int p1), .val (.int p2)] []))) (fun t k => castTop (ef_2 m xa vm p1 p2 hr_vm) k) ?_
  refine Goes.via (S' := (s₁.setTop (mkF m 1 #[.val (.ref xa), .val vm, .val (.int p1), .val (.int p2)] [(.ref xa)]))) (fun t k => XS.aloadN X0.here hx rfl (hb hby d2_0) rfl rfl k) ?_
  obtain ⟨_, _, ⟨T1, L1, k1, n1⟩, -, X1, ⟨Lc1, hQ1, l1, y1, z1⟩, st1⟩ := X0.specialBack hx (y := (⟨"java/lang/Record", "<init>", "()V"⟩ : MethodName)) rfl hown (mvT hZ (hw _ (List.mem_of_getElem? (i := 11) rfl))) (mvT hZ (hw _ (List.mem_of_getElem? (i := 12) rfl))) (mvT hZ (hw _ (List.mem_of_getElem? (i := 15) rfl))) (by decide) (backOf (W := 0) (rm3 l Z a0 hw [] xa h0 n0 Z0 ) hZ (hw _ (List.mem_of_getElem? (i := 15) rfl)) (hw _ (List.mem_of_getElem? (i := 14) rfl)) (by decide) (by decide)) (g := (mkF m 1 #[.val (.ref xa), .val vm, .val (.int p1), .val (.int p2)] [(.ref xa)])) rfl (by rw [hml]; rfl) (Steps.refl _) (a := xa) (argsL := []) (rest := []) (lenOf pd_0 rfl) rfl (by show 2 * 0 + _ ≤ _; exact Nat.le_of_eq rfl) (hb hby d2_1) (fun _ _ => ⟨rfl, e0, (by decide : 0 + 0 ≤ _), (by decide : 0 + 0 ≤ _)⟩)
  dsimp only [Pt.U, Pt.locs, Pt.cells, Pt.slots] at X1 l1 y1 z1 st1 hQ1
  subst l1 y1 z1
  obtain ⟨rfl, N1q, eq1⟩ := hQ1
  have N1 := Fr.app N0 N1q
  refine Goes.via (S' := (T1.setTop (mkF m 4 #[.val (.ref xa), .val vm, .val (.int p1), .val (.int p2)] []))) (fun t k => st1.trans k) ?_
  refine Goes.via (S' := (T1.setTop (mkF m 5 #[.val (.ref xa), .val vm, .val (.int p1), .val (.int p2)] [(.ref xa)]))) (fun t k => XS.aloadN X1.here hx rfl (hb hby d2_4) rfl rfl k) ?_
  refine Goes.via (S' := (T1.setTop (mkF m 6 #[.val (.ref xa), .val vm, .val (.int p1), .val (.int p2)] [vm, (.ref xa)]))) (fun t k => XS.aloadN X1.here hx rfl (hb hby d2_5) rfl hr_vm k) ?_
  obtain ⟨T2, h2, X2, e2, W2, st2⟩ := putF X1 hx hZ hown (host := "") (Or.inl (hw _ (List.mem_of_getElem? (i := 19) rfl))) Via.refl eq1 f1_xa_mode f0_xa (Or.inr ⟨(hw _ (List.mem_of_getElem? (i := 20) rfl)), rfl, hnm⟩) (hw _ (List.mem_of_getElem? (i := 6) rfl)) (ty := (.object "com/example/careful_store/carefulstore/LockMode")) (by decide) (own_narR hr_vm) (own_fitR hr_vm) (g := (mkF m 6 #[.val (.ref xa), .val vm, .val (.int p1), .val (.int p2)] [vm, (.ref xa)])) rfl rfl (hb hby d2_6)
  have f3 : Exa Z h2 xa "com/example/careful_store/carefulstore/Lock" := f0_xa.wr W2
  have f4 : Fld Z h2 xa "com/example/careful_store/carefulstore/Lock" "gap" "Z" u1 := f2_xa_gap.other W2 (Or.inr (slot_ne (Or.inr (hw _ (List.mem_of_getElem? (i := 22) rfl))) (Or.inr (hw _ (List.mem_of_getElem? (i := 20) rfl))) (by decide) (t := .boolean) (t' := (.object "com/example/careful_store/carefulstore/LockMode")) (by decide) (by decide)))
  have f5 : Fld Z h2 xa "com/example/careful_store/carefulstore/Lock" "insert" "Z" u2 := f3_xa_insert.other W2 (Or.inr (slot_ne (Or.inr (hw _ (List.mem_of_getElem? (i := 24) rfl))) (Or.inr (hw _ (List.mem_of_getElem? (i := 20) rfl))) (by decide) (t := .boolean) (t' := (.object "com/example/careful_store/carefulstore/LockMode")) (by decide) (by decide)))
  have f6 : Fld Z h2 xa "com/example/careful_store/carefulstore/Lock" "mode" "Lcom/example/careful_store/carefulstore/LockMode;" vm := f1_xa_mode.same W2
  have K2 : Keep h0 h2 [xa] := Keep.wr (Keep.refl h0 [xa]) W2 (Or.inl (List.mem_of_getElem? (i := 0) rfl))
  have Z2 : n0 ≤ h2.size := Nat.le_trans Z0 K2.1
  have N2 := Fr.snoc X2 N1 g_xa
  refine Goes.via (S' := (T2.setTop (mkF m 9 #[.val (.ref xa), .val vm, .val (.int p1), .val (.int p2)] []))) (fun t k => st2 _ k) ?_
  refine Goes.via (S' := (T2.setTop (mkF m 10 #[.val (.ref xa), .val vm, .val (.int p1), .val (.int p2)] [(.ref xa)]))) (fun t k => XS.aloadN X2.here hx rfl (hb hby d2_9) rfl rfl k) ?_
  refine Goes.via (S' := (T2.setTop (mkF m 11 #[.val (.ref xa), .val vm, .val (.int p1), .val (.int p2)] [(.int p1), (.ref xa)]))) (fun t k => XS.iloadN X2.here hx rfl (hb hby d2_10) rfl k) ?_
  obtain ⟨T7, h7, X7, e7, W7, st7⟩ := putFN X2 hx hZ hown (hw _ (List.mem_of_getElem? (i := 21) rfl)) Via.refl e2 f4 f3 (Or.inr ⟨(hw _ (List.mem_of_getElem? (i := 22) rfl)), rfl, hnm⟩) (hw _ (List.mem_of_getElem? (i := 6) rfl)) (ty := .boolean) (v' := (.int p1)) (by decide) (own_nz hb1) (own_fz hb1) (g := (mkF m 11 #[.val (.ref xa), .val vm, .val (.int p1), .val (.int p2)] [(.int p1), (.ref xa)])) rfl rfl (hb hby d2_11)
  have f8 : Exa Z h7 xa "com/example/careful_store/carefulstore/Lock" := f3.wr W7
  have f9 : Fld Z h7 xa "com/example/careful_store/carefulstore/Lock" "insert" "Z" u2 := f5.other W7 (Or.inr (slot_ne (Or.inr (hw _ (List.mem_of_getElem? (i := 24) rfl))) (Or.inr (hw _ (List.mem_of_getElem? (i := 22) rfl))) (by decide) (t := .boolean) (t' := .boolean) (by decide) (by decide)))
  have f10 : Fld Z h7 xa "com/example/careful_store/carefulstore/Lock" "mode" "Lcom/example/careful_store/carefulstore/LockMode;" vm := f6.other W7 (Or.inr (slot_ne (Or.inr (hw _ (List.mem_of_getElem? (i := 20) rfl))) (Or.inr (hw _ (List.mem_of_getElem? (i := 22) rfl))) (by decide) (t := (.object "com/example/careful_store/carefulstore/LockMode")) (t' := .boolean) (by decide) (by decide)))
  have f11 : Fld Z h7 xa "com/example/careful_store/carefulstore/Lock" "gap" "Z" (.int p1) := f4.same W7
  have K7 : Keep h0 h7 [xa] := Keep.wr K2 W7 (Or.inl (List.mem_of_getElem? (i := 0) rfl))
  have Z7 : n0 ≤ h7.size := Nat.le_trans Z0 K7.1
  have N7 := Fr.snoc X7 N2 g_xa
  refine Goes.via (S' := (T7.setTop (mkF m 14 #[.val (.ref xa), .val vm, .val (.int p1), .val (.int p2)] []))) (fun t k => st7 _ k) ?_
  refine Goes.via (S' := (T7.setTop (mkF m 15 #[.val (.ref xa), .val vm, .val (.int p1), .val (.int p2)] [(.ref xa)]))) (fun t k => XS.aloadN X7.here hx rfl (hb hby d2_14) rfl rfl k) ?_
  refine Goes.via (S' := (T7.setTop (mkF m 16 #[.val (.ref xa), .val vm, .val (.int p1), .val (.int p2)] [(.int p2), (.ref xa)]))) (fun t k => XS.iloadN X7.here hx rfl (hb hby d2_15) rfl k) ?_
  obtain ⟨T12, h12, X12, e12, W12, st12⟩ := putFN X7 hx hZ hown (hw _ (List.mem_of_getElem? (i := 23) rfl)) Via.refl e7 f9 f8 (Or.inr ⟨(hw _ (List.mem_of_getElem? (i := 24) rfl)), rfl, hnm⟩) (hw _ (List.mem_of_getElem? (i := 6) rfl)) (ty := .boolean) (v' := (.int p2)) (by decide) (own_nz hb2) (own_fz hb2) (g := (mkF m 16 #[.val (.ref xa), .val vm, .val (.int p1), .val (.int p2)] [(.int p2), (.ref xa)])) rfl rfl (hb hby d2_16)
  have f13 : Exa Z h12 xa "com/example/careful_store/carefulstore/Lock" := f8.wr W12
  have f14 : Fld Z h12 xa "com/example/careful_store/carefulstore/Lock" "mode" "Lcom/example/careful_store/carefulstore/LockMode;" vm := f10.other W12 (Or.inr (slot_ne (Or.inr (hw _ (List.mem_of_getElem? (i := 20) rfl))) (Or.inr (hw _ (List.mem_of_getElem? (i := 24) rfl))) (by decide) (t := (.object "com/example/careful_store/carefulstore/LockMode")) (t' := .boolean) (by decide) (by decide)))
  have f15 : Fld Z h12 xa "com/example/careful_store/carefulstore/Lock" "gap" "Z" (.int p1) := f11.other W12 (Or.inr (slot_ne (Or.inr (hw _ (List.mem_of_getElem? (i := 22) rfl))) (Or.inr (hw _ (List.mem_of_getElem? (i := 24) rfl))) (by decide) (t := .boolean) (t' := .boolean) (by decide) (by decide)))
  have f16 : Fld Z h12 xa "com/example/careful_store/carefulstore/Lock" "insert" "Z" (.int p2) := f9.same W12
  have K12 : Keep h0 h12 [xa] := Keep.wr K7 W12 (Or.inl (List.mem_of_getElem? (i := 0) rfl))
  have Z12 : n0 ≤ h12.size := Nat.le_trans Z0 K12.1
  have N12 := Fr.snoc X12 N7 g_xa
  refine Goes.via (S' := (T12.setTop (mkF m 19 #[.val (.ref xa), .val vm, .val (.int p1), .val (.int p2)] []))) (fun t k => st12 _ k) ?_
  exact own_retV X12 hx Bd.notSynchronized Bd.returns (hb hby d2_19) e12 ⟨rfl, N12, K12, f13, f14, f15, f16⟩ (by decide) (by decide)
theorem d5_0 : decode prog_27_method_7_code 0 = .ok (.aload_n 0, 1) := by decide +kernel
theorem d5_1 : decode prog_27_method_7_code 1 = .ok (.getfield 13, 3) := by decide +kernel
theorem d5_4 : decode prog_27_method_7_code 4 = .ok (.ifCond .eq 9, 3) := by decide +kernel
theorem d5_7 : decode prog_27_method_7_code 7 = .ok (.getstatic 32, 3) := by decide +kernel
theorem d5_10 : decode prog_27_method_7_code 10 = .ok (.goto 4, 3) := by decide +kernel
theorem d5_14 : decode prog_27_method_7_code 14 = .ok (.areturn, 1) := by decide +kernel
theorem ef_5y (m : MethodId) (xa : Addr) : entryFrame m #[(.ref xa)] 1 = mkF m 0 #[.val (.ref xa)] [] := by first | (simp [entryFrame, mkF, argsToLocals, Value.category]; done) | rfl
def Q5y (Z : State) (xa : Addr) (xg : Addr) (h0 : Heap) (n0 : Nat) (v : Option Value) (h : Heap) (L : List Loc) : Prop := v = some (.ref xg) ∧ Fr n0 L ∧ h = h0
set_option maxRecDepth 65536 in
set_option maxHeartbeats 40000000 in
theorem rm5y (l : Launch) (Z : State) (a0 : Array Value) (hw : ∀ d ∈ tables_1, d.before a0 Z = true) (ws : List Jvm.Cond) (xa : Addr) (xg : Addr) (h0 : Heap) (n0 : Nat) (Z0 : n0 ≤ h0.size) (f0_xa_gap : Fld Z h0 xa "com/example/careful_store/carefulstore/Lock" "gap" "Z" (.int (1 : Int32))) (f1_GAP : Sta Z h0 "com/example/careful_store/carefulstore/Lock" "GAP" "Lcom/example/careful_store/carefulstore/Lock;" (.ref xg)) :
    MetFree l (⟨"com/example/careful_store/carefulstore/Lock", "gapPart", "()Lcom/example/careful_store/carefulstore/Lock;"⟩ : MethodName) (head1 (Jvm.Cond.code (⟨"com/example/careful_store/carefulstore/Lock", "gapPart", "()Lcom/example/careful_store/carefulstore/Lock;"⟩ : MethodName) prog_27_method_7_code 1 (some (.object "com/example/careful_store/carefulstore/Lock")) :: ws) ({ frames := 0, cells := 0, slots := 0, locals := 0 } : Room)) (fun a U => a = #[(.ref xa)] ∧ Z.Warmed39 U.vm ∧ U.heap = h0) (fun _ _ _ _ _ => True) (fun _ U o U' => ∃ v L, o = .returned v ∧ Q5y Z xa xg h0 n0 v U'.heap L ∧ FrameEnd U o U' L 0 0) := by
  refine MetFree.of_bodySF (plainFor_of_name pn_34) hisR ?_
  intro p e s m args below meth c s₁ Bd hml0 hP hK
  obtain ⟨rfl, hZ, hh⟩ := hP
  have hx := Bd.exec
  have hby := Bd.bytes
  have hml : c.maxLocals = 1 := hml0
  have hown : s.vm.findClass "com/example/careful_store/carefulstore/Lock" = some m.cls := findClass_of_methodNamed Bd.named
  have hnm := (name_of_methodNamed Bd.named Bd.method).1
  have X0 : Stand p l e ({ frames := 0, cells := 0, slots := 0, locals := 0 } : Room) s m #[(.ref xa)] below meth c s₁ [] 0 0 := Stand.of_body Bd
  have e0 : s₁.heap = h0 := by rw [← hh, Bd.state]; rfl
  have N0 := Fr.nil n0
  refine own_start (Q := fun v h L => Q5y Z xa xg h0 n0 v h L) ?_
  refine Goes.via (S' := (s₁.setTop (mkF m 0 #[.val (.ref xa)] []))) (fun t k => castTop (ef_5y m xa) k) ?_
  refine Goes.via (S' := (s₁.setTop (mkF m 1 #[.val (.ref xa)] [(.ref xa)]))) (fun t k => XS.aloadN X0.here hx rfl (hb hby d5_0) rfl rfl k) ?_
  obtain ⟨T1, X1, e1, st1⟩ := getF X0 hx hZ hown (host := "") (Or.inl (hw _ (List.mem_of_getElem? (i := 21) rfl))) Via.refl e0 f0_xa_gap (g := (mkF m 1 #[.val (.ref xa)] [(.ref xa)])) rfl rfl (hb hby d5_1)
  refine Goes.via (S' := (T1.setTop (mkF m 4 #[.val (.ref xa)] [(.int (1 : Int32))]))) (fun t k => st1 _ k) ?_
  refine Goes.via (S' := (T1.setTop (mkF m 7 #[.val (.ref xa)] []))) (fun t k => XS.ifNo X1.here hx rfl (hb hby d5_4) rfl ((if0 _ _).trans (feq (by decide : ¬ ((1 : Int32) = (0 : Int32)))).1) k) ?_
  obtain ⟨T2, X2, e2, st2⟩ := getS2 X1 hx hZ hown (host := "") (Or.inl (hw _ (List.mem_of_getElem? (i := 30) rfl))) Via.refl e1 f1_GAP (g := (mkF m 7 #[.val (.ref xa)] [])) rfl (hb hby d5_7)
  refine Goes.via (S' := (T2.setTop (mkF m 10 #[.val (.ref xa)] [(.ref xg)]))) (fun t k => st2 _ k) ?_
  refine Goes.via (S' := (T2.setTop (mkF m 14 #[.val (.ref xa)] [(.ref xg)]))) (fun t k => XS.goto X2.here hx rfl (pc0 := 10) (pc' := 14) rfl (hb hby d5_10) (by decide) (by decide) k) ?_
  exact own_ret X2 hx Bd.notSynchronized Bd.returns rfl (Or.inr (Or.inr (Or.inr (Or.inr ⟨rfl, rfl, rfl⟩)))) (hb hby d5_14) e2 ⟨rfl, N0, rfl⟩ (by decide) (by decide)
theorem d5_13 : decode prog_27_method_7_code 13 = .ok (.aconst_null, 1) := by decide +kernel
theorem ef_5n (m : MethodId) (xa : Addr) : entryFrame m #[(.ref xa)] 1 = mkF m 0 #[.val (.ref xa)] [] := by first | (simp [entryFrame, mkF, argsToLocals, Value.category]; done) | rfl
def Q5n (Z : State) (xa : Addr) (h0 : Heap) (n0 : Nat) (v : Option Value) (h : Heap) (L : List Loc) : Prop := v = some .null ∧ Fr n0 L ∧ h = h0
set_option maxRecDepth 65536 in
set_option maxHeartbeats 40000000 in
theorem rm5n (l : Launch) (Z : State) (a0 : Array Value) (hw : ∀ d ∈ tables_1, d.before a0 Z = true) (ws : List Jvm.Cond) (xa : Addr) (h0 : Heap) (n0 : Nat) (Z0 : n0 ≤ h0.size) (f0_xa_gap : Fld Z h0 xa "com/example/careful_store/carefulstore/Lock" "gap" "Z" (.int (0 : Int32))) :
    MetFree l (⟨"com/example/careful_store/carefulstore/Lock", "gapPart", "()Lcom/example/careful_store/carefulstore/Lock;"⟩ : MethodName) (head1 (Jvm.Cond.code (⟨"com/example/careful_store/carefulstore/Lock", "gapPart", "()Lcom/example/careful_store/carefulstore/Lock;"⟩ : MethodName) prog_27_method_7_code 1 (some (.object "com/example/careful_store/carefulstore/Lock")) :: ws) ({ frames := 0, cells := 0, slots := 0, locals := 0 } : Room)) (fun a U => a = #[(.ref xa)] ∧ Z.Warmed39 U.vm ∧ U.heap = h0) (fun _ _ _ _ _ => True) (fun _ U o U' => ∃ v L, o = .returned v ∧ Q5n Z xa h0 n0 v U'.heap L ∧ FrameEnd U o U' L 0 0) := by
  refine MetFree.of_bodySF (plainFor_of_name pn_34) hisR ?_
  intro p e s m args below meth c s₁ Bd hml0 hP hK
  obtain ⟨rfl, hZ, hh⟩ := hP
  have hx := Bd.exec
  have hby := Bd.bytes
  have hml : c.maxLocals = 1 := hml0
  have hown : s.vm.findClass "com/example/careful_store/carefulstore/Lock" = some m.cls := findClass_of_methodNamed Bd.named
  have hnm := (name_of_methodNamed Bd.named Bd.method).1
  have X0 : Stand p l e ({ frames := 0, cells := 0, slots := 0, locals := 0 } : Room) s m #[(.ref xa)] below meth c s₁ [] 0 0 := Stand.of_body Bd
  have e0 : s₁.heap = h0 := by rw [← hh, Bd.state]; rfl
  have N0 := Fr.nil n0
  refine own_start (Q := fun v h L => Q5n Z xa h0 n0 v h L) ?_
  refine Goes.via (S' := (s₁.setTop (mkF m 0 #[.val (.ref xa)] []))) (fun t k => castTop (ef_5n m xa) k) ?_
  refine Goes.via (S' := (s₁.setTop (mkF m 1 #[.val (.ref xa)] [(.ref xa)]))) (fun t k => XS.aloadN X0.here hx rfl (hb hby d5_0) rfl rfl k) ?_
  obtain ⟨T1, X1, e1, st1⟩ := getF X0 hx hZ hown (host := "") (Or.inl (hw _ (List.mem_of_getElem? (i := 21) rfl))) Via.refl e0 f0_xa_gap (g := (mkF m 1 #[.val (.ref xa)] [(.ref xa)])) rfl rfl (hb hby d5_1)
  refine Goes.via (S' := (T1.setTop (mkF m 4 #[.val (.ref xa)] [(.int (0 : Int32))]))) (fun t k => st1 _ k) ?_
  refine Goes.via (S' := (T1.setTop (mkF m 13 #[.val (.ref xa)] []))) (fun t k => XS.ifYes X1.here hx rfl (pc0 := 4) (pc' := 13) rfl (hb hby d5_4) rfl ((if0 _ _).trans (teq rfl).1) (by decide) (by decide) k) ?_
  refine Goes.via (S' := (T1.setTop (mkF m 14 #[.val (.ref xa)] [.null]))) (fun t k => XS.aconstNull X1.here hx rfl (hb hby d5_13) k) ?_
  exact own_ret X1 hx Bd.notSynchronized Bd.returns rfl (Or.inr (Or.inr (Or.inr (Or.inr ⟨rfl, rfl, rfl⟩)))) (hb hby d5_14) e1 ⟨rfl, N0, rfl⟩ (by decide) (by decide)
theorem d6_0 : decode prog_27_method_11_code 0 = .ok (.aload_n 0, 1) := by decide +kernel
theorem d6_1 : decode prog_27_method_11_code 1 = .ok (.getfield 7, 3) := by decide +kernel
theorem d6_4 : decode prog_27_method_11_code 4 = .ok (.areturn, 1) := by decide +kernel
theorem ef_6 (m : MethodId) (xa : Addr) : entryFrame m #[(.ref xa)] 1 = mkF m 0 #[.val (.ref xa)] [] := by first | (simp [entryFrame, mkF, argsToLocals, Value.category]; done) | rfl
def Q6 (Z : State) (xa : Addr) (h0 : Heap) (n0 : Nat) (v : Option Value) (h : Heap) (L : List Loc) : Prop := v = some .null ∧ Fr n0 L ∧ h = h0
set_option maxRecDepth 65536 in
set_option maxHeartbeats 40000000 in
theorem rm6 (l : Launch) (Z : State) (a0 : Array Value) (hw : ∀ d ∈ tables_1, d.before a0 Z = true) (ws : List Jvm.Cond) (xa : Addr) (h0 : Heap) (n0 : Nat) (Z0 : n0 ≤ h0.size) (f0_xa_mode : Fld Z h0 xa "com/example/careful_store/carefulstore/Lock" "mode" "Lcom/example/careful_store/carefulstore/LockMode;" .null) :
    MetFree l (⟨"com/example/careful_store/carefulstore/Lock", "mode", "()Lcom/example/careful_store/carefulstore/LockMode;"⟩ : MethodName) (head1 (Jvm.Cond.code (⟨"com/example/careful_store/carefulstore/Lock", "mode", "()Lcom/example/careful_store/carefulstore/LockMode;"⟩ : MethodName) prog_27_method_11_code 1 (some (.object "com/example/careful_store/carefulstore/LockMode")) :: ws) ({ frames := 0, cells := 0, slots := 0, locals := 0 } : Room)) (fun a U => a = #[(.ref xa)] ∧ Z.Warmed39 U.vm ∧ U.heap = h0) (fun _ _ _ _ _ => True) (fun _ U o U' => ∃ v L, o = .returned v ∧ Q6 Z xa h0 n0 v U'.heap L ∧ FrameEnd U o U' L 0 0) := by
  refine MetFree.of_bodySF (plainFor_of_name pn_34) hisR ?_
  intro p e s m args below meth c s₁ Bd hml0 hP hK
  obtain ⟨rfl, hZ, hh⟩ := hP
  have hx := Bd.exec
  have hby := Bd.bytes
  have hml : c.maxLocals = 1 := hml0
  have hown : s.vm.findClass "com/example/careful_store/carefulstore/Lock" = some m.cls := findClass_of_methodNamed Bd.named
  have hnm := (name_of_methodNamed Bd.named Bd.method).1
  have X0 : Stand p l e ({ frames := 0, cells := 0, slots := 0, locals := 0 } : Room) s m #[(.ref xa)] below meth c s₁ [] 0 0 := Stand.of_body Bd
  have e0 : s₁.heap = h0 := by rw [← hh, Bd.state]; rfl
  have N0 := Fr.nil n0
  refine own_start (Q := fun v h L => Q6 Z xa h0 n0 v h L) ?_
  refine Goes.via (S' := (s₁.setTop (mkF m 0 #[.val (.ref xa)] []))) (fun t k => castTop (ef_6 m xa) k) ?_
  refine Goes.via (S' := (s₁.setTop (mkF m 1 #[.val (.ref xa)] [(.ref xa)]))) (fun t k => XS.aloadN X0.here hx rfl (hb hby d6_0) rfl rfl k) ?_
  obtain ⟨T1, X1, e1, st1⟩ := getF X0 hx hZ hown (host := "") (Or.inl (hw _ (List.mem_of_getElem? (i := 19) rfl))) Via.refl e0 f0_xa_mode (g := (mkF m 1 #[.val (.ref xa)] [(.ref xa)])) rfl rfl (hb hby d6_1)
  refine Goes.via (S' := (T1.setTop (mkF m 4 #[.val (.ref xa)] [.null]))) (fun t k => st1 _ k) ?_
  exact own_ret X1 hx Bd.notSynchronized Bd.returns rfl (Or.inr (Or.inr (Or.inr (Or.inr ⟨rfl, rfl, rfl⟩)))) (hb hby d6_4) e1 ⟨rfl, N0, rfl⟩ (by decide) (by decide)
theorem d7_0 : decode prog_27_method_12_code 0 = .ok (.aload_n 0, 1) := by decide +kernel
theorem d7_1 : decode prog_27_method_12_code 1 = .ok (.getfield 13, 3) := by decide +kernel
theorem d7_4 : decode prog_27_method_12_code 4 = .ok (.ireturn, 1) := by decide +kernel
theorem ef_7 (m : MethodId) (xa : Addr) : entryFrame m #[(.ref xa)] 1 = mkF m 0 #[.val (.ref xa)] [] := by first | (simp [entryFrame, mkF, argsToLocals, Value.category]; done) | rfl
def Q7 (Z : State) (xa : Addr) (h0 : Heap) (n0 : Nat) (v : Option Value) (h : Heap) (L : List Loc) : Prop := v = some (.int (1 : Int32)) ∧ Fr n0 L ∧ h = h0
set_option maxRecDepth 65536 in
set_option maxHeartbeats 40000000 in
theorem rm7 (l : Launch) (Z : State) (a0 : Array Value) (hw : ∀ d ∈ tables_1, d.before a0 Z = true) (ws : List Jvm.Cond) (xa : Addr) (h0 : Heap) (n0 : Nat) (Z0 : n0 ≤ h0.size) (f0_xa_gap : Fld Z h0 xa "com/example/careful_store/carefulstore/Lock" "gap" "Z" (.int (1 : Int32))) :
    MetFree l (⟨"com/example/careful_store/carefulstore/Lock", "gap", "()Z"⟩ : MethodName) (head1 (Jvm.Cond.code (⟨"com/example/careful_store/carefulstore/Lock", "gap", "()Z"⟩ : MethodName) prog_27_method_12_code 1 (some .boolean) :: ws) ({ frames := 0, cells := 0, slots := 0, locals := 0 } : Room)) (fun a U => a = #[(.ref xa)] ∧ Z.Warmed39 U.vm ∧ U.heap = h0) (fun _ _ _ _ _ => True) (fun _ U o U' => ∃ v L, o = .returned v ∧ Q7 Z xa h0 n0 v U'.heap L ∧ FrameEnd U o U' L 0 0) := by
  refine MetFree.of_bodySF (plainFor_of_name pn_34) hisR ?_
  intro p e s m args below meth c s₁ Bd hml0 hP hK
  obtain ⟨rfl, hZ, hh⟩ := hP
  have hx := Bd.exec
  have hby := Bd.bytes
  have hml : c.maxLocals = 1 := hml0
  have hown : s.vm.findClass "com/example/careful_store/carefulstore/Lock" = some m.cls := findClass_of_methodNamed Bd.named
  have hnm := (name_of_methodNamed Bd.named Bd.method).1
  have X0 : Stand p l e ({ frames := 0, cells := 0, slots := 0, locals := 0 } : Room) s m #[(.ref xa)] below meth c s₁ [] 0 0 := Stand.of_body Bd
  have e0 : s₁.heap = h0 := by rw [← hh, Bd.state]; rfl
  have N0 := Fr.nil n0
  refine own_start (Q := fun v h L => Q7 Z xa h0 n0 v h L) ?_
  refine Goes.via (S' := (s₁.setTop (mkF m 0 #[.val (.ref xa)] []))) (fun t k => castTop (ef_7 m xa) k) ?_
  refine Goes.via (S' := (s₁.setTop (mkF m 1 #[.val (.ref xa)] [(.ref xa)]))) (fun t k => XS.aloadN X0.here hx rfl (hb hby d7_0) rfl rfl k) ?_
  obtain ⟨T1, X1, e1, st1⟩ := getF X0 hx hZ hown (host := "") (Or.inl (hw _ (List.mem_of_getElem? (i := 21) rfl))) Via.refl e0 f0_xa_gap (g := (mkF m 1 #[.val (.ref xa)] [(.ref xa)])) rfl rfl (hb hby d7_1)
  refine Goes.via (S' := (T1.setTop (mkF m 4 #[.val (.ref xa)] [(.int (1 : Int32))]))) (fun t k => st1 _ k) ?_
  exact own_ret X1 hx Bd.notSynchronized Bd.returns rfl (Or.inl ⟨rfl, by simp, _, rfl⟩) (hb hby d7_4) e1 ⟨rfl, N0, rfl⟩ (by decide) (by decide)
theorem d8_0 : decode prog_27_method_13_code 0 = .ok (.aload_n 0, 1) := by decide +kernel
theorem d8_1 : decode prog_27_method_13_code 1 = .ok (.getfield 17, 3) := by decide +kernel
theorem d8_4 : decode prog_27_method_13_code 4 = .ok (.ireturn, 1) := by decide +kernel
theorem ef_8 (m : MethodId) (xa : Addr) : entryFrame m #[(.ref xa)] 1 = mkF m 0 #[.val (.ref xa)] [] := by first | (simp [entryFrame, mkF, argsToLocals, Value.category]; done) | rfl
def Q8 (Z : State) (xa : Addr) (h0 : Heap) (n0 : Nat) (v : Option Value) (h : Heap) (L : List Loc) : Prop := v = some (.int (0 : Int32)) ∧ Fr n0 L ∧ h = h0
set_option maxRecDepth 65536 in
set_option maxHeartbeats 40000000 in
theorem rm8 (l : Launch) (Z : State) (a0 : Array Value) (hw : ∀ d ∈ tables_1, d.before a0 Z = true) (ws : List Jvm.Cond) (xa : Addr) (h0 : Heap) (n0 : Nat) (Z0 : n0 ≤ h0.size) (f0_xa_insert : Fld Z h0 xa "com/example/careful_store/carefulstore/Lock" "insert" "Z" (.int (0 : Int32))) :
    MetFree l (⟨"com/example/careful_store/carefulstore/Lock", "insert", "()Z"⟩ : MethodName) (head1 (Jvm.Cond.code (⟨"com/example/careful_store/carefulstore/Lock", "insert", "()Z"⟩ : MethodName) prog_27_method_13_code 1 (some .boolean) :: ws) ({ frames := 0, cells := 0, slots := 0, locals := 0 } : Room)) (fun a U => a = #[(.ref xa)] ∧ Z.Warmed39 U.vm ∧ U.heap = h0) (fun _ _ _ _ _ => True) (fun _ U o U' => ∃ v L, o = .returned v ∧ Q8 Z xa h0 n0 v U'.heap L ∧ FrameEnd U o U' L 0 0) := by
  refine MetFree.of_bodySF (plainFor_of_name pn_34) hisR ?_
  intro p e s m args below meth c s₁ Bd hml0 hP hK
  obtain ⟨rfl, hZ, hh⟩ := hP
  have hx := Bd.exec
  have hby := Bd.bytes
  have hml : c.maxLocals = 1 := hml0
  have hown : s.vm.findClass "com/example/careful_store/carefulstore/Lock" = some m.cls := findClass_of_methodNamed Bd.named
  have hnm := (name_of_methodNamed Bd.named Bd.method).1
  have X0 : Stand p l e ({ frames := 0, cells := 0, slots := 0, locals := 0 } : Room) s m #[(.ref xa)] below meth c s₁ [] 0 0 := Stand.of_body Bd
  have e0 : s₁.heap = h0 := by rw [← hh, Bd.state]; rfl
  have N0 := Fr.nil n0
  refine own_start (Q := fun v h L => Q8 Z xa h0 n0 v h L) ?_
  refine Goes.via (S' := (s₁.setTop (mkF m 0 #[.val (.ref xa)] []))) (fun t k => castTop (ef_8 m xa) k) ?_
  refine Goes.via (S' := (s₁.setTop (mkF m 1 #[.val (.ref xa)] [(.ref xa)]))) (fun t k => XS.aloadN X0.here hx rfl (hb hby d8_0) rfl rfl k) ?_
  obtain ⟨T1, X1, e1, st1⟩ := getF X0 hx hZ hown (host := "") (Or.inl (hw _ (List.mem_of_getElem? (i := 23) rfl))) Via.refl e0 f0_xa_insert (g := (mkF m 1 #[.val (.ref xa)] [(.ref xa)])) rfl rfl (hb hby d8_1)
  refine Goes.via (S' := (T1.setTop (mkF m 4 #[.val (.ref xa)] [(.int (0 : Int32))]))) (fun t k => st1 _ k) ?_
  exact own_ret X1 hx Bd.notSynchronized Bd.returns rfl (Or.inl ⟨rfl, by simp, _, rfl⟩) (hb hby d8_4) e1 ⟨rfl, N0, rfl⟩ (by decide) (by decide)
theorem d9_0 : decode prog_27_method_5_code 0 = .ok (.aload_n 1, 1) := by decide +kernel
theorem d9_1 : decode prog_27_method_5_code 1 = .ok (.getfield 7, 3) := by decide +kernel
theorem d9_4 : decode prog_27_method_5_code 4 = .ok (.ifnull 24, 3) := by decide +kernel
theorem d9_28 : decode prog_27_method_5_code 28 = .ok (.iconst 1, 1) := by decide +kernel
theorem d9_29 : decode prog_27_method_5_code 29 = .ok (.goto 4, 3) := by decide +kernel
theorem d9_33 : decode prog_27_method_5_code 33 = .ok (.istore_n 2, 1) := by decide +kernel
theorem d9_34 : decode prog_27_method_5_code 34 = .ok (.aload_n 1, 1) := by decide +kernel
theorem d9_35 : decode prog_27_method_5_code 35 = .ok (.getfield 17, 3) := by decide +kernel
theorem d9_38 : decode prog_27_method_5_code 38 = .ok (.ifCond .ne 25, 3) := by decide +kernel
theorem d9_41 : decode prog_27_method_5_code 41 = .ok (.iload_n 2, 1) := by decide +kernel
theorem d9_42 : decode prog_27_method_5_code 42 = .ok (.ifCond .eq 21, 3) := by decide +kernel
theorem d9_45 : decode prog_27_method_5_code 45 = .ok (.aload_n 0, 1) := by decide +kernel
theorem d9_46 : decode prog_27_method_5_code 46 = .ok (.getfield 13, 3) := by decide +kernel
theorem d9_49 : decode prog_27_method_5_code 49 = .ok (.ifCond .ne 10, 3) := by decide +kernel
theorem d9_59 : decode prog_27_method_5_code 59 = .ok (.iconst 1, 1) := by decide +kernel
theorem d9_60 : decode prog_27_method_5_code 60 = .ok (.goto 4, 3) := by decide +kernel
theorem d9_64 : decode prog_27_method_5_code 64 = .ok (.ireturn, 1) := by decide +kernel
theorem ef_9 (m : MethodId) (xa : Addr) (xb : Addr) : entryFrame m #[(.ref xa), (.ref xb)] 3 = mkF m 0 #[.val (.ref xa), .val (.ref xb), .unset] [] := by first | (simp [entryFrame, mkF, argsToLocals, Value.category]; done) | rfl
def Q9 (Z : State) (xa : Addr) (xb : Addr) (h0 : Heap) (n0 : Nat) (v : Option Value) (h : Heap) (L : List Loc) : Prop := v = some (.int (1 : Int32)) ∧ Fr n0 L ∧ h = h0
set_option maxRecDepth 65536 in
set_option maxHeartbeats 40000000 in
theorem rm9 (l : Launch) (Z : State) (a0 : Array Value) (hw : ∀ d ∈ tables_1, d.before a0 Z = true) (ws : List Jvm.Cond) (xa : Addr) (xb : Addr) (h0 : Heap) (n0 : Nat) (Z0 : n0 ≤ h0.size) (f0_xb_mode : Fld Z h0 xb "com/example/careful_store/carefulstore/Lock" "mode" "Lcom/example/careful_store/carefulstore/LockMode;" .null) (f1_xb_insert : Fld Z h0 xb "com/example/careful_store/carefulstore/Lock" "insert" "Z" (.int (0 : Int32))) (f2_xa_gap : Fld Z h0 xa "com/example/careful_store/carefulstore/Lock" "gap" "Z" (.int (1 : Int32))) :
    MetFree l (⟨"com/example/careful_store/carefulstore/Lock", "covers", "(Lcom/example/careful_store/carefulstore/Lock;)Z"⟩ : MethodName) (head1 (Jvm.Cond.code (⟨"com/example/careful_store/carefulstore/Lock", "covers", "(Lcom/example/careful_store/carefulstore/Lock;)Z"⟩ : MethodName) prog_27_method_5_code 3 (some .boolean) :: ws) ({ frames := 0, cells := 0, slots := 0, locals := 0 } : Room)) (fun a U => a = #[(.ref xa), (.ref xb)] ∧ Z.Warmed39 U.vm ∧ U.heap = h0) (fun _ _ _ _ _ => True) (fun _ U o U' => ∃ v L, o = .returned v ∧ Q9 Z xa xb h0 n0 v U'.heap L ∧ FrameEnd U o U' L 0 0) := by
  refine MetFree.of_bodySF (plainFor_of_name pn_34) hisR ?_
  intro p e s m args below meth c s₁ Bd hml0 hP hK
  obtain ⟨rfl, hZ, hh⟩ := hP
  have hx := Bd.exec
  have hby := Bd.bytes
  have hml : c.maxLocals = 3 := hml0
  have hown : s.vm.findClass "com/example/careful_store/carefulstore/Lock" = some m.cls := findClass_of_methodNamed Bd.named
  have hnm := (name_of_methodNamed Bd.named Bd.method).1
  have X0 : Stand p l e ({ frames := 0, cells := 0, slots := 0, locals := 0 } : Room) s m #[(.ref xa), (.ref xb)] below meth c s₁ [] 0 0 := Stand.of_body Bd
  have e0 : s₁.heap = h0 := by rw [← hh, Bd.state]; rfl
  have N0 := Fr.nil n0
  refine own_start (Q := fun v h L => Q9 Z xa xb h0 n0 v h L) ?_
  refine Goes.via (S' := (s₁.setTop (mkF m 0 #[.val (.ref xa), .val (.ref xb), .unset] []))) (fun t k => castTop (ef_9 m xa xb) k) ?_
  refine Goes.via (S' := (s₁.setTop (mkF m 1 #[.val (.ref xa), .val (.ref xb), .unset] [(.ref xb)]))) (fun t k => XS.aloadN X0.here hx rfl (hb hby d9_0) rfl rfl k) ?_
  obtain ⟨T1, X1, e1, st1⟩ := getF X0 hx hZ hown (host := "") (Or.inl (hw _ (List.mem_of_getElem? (i := 19) rfl))) Via.refl e0 f0_xb_mode (g := (mkF m 1 #[.val (.ref xa), .val (.ref xb), .unset] [(.ref xb)])) rfl rfl (hb hby d9_1)
  refine Goes.via (S' := (T1.setTop (mkF m 4 #[.val (.ref xa), .val (.ref xb), .unset] [.null]))) (fun t k => st1 _ k) ?_
  refine Goes.via (S' := (T1.setTop (mkF m 28 #[.val (.ref xa), .val (.ref xb), .unset] []))) (fun t k => XS.ifnullYes X1.here hx rfl (pc0 := 4) (pc' := 28) rfl (hb hby d9_4) rfl (by decide) (by decide) k) ?_
  refine Goes.via (S' := (T1.setTop (mkF m 29 #[.val (.ref xa), .val (.ref xb), .unset] [(.int (1 : Int32))]))) (fun t k => XS.iconst X1.here hx rfl (hb hby d9_28) k) ?_
  refine Goes.via (S' := (T1.setTop (mkF m 33 #[.val (.ref xa), .val (.ref xb), .unset] [(.int (1 : Int32))]))) (fun t k => XS.goto X1.here hx rfl (pc0 := 29) (pc' := 33) rfl (hb hby d9_29) (by decide) (by decide) k) ?_
  refine Goes.via (S' := (T1.setTop (mkF m 34 #[.val (.ref xa), .val (.ref xb), .val (.int (1 : Int32))] []))) (fun t k => XS.istoreN X1.here hx rfl (hb hby d9_33) rfl (l' := #[.val (.ref xa), .val (.ref xb), .val (.int (1 : Int32))]) rfl k) ?_
  refine Goes.via (S' := (T1.setTop (mkF m 35 #[.val (.ref xa), .val (.ref xb), .val (.int (1 : Int32))] [(.ref xb)]))) (fun t k => XS.aloadN X1.here hx rfl (hb hby d9_34) rfl rfl k) ?_
  obtain ⟨T2, X2, e2, st2⟩ := getF X1 hx hZ hown (host := "") (Or.inl (hw _ (List.mem_of_getElem? (i := 23) rfl))) Via.refl e1 f1_xb_insert (g := (mkF m 35 #[.val (.ref xa), .val (.ref xb), .val (.int (1 : Int32))] [(.ref xb)])) rfl rfl (hb hby d9_35)
  refine Goes.via (S' := (T2.setTop (mkF m 38 #[.val (.ref xa), .val (.ref xb), .val (.int (1 : Int32))] [(.int (0 : Int32))]))) (fun t k => st2 _ k) ?_
  refine Goes.via (S' := (T2.setTop (mkF m 41 #[.val (.ref xa), .val (.ref xb), .val (.int (1 : Int32))] []))) (fun t k => XS.ifNo X2.here hx rfl (hb hby d9_38) rfl ((if0 _ _).trans (teq rfl).2) k) ?_
  refine Goes.via (S' := (T2.setTop (mkF m 42 #[.val (.ref xa), .val (.ref xb), .val (.int (1 : Int32))] [(.int (1 : Int32))]))) (fun t k => XS.iloadN X2.here hx rfl (hb hby d9_41) rfl k) ?_
  refine Goes.via (S' := (T2.setTop (mkF m 45 #[.val (.ref xa), .val (.ref xb), .val (.int (1 : Int32))] []))) (fun t k => XS.ifNo X2.here hx rfl (hb hby d9_42) rfl ((if0 _ _).trans (feq (by decide : ¬ ((1 : Int32) = (0 : Int32)))).1) k) ?_
  refine Goes.via (S' := (T2.setTop (mkF m 46 #[.val (.ref xa), .val (.ref xb), .val (.int (1 : Int32))] [(.ref xa)]))) (fun t k => XS.aloadN X2.here hx rfl (hb hby d9_45) rfl rfl k) ?_
  obtain ⟨T3, X3, e3, st3⟩ := getF X2 hx hZ hown (host := "") (Or.inl (hw _ (List.mem_of_getElem? (i := 21) rfl))) Via.refl e2 f2_xa_gap (g := (mkF m 46 #[.val (.ref xa), .val (.ref xb), .val (.int (1 : Int32))] [(.ref xa)])) rfl rfl (hb hby d9_46)
  refine Goes.via (S' := (T3.setTop (mkF m 49 #[.val (.ref xa), .val (.ref xb), .val (.int (1 : Int32))] [(.int (1 : Int32))]))) (fun t k => st3 _ k) ?_
  refine Goes.via (S' := (T3.setTop (mkF m 59 #[.val (.ref xa), .val (.ref xb), .val (.int (1 : Int32))] []))) (fun t k => XS.ifYes X3.here hx rfl (pc0 := 49) (pc' := 59) rfl (hb hby d9_49) rfl ((if0 _ _).trans (feq (by decide : ¬ ((1 : Int32) = (0 : Int32)))).2) (by decide) (by decide) k) ?_
  refine Goes.via (S' := (T3.setTop (mkF m 60 #[.val (.ref xa), .val (.ref xb), .val (.int (1 : Int32))] [(.int (1 : Int32))]))) (fun t k => XS.iconst X3.here hx rfl (hb hby d9_59) k) ?_
  refine Goes.via (S' := (T3.setTop (mkF m 64 #[.val (.ref xa), .val (.ref xb), .val (.int (1 : Int32))] [(.int (1 : Int32))]))) (fun t k => XS.goto X3.here hx rfl (pc0 := 60) (pc' := 64) rfl (hb hby d9_60) (by decide) (by decide) k) ?_
  exact own_ret X3 hx Bd.notSynchronized Bd.returns rfl (Or.inl ⟨rfl, by simp, _, rfl⟩) (hb hby d9_64) e3 ⟨rfl, N0, rfl⟩ (by decide) (by decide)
theorem ef_0 (m : MethodId) (p0 : Int32) (p1 : Int32) : entryFrame m #[(.int p0), (.int p1)] maxLocals = mkF m 0 #[.val (.int p0), .val (.int p1), .unset, .unset, .unset, .unset, .unset] [] := by first | (simp [entryFrame, mkF, argsToLocals, Value.category, maxLocals]; done) | rfl
def Q0 (Z : State) (p0 : Int32) (p1 : Int32) (xs : Addr) (xe : Addr) (xg : Addr) (h0 : Heap) (n0 : Nat) (v : Option Value) (h : Heap) (L : List Loc) : Prop := v = some (.int 1) ∧ Fr n0 L
set_option maxRecDepth 65536 in
set_option maxHeartbeats 40000000 in
theorem rm0 (l : Launch) (Z : State) (a0 : Array Value) (hw : ∀ d ∈ tables_1, d.before a0 Z = true) (ws : List Jvm.Cond) (p0 : Int32) (p1 : Int32) (xs : Addr) (xe : Addr) (xg : Addr) (h0 : Heap) (n0 : Nat) (Z0 : n0 ≤ h0.size) (f0_SHARE : Sta Z h0 "com/example/careful_store/carefulstore/LockMode" "SHARE" "Lcom/example/careful_store/carefulstore/LockMode;" (.ref xs)) (f1_EXCLUSIVE : Sta Z h0 "com/example/careful_store/carefulstore/LockMode" "EXCLUSIVE" "Lcom/example/careful_store/carefulstore/LockMode;" (.ref xe)) (f2_GAP : Sta Z h0 "com/example/careful_store/carefulstore/Lock" "GAP" "Lcom/example/careful_store/carefulstore/Lock;" (.ref xg)) (f3_xg : Exa Z h0 xg "com/example/careful_store/carefulstore/Lock") (f4_xg_mode : Fld Z h0 xg "com/example/careful_store/carefulstore/Lock" "mode" "Lcom/example/careful_store/carefulstore/LockMode;" .null) (f5_xg_gap : Fld Z h0 xg "com/example/careful_store/carefulstore/Lock" "gap" "Z" (.int (1 : Int32))) (f6_xg_insert : Fld Z h0 xg "com/example/careful_store/carefulstore/Lock" "insert" "Z" (.int (0 : Int32))) :
    MetFree l x (head1 (Jvm.Cond.code x code maxLocals ret :: ws) room_1) (fun a U => a = #[(.int p0), (.int p1)] ∧ Z.Warmed39 U.vm ∧ U.heap = h0) (fun _ _ _ _ _ => True) (fun _ U o U' => ∃ v L, o = .returned v ∧ Q0 Z p0 p1 xs xe xg h0 n0 v U'.heap L ∧ FrameEnd U o U' L 16 128) := by
  refine MetFree.of_bodySF (plainFor_of_name pn_21) hisR ?_
  intro p e s m args below meth c s₁ Bd hml0 hP hK
  obtain ⟨rfl, hZ, hh⟩ := hP
  have hx := Bd.exec
  have hby := Bd.bytes
  have hml : c.maxLocals = 7 := hml0
  have hown : s.vm.findClass "com/example/careful_store/carefulstore/LockGapPartPinLaw" = some m.cls := findClass_of_methodNamed Bd.named
  have hnm := (name_of_methodNamed Bd.named Bd.method).1
  have X0 : Stand p l e room_1 s m #[(.int p0), (.int p1)] below meth c s₁ [] 0 0 := Stand.of_body Bd
  have e0 : s₁.heap = h0 := by rw [← hh, Bd.state]; rfl
  have N0 := Fr.nil n0
  refine own_start (Q := fun v h L => Q0 Z p0 p1 xs xe xg h0 n0 v h L) ?_
  refine Goes.via (S' := (s₁.setTop (mkF m 0 #[.val (.int p0), .val (.int p1), .unset, .unset, .unset, .unset, .unset] []))) (fun t k => castTop (ef_0 m p0 p1) k) ?_
  refine Goes.via (S' := (s₁.setTop (mkF m 1 #[.val (.int p0), .val (.int p1), .unset, .unset, .unset, .unset, .unset] [(.int p0)]))) (fun t k => XS.iloadN X0.here hx rfl (hb hby at_0) rfl k) ?_
  obtain ⟨_, _, ⟨T1, L1, k1, n1⟩, -, X1, ⟨Lc1, hQ1, l1, y1, z1⟩, st1⟩ := Jvm.LawKit.callS X0 hx (y := (⟨"com/example/careful_store/carefulstore/LockGapPartPinLaw", "modeOf", "(I)Lcom/example/careful_store/carefulstore/LockMode;"⟩ : MethodName)) hown (mvT hZ (hw _ (List.mem_of_getElem? (i := 0) rfl))) (mvT hZ (hw _ (List.mem_of_getElem? (i := 1) rfl))) (mvT hZ (hw _ (List.mem_of_getElem? (i := 2) rfl))) (mvT hZ (hw _ (List.mem_of_getElem? (i := 3) rfl))) (by decide) (backOf (W := 0) (rm1 l Z a0 hw [] p0 xs xe h0 n0 Z0 f0_SHARE f1_EXCLUSIVE) hZ (hw _ (List.mem_of_getElem? (i := 3) rfl)) (hw _ (List.mem_of_getElem? (i := 2) rfl)) (by decide) (by decide)) (g := (mkF m 1 #[.val (.int p0), .val (.int p1), .unset, .unset, .unset, .unset, .unset] [(.int p0)])) rfl (by rw [hml]; rfl) (argsL := [(.int p0)]) (rest := []) (lenOf pd_1 rfl) rfl (by show 2 * 0 + _ ≤ _; exact Nat.le_of_eq rfl) (hb hby at_1) (fun _ _ => ⟨rfl, e0, (by decide : 0 + 0 ≤ _), (by decide : 0 + 0 ≤ _)⟩)
  dsimp only [Pt.U, Pt.locs, Pt.cells, Pt.slots] at X1 l1 y1 z1 st1 hQ1
  subst l1 y1 z1
  obtain ⟨r1, rfl, hr_r1, N1q, eq1⟩ := hQ1
  have N1 := Fr.app N0 N1q
  refine Goes.via (S' := (T1.setTop (mkF m 4 #[.val (.int p0), .val (.int p1), .unset, .unset, .unset, .unset, .unset] [r1]))) (fun t k => st1 _ k) ?_
  refine Goes.via (S' := (T1.setTop (mkF m 5 #[.val (.int p0), .val (.int p1), .val r1, .unset, .unset, .unset, .unset] []))) (fun t k => XS.astoreN X1.here hx rfl (hb hby at_4) rfl hr_r1 (l' := #[.val (.int p0), .val (.int p1), .val r1, .unset, .unset, .unset, .unset]) (by rcases ref_cases hr_r1 with q | ⟨_, q⟩ <;> rw [q] <;> rfl) k) ?_
  refine Goes.via (S' := (T1.setTop (mkF m 6 #[.val (.int p0), .val (.int p1), .val r1, .unset, .unset, .unset, .unset] [(.int p1)]))) (fun t k => XS.iloadN X1.here hx rfl (hb hby at_5) rfl k) ?_
  refine Goes.via (S' := (T1.setTop (mkF m 7 #[.val (.int p0), .val (.int p1), .val r1, .unset, .unset, .unset, .unset] [(.int (1 : Int32)), (.int p1)]))) (fun t k => XS.iconst X1.here hx rfl (hb hby at_6) k) ?_
  refine Goes.via (S' := (T1.setTop (mkF m 8 #[.val (.int p0), .val (.int p1), .val r1, .unset, .unset, .unset, .unset] [(.int (p1 &&& (1 : Int32)))]))) (fun t k => XS.iand X1.here hx rfl (hb hby at_7) rfl k) ?_
  by_cases hc2 : ((p1 &&& (1 : Int32)) = (0 : Int32))
  · refine Goes.via (S' := (T1.setTop (mkF m 15 #[.val (.int p0), .val (.int p1), .val r1, .unset, .unset, .unset, .unset] []))) (fun t k => XS.ifYes X1.here hx rfl (pc0 := 8) (pc' := 15) rfl (hb hby at_8) rfl ((if0 _ _).trans (teq hc2).1) (by decide) (by decide) k) ?_
    refine Goes.via (S' := (T1.setTop (mkF m 16 #[.val (.int p0), .val (.int p1), .val r1, .unset, .unset, .unset, .unset] [(.int (0 : Int32))]))) (fun t k => XS.iconst X1.here hx rfl (hb hby at_15) k) ?_
    refine Goes.via (S' := (T1.setTop (mkF m 17 #[.val (.int p0), .val (.int p1), .val r1, .val (.int (0 : Int32)), .unset, .unset, .unset] []))) (fun t k => XS.istoreN X1.here hx rfl (hb hby at_16) rfl (l' := #[.val (.int p0), .val (.int p1), .val r1, .val (.int (0 : Int32)), .unset, .unset, .unset]) rfl k) ?_
    refine Goes.via (S' := (T1.setTop (mkF m 18 #[.val (.int p0), .val (.int p1), .val r1, .val (.int (0 : Int32)), .unset, .unset, .unset] [(.int p1)]))) (fun t k => XS.iloadN X1.here hx rfl (hb hby at_17) rfl k) ?_
    refine Goes.via (S' := (T1.setTop (mkF m 19 #[.val (.int p0), .val (.int p1), .val r1, .val (.int (0 : Int32)), .unset, .unset, .unset] [(.int (2 : Int32)), (.int p1)]))) (fun t k => XS.iconst X1.here hx rfl (hb hby at_18) k) ?_
    refine Goes.via (S' := (T1.setTop (mkF m 20 #[.val (.int p0), .val (.int p1), .val r1, .val (.int (0 : Int32)), .unset, .unset, .unset] [(.int (p1 &&& (2 : Int32)))]))) (fun t k => XS.iand X1.here hx rfl (hb hby at_19) rfl k) ?_
    obtain ⟨v4, hv4⟩ : ∃ z : Int32, z = (if (¬ ((p1 &&& (2 : Int32)) = (0 : Int32))) then (1 : Int32) else 0) := ⟨_, rfl⟩
    refine Goes.via (S' := (T1.setTop (mkF m 28 #[.val (.int p0), .val (.int p1), .val r1, .val (.int (0 : Int32)), .unset, .unset, .unset] [(.int v4)]))) (fun t k => ?_) ?_
    · by_cases hc3 : ((p1 &&& (2 : Int32)) = (0 : Int32))
      · refine XS.ifYes X1.here hx rfl (pc0 := 20) (pc' := 27) rfl (hb hby at_20) rfl ((if0 _ _).trans (teq hc3).1) (by decide) (by decide) ?_
        show Steps p.tables e below (T1.setTop (mkF m 27 #[.val (.int p0), .val (.int p1), .val r1, .val (.int (0 : Int32)), .unset, .unset, .unset] [])) _
        refine XS.iconst X1.here hx rfl (hb hby at_27) ?_
        show Steps p.tables e below (T1.setTop (mkF m 28 #[.val (.int p0), .val (.int p1), .val r1, .val (.int (0 : Int32)), .unset, .unset, .unset] [(.int (0 : Int32))])) _
        have q_v4 : v4 = (0 : Int32) := hv4.trans (if_neg (fun q => q hc3))
        rw [q_v4] at k
        exact k
      · refine XS.ifNo X1.here hx rfl (hb hby at_20) rfl ((if0 _ _).trans (feq hc3).1) ?_
        show Steps p.tables e below (T1.setTop (mkF m 23 #[.val (.int p0), .val (.int p1), .val r1, .val (.int (0 : Int32)), .unset, .unset, .unset] [])) _
        refine XS.iconst X1.here hx rfl (hb hby at_23) ?_
        show Steps p.tables e below (T1.setTop (mkF m 24 #[.val (.int p0), .val (.int p1), .val r1, .val (.int (0 : Int32)), .unset, .unset, .unset] [(.int (1 : Int32))])) _
        refine XS.goto X1.here hx rfl (pc0 := 24) (pc' := 28) rfl (hb hby at_24) (by decide) (by decide) ?_
        show Steps p.tables e below (T1.setTop (mkF m 28 #[.val (.int p0), .val (.int p1), .val r1, .val (.int (0 : Int32)), .unset, .unset, .unset] [(.int (1 : Int32))])) _
        have q_v4 : v4 = (1 : Int32) := hv4.trans (if_pos hc3)
        rw [q_v4] at k
        exact k
    refine Goes.via (S' := (T1.setTop (mkF m 30 #[.val (.int p0), .val (.int p1), .val r1, .val (.int (0 : Int32)), .val (.int v4), .unset, .unset] []))) (fun t k => XS.istore X1.here hx rfl (hb hby at_28) rfl (l' := #[.val (.int p0), .val (.int p1), .val r1, .val (.int (0 : Int32)), .val (.int v4), .unset, .unset]) rfl k) ?_
    obtain ⟨T5, h5, X5, e5, E5, A5, D5, -, st5⟩ := newO X1 hx hZ hown (hw _ (List.mem_of_getElem? (i := 5) rfl)) (hw _ (List.mem_of_getElem? (i := 6) rfl)) (hw _ (List.mem_of_getElem? (i := 7) rfl)) eq1 (g := (mkF m 30 #[.val (.int p0), .val (.int p1), .val r1, .val (.int (0 : Int32)), .val (.int v4), .unset, .unset] [])) rfl (hb hby at_30) (by decide) (by decide)
    obtain ⟨b5, g5⟩ : ∃ z, z = h0.size := ⟨_, rfl⟩
    rw [← g5] at A5 D5 st5
    have f6 : Sta Z h5 "com/example/careful_store/carefulstore/LockMode" "SHARE" "Lcom/example/careful_store/carefulstore/LockMode;" (.ref xs) := f0_SHARE.ext E5
    have f7 : Sta Z h5 "com/example/careful_store/carefulstore/LockMode" "EXCLUSIVE" "Lcom/example/careful_store/carefulstore/LockMode;" (.ref xe) := f1_EXCLUSIVE.ext E5
    have f8 : Sta Z h5 "com/example/careful_store/carefulstore/Lock" "GAP" "Lcom/example/careful_store/carefulstore/Lock;" (.ref xg) := f2_GAP.ext E5
    have f9 : Exa Z h5 xg "com/example/careful_store/carefulstore/Lock" := f3_xg.ext E5
    have f10 : Fld Z h5 xg "com/example/careful_store/carefulstore/Lock" "mode" "Lcom/example/careful_store/carefulstore/LockMode;" .null := f4_xg_mode.ext E5
    have f11 : Fld Z h5 xg "com/example/careful_store/carefulstore/Lock" "gap" "Z" (.int (1 : Int32)) := f5_xg_gap.ext E5
    have f12 : Fld Z h5 xg "com/example/careful_store/carefulstore/Lock" "insert" "Z" (.int (0 : Int32)) := f6_xg_insert.ext E5
    have K5 : Keep h0 h5 [] := Keep.ext (Keep.refl h0 []) E5
    have Z5 : n0 ≤ h5.size := Nat.le_trans Z0 K5.1
    have g_b5 : n0 ≤ b5 := Nat.le_trans Z0 (Nat.le_of_eq g5.symm)
    have sz_b5 : h0.size ≤ b5 := Nat.le_trans ((Keep.refl h0 [])).1 (Nat.le_of_eq g5.symm)
    have ne_xg_b5 : xg ≠ b5 := Nat.ne_of_lt (Nat.lt_of_lt_of_le f3_xg.lt (Nat.le_of_eq g5.symm))
    have f13 : Exa Z h5 b5 "com/example/careful_store/carefulstore/Lock" := A5
    have f14 : Fld Z h5 b5 "com/example/careful_store/carefulstore/Lock" "mode" "Lcom/example/careful_store/carefulstore/LockMode;" .null := D5 (Or.inr (hw _ (List.mem_of_getElem? (i := 20) rfl))) (ty := (.object "com/example/careful_store/carefulstore/LockMode")) (by decide)
    have f15 : Fld Z h5 b5 "com/example/careful_store/carefulstore/Lock" "gap" "Z" (.int (0 : Int32)) := D5 (Or.inr (hw _ (List.mem_of_getElem? (i := 22) rfl))) (ty := .boolean) (by decide)
    have f16 : Fld Z h5 b5 "com/example/careful_store/carefulstore/Lock" "insert" "Z" (.int (0 : Int32)) := D5 (Or.inr (hw _ (List.mem_of_getElem? (i := 24) rfl))) (ty := .boolean) (by decide)
    refine Goes.via (S' := (T5.setTop (mkF m 33 #[.val (.int p0), .val (.int p1), .val r1, .val (.int (0 : Int32)), .val (.int v4), .unset, .unset] [(.ref b5)]))) (fun t k => st5 _ k) ?_
    refine Goes.via (S' := (T5.setTop (mkF m 34 #[.val (.int p0), .val (.int p1), .val r1, .val (.int (0 : Int32)), .val (.int v4), .unset, .unset] [(.ref b5), (.ref b5)]))) (fun t k => XS.dup X5.here hx rfl (hb hby at_33) rfl rfl k) ?_
    refine Goes.via (S' := (T5.setTop (mkF m 35 #[.val (.int p0), .val (.int p1), .val r1, .val (.int (0 : Int32)), .val (.int v4), .unset, .unset] [r1, (.ref b5), (.ref b5)]))) (fun t k => XS.aloadN X5.here hx rfl (hb hby at_34) rfl hr_r1 k) ?_
    refine Goes.via (S' := (T5.setTop (mkF m 36 #[.val (.int p0), .val (.int p1), .val r1, .val (.int (0 : Int32)), .val (.int v4), .unset, .unset] [(.int (0 : Int32)), r1, (.ref b5), (.ref b5)]))) (fun t k => XS.iloadN X5.here hx rfl (hb hby at_35) rfl k) ?_
    refine Goes.via (S' := (T5.setTop (mkF m 38 #[.val (.int p0), .val (.int p1), .val r1, .val (.int (0 : Int32)), .val (.int v4), .unset, .unset] [(.int v4), (.int (0 : Int32)), r1, (.ref b5), (.ref b5)]))) (fun t k => XS.iload X5.here hx rfl (hb hby at_36) rfl k) ?_
    obtain ⟨_, _, ⟨T17, L17, k17, n17⟩, -, X17, ⟨Lc17, hQ17, l17, y17, z17⟩, st17⟩ := X5.specialBack hx (y := (⟨"com/example/careful_store/carefulstore/Lock", "<init>", "(Lcom/example/careful_store/carefulstore/LockMode;ZZ)V"⟩ : MethodName)) rfl hown (mvT hZ (hw _ (List.mem_of_getElem? (i := 8) rfl))) (mvT hZ (hw _ (List.mem_of_getElem? (i := 9) rfl))) (mvT hZ (hw _ (List.mem_of_getElem? (i := 10) rfl))) (by decide) (backOf (W := 1) (rm2 l Z a0 hw [] b5 r1 (0 : Int32) v4 .null (.int (0 : Int32)) (.int (0 : Int32)) h5 n0 Z5 f13 f14 f15 f16 g_b5 hr_r1 (Or.inl rfl) (own_b01 hv4)) hZ (hw _ (List.mem_of_getElem? (i := 10) rfl)) (hw _ (List.mem_of_getElem? (i := 7) rfl)) (by decide) (by decide)) (g := (mkF m 38 #[.val (.int p0), .val (.int p1), .val r1, .val (.int (0 : Int32)), .val (.int v4), .unset, .unset] [(.int v4), (.int (0 : Int32)), r1, (.ref b5), (.ref b5)])) rfl (by rw [hml]; rfl) (Steps.refl _) (a := b5) (argsL := [r1, (.int (0 : Int32)), (.int v4)]) (rest := [(.ref b5)]) (lenOf pd_2 rfl) rfl (by show 2 * 0 + _ ≤ _; exact Nat.le_of_eq rfl) (hb hby at_38) (fun _ _ => ⟨rfl, e5, (by decide : 1 + 0 ≤ _), (by decide : 3 + 0 ≤ _)⟩)
    dsimp only [Pt.U, Pt.locs, Pt.cells, Pt.slots] at X17 l17 y17 z17 st17 hQ17
    subst l17 y17 z17
    obtain ⟨rfl, N17q, K17q, po17_0, po17_1, po17_2, po17_3⟩ := hQ17
    have N17 := Fr.app N1 N17q
    have f18 : Sta Z T17.heap "com/example/careful_store/carefulstore/LockMode" "SHARE" "Lcom/example/careful_store/carefulstore/LockMode;" (.ref xs) := own_staKeep f6 K17q (allS (own_nst f13) all0)
    have f19 : Sta Z T17.heap "com/example/careful_store/carefulstore/LockMode" "EXCLUSIVE" "Lcom/example/careful_store/carefulstore/LockMode;" (.ref xe) := own_staKeep f7 K17q (allS (own_nst f13) all0)
    have f20 : Sta Z T17.heap "com/example/careful_store/carefulstore/Lock" "GAP" "Lcom/example/careful_store/carefulstore/Lock;" (.ref xg) := own_staKeep f8 K17q (allS (own_nst f13) all0)
    have f21 : Exa Z T17.heap xg "com/example/careful_store/carefulstore/Lock" := f9.keep K17q
    have f22 : Fld Z T17.heap xg "com/example/careful_store/carefulstore/Lock" "mode" "Lcom/example/careful_store/carefulstore/LockMode;" .null := f10.keep K17q (ninS ne_xg_b5 nin0)
    have f23 : Fld Z T17.heap xg "com/example/careful_store/carefulstore/Lock" "gap" "Z" (.int (1 : Int32)) := f11.keep K17q (ninS ne_xg_b5 nin0)
    have f24 : Fld Z T17.heap xg "com/example/careful_store/carefulstore/Lock" "insert" "Z" (.int (0 : Int32)) := f12.keep K17q (ninS ne_xg_b5 nin0)
    have f25 : Exa Z T17.heap b5 "com/example/careful_store/carefulstore/Lock" := f13.keep K17q
    have K17 : Keep h0 T17.heap [] := Keep.trans K5 K17q (allS (Or.inr sz_b5) all0)
    have Z17 : n0 ≤ T17.heap.size := Nat.le_trans Z0 K17.1
    refine Goes.via (S' := (T17.setTop (mkF m 41 #[.val (.int p0), .val (.int p1), .val r1, .val (.int (0 : Int32)), .val (.int v4), .unset, .unset] [(.ref b5)]))) (fun t k => st17.trans k) ?_
    refine Goes.via (S' := (T17.setTop (mkF m 43 #[.val (.int p0), .val (.int p1), .val r1, .val (.int (0 : Int32)), .val (.int v4), .val (.ref b5), .unset] []))) (fun t k => XS.astore X17.here hx rfl (hb hby at_41) rfl rfl (l' := #[.val (.int p0), .val (.int p1), .val r1, .val (.int (0 : Int32)), .val (.int v4), .val (.ref b5), .unset]) rfl k) ?_
    refine Goes.via (S' := (T17.setTop (mkF m 45 #[.val (.int p0), .val (.int p1), .val r1, .val (.int (0 : Int32)), .val (.int v4), .val (.ref b5), .unset] [(.ref b5)]))) (fun t k => XS.aload X17.here hx rfl (hb hby at_43) rfl rfl k) ?_
    obtain ⟨cq26, kq26, q26a, q26b, q26c⟩ := isOf hZ rfl po17_0
    obtain ⟨_, _, ⟨T26, L26, k26, n26⟩, -, X26, ⟨Lc26, hQ26, l26, y26, z26⟩, st26⟩ := X17.virtualBack hx (y := (⟨"com/example/careful_store/carefulstore/Lock", "gapPart", "()Lcom/example/careful_store/carefulstore/Lock;"⟩ : MethodName)) (z := (⟨"com/example/careful_store/carefulstore/Lock", "gapPart", "()Lcom/example/careful_store/carefulstore/Lock;"⟩ : MethodName)) hown (mvT hZ (hw _ (List.mem_of_getElem? (i := 25) rfl))) (mvT hZ (hw _ (List.mem_of_getElem? (i := 26) rfl))) (notFace_of_selects (args := #[]) (mvT hZ (hw _ (List.mem_of_getElem? (i := 28) rfl)))) (mvT hZ (hw _ (List.mem_of_getElem? (i := 28) rfl))) (mvT hZ (hw _ (List.mem_of_getElem? (i := 27) rfl))) (by decide) (backOf (W := 0) (rm5n l Z a0 hw [] b5 T17.heap n0 Z17 po17_2) hZ (hw _ (List.mem_of_getElem? (i := 29) rfl)) (hw _ (List.mem_of_getElem? (i := 7) rfl)) (by decide) (by decide)) q26a q26c (g := (mkF m 45 #[.val (.int p0), .val (.int p1), .val r1, .val (.int (0 : Int32)), .val (.int v4), .val (.ref b5), .unset] [(.ref b5)])) rfl (by rw [hml]; rfl) (Steps.refl _) (argsL := []) (rest := []) (lenOf pd_3 rfl) rfl (by show 2 * 0 + _ ≤ _; exact Nat.le_of_eq rfl) (hb hby at_45) (fun _ _ => ⟨rfl, rfl, (by decide : 1 + 0 ≤ _), (by decide : 3 + 0 ≤ _)⟩)
    dsimp only [Pt.U, Pt.locs, Pt.cells, Pt.slots] at X26 l26 y26 z26 st26 hQ26
    subst l26 y26 z26
    obtain ⟨rfl, N26q, eq26⟩ := hQ26
    have N26 := Fr.app N17 N26q
    refine Goes.via (S' := (T26.setTop (mkF m 48 #[.val (.int p0), .val (.int p1), .val r1, .val (.int (0 : Int32)), .val (.int v4), .val (.ref b5), .unset] [.null]))) (fun t k => st26.trans k) ?_
    refine Goes.via (S' := (T26.setTop (mkF m 50 #[.val (.int p0), .val (.int p1), .val r1, .val (.int (0 : Int32)), .val (.int v4), .val (.ref b5), .val .null] []))) (fun t k => XS.astore X26.here hx rfl (hb hby at_48) rfl rfl (l' := #[.val (.int p0), .val (.int p1), .val r1, .val (.int (0 : Int32)), .val (.int v4), .val (.ref b5), .val .null]) rfl k) ?_
    refine Goes.via (S' := (T26.setTop (mkF m 51 #[.val (.int p0), .val (.int p1), .val r1, .val (.int (0 : Int32)), .val (.int v4), .val (.ref b5), .val .null] [(.int (0 : Int32))]))) (fun t k => XS.iloadN X26.here hx rfl (hb hby at_50) rfl k) ?_
    refine Goes.via (S' := (T26.setTop (mkF m 54 #[.val (.int p0), .val (.int p1), .val r1, .val (.int (0 : Int32)), .val (.int v4), .val (.ref b5), .val .null] []))) (fun t k => XS.ifNo X26.here hx rfl (hb hby at_51) rfl ((if0 _ _).trans (teq rfl).2) k) ?_
    refine Goes.via (S' := (T26.setTop (mkF m 56 #[.val (.int p0), .val (.int p1), .val r1, .val (.int (0 : Int32)), .val (.int v4), .val (.ref b5), .val .null] [.null]))) (fun t k => XS.aload X26.here hx rfl (hb hby at_54) rfl rfl k) ?_
    refine Goes.via (S' := (T26.setTop (mkF m 59 #[.val (.int p0), .val (.int p1), .val r1, .val (.int (0 : Int32)), .val (.int v4), .val (.ref b5), .val .null] []))) (fun t k => XS.ifnonnullNo X26.here hx rfl (hb hby at_56) rfl k) ?_
    refine Goes.via (S' := (T26.setTop (mkF m 60 #[.val (.int p0), .val (.int p1), .val r1, .val (.int (0 : Int32)), .val (.int v4), .val (.ref b5), .val .null] [(.int (1 : Int32))]))) (fun t k => XS.iconst X26.here hx rfl (hb hby at_59) k) ?_
    refine Goes.via (S' := (T26.setTop (mkF m 64 #[.val (.int p0), .val (.int p1), .val r1, .val (.int (0 : Int32)), .val (.int v4), .val (.ref b5), .val .null] [(.int (1 : Int32))]))) (fun t k => XS.goto X26.here hx rfl (pc0 := 60) (pc' := 64) rfl (hb hby at_60) (by decide) (by decide) k) ?_
    exact own_ret X26 hx Bd.notSynchronized Bd.returns rfl (Or.inl ⟨rfl, by simp, _, rfl⟩) (hb hby at_64) eq26 ⟨rfl, N26⟩ (by decide) (by decide)
  · refine Goes.via (S' := (T1.setTop (mkF m 11 #[.val (.int p0), .val (.int p1), .val r1, .unset, .unset, .unset, .unset] []))) (fun t k => XS.ifNo X1.here hx rfl (hb hby at_8) rfl ((if0 _ _).trans (feq hc2).1) k) ?_
    refine Goes.via (S' := (T1.setTop (mkF m 12 #[.val (.int p0), .val (.int p1), .val r1, .unset, .unset, .unset, .unset] [(.int (1 : Int32))]))) (fun t k => XS.iconst X1.here hx rfl (hb hby at_11) k) ?_
    refine Goes.via (S' := (T1.setTop (mkF m 16 #[.val (.int p0), .val (.int p1), .val r1, .unset, .unset, .unset, .unset] [(.int (1 : Int32))]))) (fun t k => XS.goto X1.here hx rfl (pc0 := 12) (pc' := 16) rfl (hb hby at_12) (by decide) (by decide) k) ?_
    refine Goes.via (S' := (T1.setTop (mkF m 17 #[.val (.int p0), .val (.int p1), .val r1, .val (.int (1 : Int32)), .unset, .unset, .unset] []))) (fun t k => XS.istoreN X1.here hx rfl (hb hby at_16) rfl (l' := #[.val (.int p0), .val (.int p1), .val r1, .val (.int (1 : Int32)), .unset, .unset, .unset]) rfl k) ?_
    refine Goes.via (S' := (T1.setTop (mkF m 18 #[.val (.int p0), .val (.int p1), .val r1, .val (.int (1 : Int32)), .unset, .unset, .unset] [(.int p1)]))) (fun t k => XS.iloadN X1.here hx rfl (hb hby at_17) rfl k) ?_
    refine Goes.via (S' := (T1.setTop (mkF m 19 #[.val (.int p0), .val (.int p1), .val r1, .val (.int (1 : Int32)), .unset, .unset, .unset] [(.int (2 : Int32)), (.int p1)]))) (fun t k => XS.iconst X1.here hx rfl (hb hby at_18) k) ?_
    refine Goes.via (S' := (T1.setTop (mkF m 20 #[.val (.int p0), .val (.int p1), .val r1, .val (.int (1 : Int32)), .unset, .unset, .unset] [(.int (p1 &&& (2 : Int32)))]))) (fun t k => XS.iand X1.here hx rfl (hb hby at_19) rfl k) ?_
    obtain ⟨v28, hv28⟩ : ∃ z : Int32, z = (if (¬ ((p1 &&& (2 : Int32)) = (0 : Int32))) then (1 : Int32) else 0) := ⟨_, rfl⟩
    refine Goes.via (S' := (T1.setTop (mkF m 28 #[.val (.int p0), .val (.int p1), .val r1, .val (.int (1 : Int32)), .unset, .unset, .unset] [(.int v28)]))) (fun t k => ?_) ?_
    · by_cases hc27 : ((p1 &&& (2 : Int32)) = (0 : Int32))
      · refine XS.ifYes X1.here hx rfl (pc0 := 20) (pc' := 27) rfl (hb hby at_20) rfl ((if0 _ _).trans (teq hc27).1) (by decide) (by decide) ?_
        show Steps p.tables e below (T1.setTop (mkF m 27 #[.val (.int p0), .val (.int p1), .val r1, .val (.int (1 : Int32)), .unset, .unset, .unset] [])) _
        refine XS.iconst X1.here hx rfl (hb hby at_27) ?_
        show Steps p.tables e below (T1.setTop (mkF m 28 #[.val (.int p0), .val (.int p1), .val r1, .val (.int (1 : Int32)), .unset, .unset, .unset] [(.int (0 : Int32))])) _
        have q_v28 : v28 = (0 : Int32) := hv28.trans (if_neg (fun q => q hc27))
        rw [q_v28] at k
        exact k
      · refine XS.ifNo X1.here hx rfl (hb hby at_20) rfl ((if0 _ _).trans (feq hc27).1) ?_
        show Steps p.tables e below (T1.setTop (mkF m 23 #[.val (.int p0), .val (.int p1), .val r1, .val (.int (1 : Int32)), .unset, .unset, .unset] [])) _
        refine XS.iconst X1.here hx rfl (hb hby at_23) ?_
        show Steps p.tables e below (T1.setTop (mkF m 24 #[.val (.int p0), .val (.int p1), .val r1, .val (.int (1 : Int32)), .unset, .unset, .unset] [(.int (1 : Int32))])) _
        refine XS.goto X1.here hx rfl (pc0 := 24) (pc' := 28) rfl (hb hby at_24) (by decide) (by decide) ?_
        show Steps p.tables e below (T1.setTop (mkF m 28 #[.val (.int p0), .val (.int p1), .val r1, .val (.int (1 : Int32)), .unset, .unset, .unset] [(.int (1 : Int32))])) _
        have q_v28 : v28 = (1 : Int32) := hv28.trans (if_pos hc27)
        rw [q_v28] at k
        exact k
    refine Goes.via (S' := (T1.setTop (mkF m 30 #[.val (.int p0), .val (.int p1), .val r1, .val (.int (1 : Int32)), .val (.int v28), .unset, .unset] []))) (fun t k => XS.istore X1.here hx rfl (hb hby at_28) rfl (l' := #[.val (.int p0), .val (.int p1), .val r1, .val (.int (1 : Int32)), .val (.int v28), .unset, .unset]) rfl k) ?_
    obtain ⟨T29, h29, X29, e29, E29, A29, D29, -, st29⟩ := newO X1 hx hZ hown (hw _ (List.mem_of_getElem? (i := 5) rfl)) (hw _ (List.mem_of_getElem? (i := 6) rfl)) (hw _ (List.mem_of_getElem? (i := 7) rfl)) eq1 (g := (mkF m 30 #[.val (.int p0), .val (.int p1), .val r1, .val (.int (1 : Int32)), .val (.int v28), .unset, .unset] [])) rfl (hb hby at_30) (by decide) (by decide)
    obtain ⟨b29, g29⟩ : ∃ z, z = h0.size := ⟨_, rfl⟩
    rw [← g29] at A29 D29 st29
    have f30 : Sta Z h29 "com/example/careful_store/carefulstore/LockMode" "SHARE" "Lcom/example/careful_store/carefulstore/LockMode;" (.ref xs) := f0_SHARE.ext E29
    have f31 : Sta Z h29 "com/example/careful_store/carefulstore/LockMode" "EXCLUSIVE" "Lcom/example/careful_store/carefulstore/LockMode;" (.ref xe) := f1_EXCLUSIVE.ext E29
    have f32 : Sta Z h29 "com/example/careful_store/carefulstore/Lock" "GAP" "Lcom/example/careful_store/carefulstore/Lock;" (.ref xg) := f2_GAP.ext E29
    have f33 : Exa Z h29 xg "com/example/careful_store/carefulstore/Lock" := f3_xg.ext E29
    have f34 : Fld Z h29 xg "com/example/careful_store/carefulstore/Lock" "mode" "Lcom/example/careful_store/carefulstore/LockMode;" .null := f4_xg_mode.ext E29
    have f35 : Fld Z h29 xg "com/example/careful_store/carefulstore/Lock" "gap" "Z" (.int (1 : Int32)) := f5_xg_gap.ext E29
    have f36 : Fld Z h29 xg "com/example/careful_store/carefulstore/Lock" "insert" "Z" (.int (0 : Int32)) := f6_xg_insert.ext E29
    have K29 : Keep h0 h29 [] := Keep.ext (Keep.refl h0 []) E29
    have Z29 : n0 ≤ h29.size := Nat.le_trans Z0 K29.1
    have g_b29 : n0 ≤ b29 := Nat.le_trans Z0 (Nat.le_of_eq g29.symm)
    have sz_b29 : h0.size ≤ b29 := Nat.le_trans ((Keep.refl h0 [])).1 (Nat.le_of_eq g29.symm)
    have ne_xg_b29 : xg ≠ b29 := Nat.ne_of_lt (Nat.lt_of_lt_of_le f3_xg.lt (Nat.le_of_eq g29.symm))
    have f37 : Exa Z h29 b29 "com/example/careful_store/carefulstore/Lock" := A29
    have f38 : Fld Z h29 b29 "com/example/careful_store/carefulstore/Lock" "mode" "Lcom/example/careful_store/carefulstore/LockMode;" .null := D29 (Or.inr (hw _ (List.mem_of_getElem? (i := 20) rfl))) (ty := (.object "com/example/careful_store/carefulstore/LockMode")) (by decide)
    have f39 : Fld Z h29 b29 "com/example/careful_store/carefulstore/Lock" "gap" "Z" (.int (0 : Int32)) := D29 (Or.inr (hw _ (List.mem_of_getElem? (i := 22) rfl))) (ty := .boolean) (by decide)
    have f40 : Fld Z h29 b29 "com/example/careful_store/carefulstore/Lock" "insert" "Z" (.int (0 : Int32)) := D29 (Or.inr (hw _ (List.mem_of_getElem? (i := 24) rfl))) (ty := .boolean) (by decide)
    refine Goes.via (S' := (T29.setTop (mkF m 33 #[.val (.int p0), .val (.int p1), .val r1, .val (.int (1 : Int32)), .val (.int v28), .unset, .unset] [(.ref b29)]))) (fun t k => st29 _ k) ?_
    refine Goes.via (S' := (T29.setTop (mkF m 34 #[.val (.int p0), .val (.int p1), .val r1, .val (.int (1 : Int32)), .val (.int v28), .unset, .unset] [(.ref b29), (.ref b29)]))) (fun t k => XS.dup X29.here hx rfl (hb hby at_33) rfl rfl k) ?_
    refine Goes.via (S' := (T29.setTop (mkF m 35 #[.val (.int p0), .val (.int p1), .val r1, .val (.int (1 : Int32)), .val (.int v28), .unset, .unset] [r1, (.ref b29), (.ref b29)]))) (fun t k => XS.aloadN X29.here hx rfl (hb hby at_34) rfl hr_r1 k) ?_
    refine Goes.via (S' := (T29.setTop (mkF m 36 #[.val (.int p0), .val (.int p1), .val r1, .val (.int (1 : Int32)), .val (.int v28), .unset, .unset] [(.int (1 : Int32)), r1, (.ref b29), (.ref b29)]))) (fun t k => XS.iloadN X29.here hx rfl (hb hby at_35) rfl k) ?_
    refine Goes.via (S' := (T29.setTop (mkF m 38 #[.val (.int p0), .val (.int p1), .val r1, .val (.int (1 : Int32)), .val (.int v28), .unset, .unset] [(.int v28), (.int (1 : Int32)), r1, (.ref b29), (.ref b29)]))) (fun t k => XS.iload X29.here hx rfl (hb hby at_36) rfl k) ?_
    obtain ⟨_, _, ⟨T41, L41, k41, n41⟩, -, X41, ⟨Lc41, hQ41, l41, y41, z41⟩, st41⟩ := X29.specialBack hx (y := (⟨"com/example/careful_store/carefulstore/Lock", "<init>", "(Lcom/example/careful_store/carefulstore/LockMode;ZZ)V"⟩ : MethodName)) rfl hown (mvT hZ (hw _ (List.mem_of_getElem? (i := 8) rfl))) (mvT hZ (hw _ (List.mem_of_getElem? (i := 9) rfl))) (mvT hZ (hw _ (List.mem_of_getElem? (i := 10) rfl))) (by decide) (backOf (W := 1) (rm2 l Z a0 hw [] b29 r1 (1 : Int32) v28 .null (.int (0 : Int32)) (.int (0 : Int32)) h29 n0 Z29 f37 f38 f39 f40 g_b29 hr_r1 (Or.inr rfl) (own_b01 hv28)) hZ (hw _ (List.mem_of_getElem? (i := 10) rfl)) (hw _ (List.mem_of_getElem? (i := 7) rfl)) (by decide) (by decide)) (g := (mkF m 38 #[.val (.int p0), .val (.int p1), .val r1, .val (.int (1 : Int32)), .val (.int v28), .unset, .unset] [(.int v28), (.int (1 : Int32)), r1, (.ref b29), (.ref b29)])) rfl (by rw [hml]; rfl) (Steps.refl _) (a := b29) (argsL := [r1, (.int (1 : Int32)), (.int v28)]) (rest := [(.ref b29)]) (lenOf pd_2 rfl) rfl (by show 2 * 0 + _ ≤ _; exact Nat.le_of_eq rfl) (hb hby at_38) (fun _ _ => ⟨rfl, e29, (by decide : 1 + 0 ≤ _), (by decide : 3 + 0 ≤ _)⟩)
    dsimp only [Pt.U, Pt.locs, Pt.cells, Pt.slots] at X41 l41 y41 z41 st41 hQ41
    subst l41 y41 z41
    obtain ⟨rfl, N41q, K41q, po41_0, po41_1, po41_2, po41_3⟩ := hQ41
    have N41 := Fr.app N1 N41q
    have f42 : Sta Z T41.heap "com/example/careful_store/carefulstore/LockMode" "SHARE" "Lcom/example/careful_store/carefulstore/LockMode;" (.ref xs) := own_staKeep f30 K41q (allS (own_nst f37) all0)
    have f43 : Sta Z T41.heap "com/example/careful_store/carefulstore/LockMode" "EXCLUSIVE" "Lcom/example/careful_store/carefulstore/LockMode;" (.ref xe) := own_staKeep f31 K41q (allS (own_nst f37) all0)
    have f44 : Sta Z T41.heap "com/example/careful_store/carefulstore/Lock" "GAP" "Lcom/example/careful_store/carefulstore/Lock;" (.ref xg) := own_staKeep f32 K41q (allS (own_nst f37) all0)
    have f45 : Exa Z T41.heap xg "com/example/careful_store/carefulstore/Lock" := f33.keep K41q
    have f46 : Fld Z T41.heap xg "com/example/careful_store/carefulstore/Lock" "mode" "Lcom/example/careful_store/carefulstore/LockMode;" .null := f34.keep K41q (ninS ne_xg_b29 nin0)
    have f47 : Fld Z T41.heap xg "com/example/careful_store/carefulstore/Lock" "gap" "Z" (.int (1 : Int32)) := f35.keep K41q (ninS ne_xg_b29 nin0)
    have f48 : Fld Z T41.heap xg "com/example/careful_store/carefulstore/Lock" "insert" "Z" (.int (0 : Int32)) := f36.keep K41q (ninS ne_xg_b29 nin0)
    have f49 : Exa Z T41.heap b29 "com/example/careful_store/carefulstore/Lock" := f37.keep K41q
    have K41 : Keep h0 T41.heap [] := Keep.trans K29 K41q (allS (Or.inr sz_b29) all0)
    have Z41 : n0 ≤ T41.heap.size := Nat.le_trans Z0 K41.1
    refine Goes.via (S' := (T41.setTop (mkF m 41 #[.val (.int p0), .val (.int p1), .val r1, .val (.int (1 : Int32)), .val (.int v28), .unset, .unset] [(.ref b29)]))) (fun t k => st41.trans k) ?_
    refine Goes.via (S' := (T41.setTop (mkF m 43 #[.val (.int p0), .val (.int p1), .val r1, .val (.int (1 : Int32)), .val (.int v28), .val (.ref b29), .unset] []))) (fun t k => XS.astore X41.here hx rfl (hb hby at_41) rfl rfl (l' := #[.val (.int p0), .val (.int p1), .val r1, .val (.int (1 : Int32)), .val (.int v28), .val (.ref b29), .unset]) rfl k) ?_
    refine Goes.via (S' := (T41.setTop (mkF m 45 #[.val (.int p0), .val (.int p1), .val r1, .val (.int (1 : Int32)), .val (.int v28), .val (.ref b29), .unset] [(.ref b29)]))) (fun t k => XS.aload X41.here hx rfl (hb hby at_43) rfl rfl k) ?_
    obtain ⟨cq50, kq50, q50a, q50b, q50c⟩ := isOf hZ rfl po41_0
    obtain ⟨_, _, ⟨T50, L50, k50, n50⟩, -, X50, ⟨Lc50, hQ50, l50, y50, z50⟩, st50⟩ := X41.virtualBack hx (y := (⟨"com/example/careful_store/carefulstore/Lock", "gapPart", "()Lcom/example/careful_store/carefulstore/Lock;"⟩ : MethodName)) (z := (⟨"com/example/careful_store/carefulstore/Lock", "gapPart", "()Lcom/example/careful_store/carefulstore/Lock;"⟩ : MethodName)) hown (mvT hZ (hw _ (List.mem_of_getElem? (i := 25) rfl))) (mvT hZ (hw _ (List.mem_of_getElem? (i := 26) rfl))) (notFace_of_selects (args := #[]) (mvT hZ (hw _ (List.mem_of_getElem? (i := 28) rfl)))) (mvT hZ (hw _ (List.mem_of_getElem? (i := 28) rfl))) (mvT hZ (hw _ (List.mem_of_getElem? (i := 27) rfl))) (by decide) (backOf (W := 0) (rm5y l Z a0 hw [] b29 xg T41.heap n0 Z41 po41_2 f44) hZ (hw _ (List.mem_of_getElem? (i := 29) rfl)) (hw _ (List.mem_of_getElem? (i := 7) rfl)) (by decide) (by decide)) q50a q50c (g := (mkF m 45 #[.val (.int p0), .val (.int p1), .val r1, .val (.int (1 : Int32)), .val (.int v28), .val (.ref b29), .unset] [(.ref b29)])) rfl (by rw [hml]; rfl) (Steps.refl _) (argsL := []) (rest := []) (lenOf pd_3 rfl) rfl (by show 2 * 0 + _ ≤ _; exact Nat.le_of_eq rfl) (hb hby at_45) (fun _ _ => ⟨rfl, rfl, (by decide : 1 + 0 ≤ _), (by decide : 3 + 0 ≤ _)⟩)
    dsimp only [Pt.U, Pt.locs, Pt.cells, Pt.slots] at X50 l50 y50 z50 st50 hQ50
    subst l50 y50 z50
    obtain ⟨rfl, N50q, eq50⟩ := hQ50
    have N50 := Fr.app N41 N50q
    refine Goes.via (S' := (T50.setTop (mkF m 48 #[.val (.int p0), .val (.int p1), .val r1, .val (.int (1 : Int32)), .val (.int v28), .val (.ref b29), .unset] [(.ref xg)]))) (fun t k => st50.trans k) ?_
    refine Goes.via (S' := (T50.setTop (mkF m 50 #[.val (.int p0), .val (.int p1), .val r1, .val (.int (1 : Int32)), .val (.int v28), .val (.ref b29), .val (.ref xg)] []))) (fun t k => XS.astore X50.here hx rfl (hb hby at_48) rfl rfl (l' := #[.val (.int p0), .val (.int p1), .val r1, .val (.int (1 : Int32)), .val (.int v28), .val (.ref b29), .val (.ref xg)]) rfl k) ?_
    refine Goes.via (S' := (T50.setTop (mkF m 51 #[.val (.int p0), .val (.int p1), .val r1, .val (.int (1 : Int32)), .val (.int v28), .val (.ref b29), .val (.ref xg)] [(.int (1 : Int32))]))) (fun t k => XS.iloadN X50.here hx rfl (hb hby at_50) rfl k) ?_
    refine Goes.via (S' := (T50.setTop (mkF m 65 #[.val (.int p0), .val (.int p1), .val r1, .val (.int (1 : Int32)), .val (.int v28), .val (.ref b29), .val (.ref xg)] []))) (fun t k => XS.ifYes X50.here hx rfl (pc0 := 51) (pc' := 65) rfl (hb hby at_51) rfl ((if0 _ _).trans (feq (by decide : ¬ ((1 : Int32) = (0 : Int32)))).2) (by decide) (by decide) k) ?_
    refine Goes.via (S' := (T50.setTop (mkF m 67 #[.val (.int p0), .val (.int p1), .val r1, .val (.int (1 : Int32)), .val (.int v28), .val (.ref b29), .val (.ref xg)] [(.ref xg)]))) (fun t k => XS.aload X50.here hx rfl (hb hby at_65) rfl rfl k) ?_
    refine Goes.via (S' := (T50.setTop (mkF m 72 #[.val (.int p0), .val (.int p1), .val r1, .val (.int (1 : Int32)), .val (.int v28), .val (.ref b29), .val (.ref xg)] []))) (fun t k => XS.ifnonnullYes X50.here hx rfl (pc0 := 67) (pc' := 72) rfl (hb hby at_67) rfl (by decide) (by decide) k) ?_
    refine Goes.via (S' := (T50.setTop (mkF m 74 #[.val (.int p0), .val (.int p1), .val r1, .val (.int (1 : Int32)), .val (.int v28), .val (.ref b29), .val (.ref xg)] [(.ref xg)]))) (fun t k => XS.aload X50.here hx rfl (hb hby at_72) rfl rfl k) ?_
    obtain ⟨cq51, kq51, q51a, q51b, q51c⟩ := isOf hZ eq50 f45
    obtain ⟨_, _, ⟨T51, L51, k51, n51⟩, -, X51, ⟨Lc51, hQ51, l51, y51, z51⟩, st51⟩ := X50.virtualBack hx (y := (⟨"com/example/careful_store/carefulstore/Lock", "mode", "()Lcom/example/careful_store/carefulstore/LockMode;"⟩ : MethodName)) (z := (⟨"com/example/careful_store/carefulstore/Lock", "mode", "()Lcom/example/careful_store/carefulstore/LockMode;"⟩ : MethodName)) hown (mvT hZ (hw _ (List.mem_of_getElem? (i := 32) rfl))) (mvT hZ (hw _ (List.mem_of_getElem? (i := 33) rfl))) (notFace_of_selects (args := #[]) (mvT hZ (hw _ (List.mem_of_getElem? (i := 35) rfl)))) (mvT hZ (hw _ (List.mem_of_getElem? (i := 35) rfl))) (mvT hZ (hw _ (List.mem_of_getElem? (i := 34) rfl))) (by decide) (backOf (W := 0) (rm6 l Z a0 hw [] xg T41.heap n0 Z41 f46) hZ (hw _ (List.mem_of_getElem? (i := 36) rfl)) (hw _ (List.mem_of_getElem? (i := 7) rfl)) (by decide) (by decide)) q51a q51c (g := (mkF m 74 #[.val (.int p0), .val (.int p1), .val r1, .val (.int (1 : Int32)), .val (.int v28), .val (.ref b29), .val (.ref xg)] [(.ref xg)])) rfl (by rw [hml]; rfl) (Steps.refl _) (argsL := []) (rest := []) (lenOf pd_4 rfl) rfl (by show 2 * 0 + _ ≤ _; exact Nat.le_of_eq rfl) (hb hby at_74) (fun _ _ => ⟨rfl, eq50, (by decide : 1 + 0 ≤ _), (by decide : 3 + 0 ≤ _)⟩)
    dsimp only [Pt.U, Pt.locs, Pt.cells, Pt.slots] at X51 l51 y51 z51 st51 hQ51
    subst l51 y51 z51
    obtain ⟨rfl, N51q, eq51⟩ := hQ51
    have N51 := Fr.app N50 N51q
    refine Goes.via (S' := (T51.setTop (mkF m 77 #[.val (.int p0), .val (.int p1), .val r1, .val (.int (1 : Int32)), .val (.int v28), .val (.ref b29), .val (.ref xg)] [.null]))) (fun t k => st51.trans k) ?_
    refine Goes.via (S' := (T51.setTop (mkF m 82 #[.val (.int p0), .val (.int p1), .val r1, .val (.int (1 : Int32)), .val (.int v28), .val (.ref b29), .val (.ref xg)] []))) (fun t k => XS.ifnullYes X51.here hx rfl (pc0 := 77) (pc' := 82) rfl (hb hby at_77) rfl (by decide) (by decide) k) ?_
    refine Goes.via (S' := (T51.setTop (mkF m 84 #[.val (.int p0), .val (.int p1), .val r1, .val (.int (1 : Int32)), .val (.int v28), .val (.ref b29), .val (.ref xg)] [(.ref xg)]))) (fun t k => XS.aload X51.here hx rfl (hb hby at_82) rfl rfl k) ?_
    obtain ⟨cq52, kq52, q52a, q52b, q52c⟩ := isOf hZ eq51 f45
    obtain ⟨_, _, ⟨T52, L52, k52, n52⟩, -, X52, ⟨Lc52, hQ52, l52, y52, z52⟩, st52⟩ := X51.virtualBack hx (y := (⟨"com/example/careful_store/carefulstore/Lock", "gap", "()Z"⟩ : MethodName)) (z := (⟨"com/example/careful_store/carefulstore/Lock", "gap", "()Z"⟩ : MethodName)) hown (mvT hZ (hw _ (List.mem_of_getElem? (i := 37) rfl))) (mvT hZ (hw _ (List.mem_of_getElem? (i := 38) rfl))) (notFace_of_selects (args := #[]) (mvT hZ (hw _ (List.mem_of_getElem? (i := 40) rfl)))) (mvT hZ (hw _ (List.mem_of_getElem? (i := 40) rfl))) (mvT hZ (hw _ (List.mem_of_getElem? (i := 39) rfl))) (by decide) (backOf (W := 0) (rm7 l Z a0 hw [] xg T41.heap n0 Z41 f47) hZ (hw _ (List.mem_of_getElem? (i := 41) rfl)) (hw _ (List.mem_of_getElem? (i := 7) rfl)) (by decide) (by decide)) q52a q52c (g := (mkF m 84 #[.val (.int p0), .val (.int p1), .val r1, .val (.int (1 : Int32)), .val (.int v28), .val (.ref b29), .val (.ref xg)] [(.ref xg)])) rfl (by rw [hml]; rfl) (Steps.refl _) (argsL := []) (rest := []) (lenOf pd_5 rfl) rfl (by show 2 * 0 + _ ≤ _; exact Nat.le_of_eq rfl) (hb hby at_84) (fun _ _ => ⟨rfl, eq51, (by decide : 1 + 0 ≤ _), (by decide : 3 + 0 ≤ _)⟩)
    dsimp only [Pt.U, Pt.locs, Pt.cells, Pt.slots] at X52 l52 y52 z52 st52 hQ52
    subst l52 y52 z52
    obtain ⟨rfl, N52q, eq52⟩ := hQ52
    have N52 := Fr.app N51 N52q
    refine Goes.via (S' := (T52.setTop (mkF m 87 #[.val (.int p0), .val (.int p1), .val r1, .val (.int (1 : Int32)), .val (.int v28), .val (.ref b29), .val (.ref xg)] [(.int (1 : Int32))]))) (fun t k => st52.trans k) ?_
    refine Goes.via (S' := (T52.setTop (mkF m 92 #[.val (.int p0), .val (.int p1), .val r1, .val (.int (1 : Int32)), .val (.int v28), .val (.ref b29), .val (.ref xg)] []))) (fun t k => XS.ifYes X52.here hx rfl (pc0 := 87) (pc' := 92) rfl (hb hby at_87) rfl ((if0 _ _).trans (feq (by decide : ¬ ((1 : Int32) = (0 : Int32)))).2) (by decide) (by decide) k) ?_
    refine Goes.via (S' := (T52.setTop (mkF m 94 #[.val (.int p0), .val (.int p1), .val r1, .val (.int (1 : Int32)), .val (.int v28), .val (.ref b29), .val (.ref xg)] [(.ref xg)]))) (fun t k => XS.aload X52.here hx rfl (hb hby at_92) rfl rfl k) ?_
    obtain ⟨cq53, kq53, q53a, q53b, q53c⟩ := isOf hZ eq52 f45
    obtain ⟨_, _, ⟨T53, L53, k53, n53⟩, -, X53, ⟨Lc53, hQ53, l53, y53, z53⟩, st53⟩ := X52.virtualBack hx (y := (⟨"com/example/careful_store/carefulstore/Lock", "insert", "()Z"⟩ : MethodName)) (z := (⟨"com/example/careful_store/carefulstore/Lock", "insert", "()Z"⟩ : MethodName)) hown (mvT hZ (hw _ (List.mem_of_getElem? (i := 42) rfl))) (mvT hZ (hw _ (List.mem_of_getElem? (i := 43) rfl))) (notFace_of_selects (args := #[]) (mvT hZ (hw _ (List.mem_of_getElem? (i := 45) rfl)))) (mvT hZ (hw _ (List.mem_of_getElem? (i := 45) rfl))) (mvT hZ (hw _ (List.mem_of_getElem? (i := 44) rfl))) (by decide) (backOf (W := 0) (rm8 l Z a0 hw [] xg T41.heap n0 Z41 f48) hZ (hw _ (List.mem_of_getElem? (i := 46) rfl)) (hw _ (List.mem_of_getElem? (i := 7) rfl)) (by decide) (by decide)) q53a q53c (g := (mkF m 94 #[.val (.int p0), .val (.int p1), .val r1, .val (.int (1 : Int32)), .val (.int v28), .val (.ref b29), .val (.ref xg)] [(.ref xg)])) rfl (by rw [hml]; rfl) (Steps.refl _) (argsL := []) (rest := []) (lenOf pd_5 rfl) rfl (by show 2 * 0 + _ ≤ _; exact Nat.le_of_eq rfl) (hb hby at_94) (fun _ _ => ⟨rfl, eq52, (by decide : 1 + 0 ≤ _), (by decide : 3 + 0 ≤ _)⟩)
    dsimp only [Pt.U, Pt.locs, Pt.cells, Pt.slots] at X53 l53 y53 z53 st53 hQ53
    subst l53 y53 z53
    obtain ⟨rfl, N53q, eq53⟩ := hQ53
    have N53 := Fr.app N52 N53q
    refine Goes.via (S' := (T53.setTop (mkF m 97 #[.val (.int p0), .val (.int p1), .val r1, .val (.int (1 : Int32)), .val (.int v28), .val (.ref b29), .val (.ref xg)] [(.int (0 : Int32))]))) (fun t k => st53.trans k) ?_
    refine Goes.via (S' := (T53.setTop (mkF m 102 #[.val (.int p0), .val (.int p1), .val r1, .val (.int (1 : Int32)), .val (.int v28), .val (.ref b29), .val (.ref xg)] []))) (fun t k => XS.ifYes X53.here hx rfl (pc0 := 97) (pc' := 102) rfl (hb hby at_97) rfl ((if0 _ _).trans (teq rfl).1) (by decide) (by decide) k) ?_
    refine Goes.via (S' := (T53.setTop (mkF m 104 #[.val (.int p0), .val (.int p1), .val r1, .val (.int (1 : Int32)), .val (.int v28), .val (.ref b29), .val (.ref xg)] [(.ref b29)]))) (fun t k => XS.aload X53.here hx rfl (hb hby at_102) rfl rfl k) ?_
    refine Goes.via (S' := (T53.setTop (mkF m 106 #[.val (.int p0), .val (.int p1), .val r1, .val (.int (1 : Int32)), .val (.int v28), .val (.ref b29), .val (.ref xg)] [(.ref xg), (.ref b29)]))) (fun t k => XS.aload X53.here hx rfl (hb hby at_104) rfl rfl k) ?_
    obtain ⟨cq54, kq54, q54a, q54b, q54c⟩ := isOf hZ eq53 po41_0
    obtain ⟨_, _, ⟨T54, L54, k54, n54⟩, -, X54, ⟨Lc54, hQ54, l54, y54, z54⟩, st54⟩ := X53.virtualBack hx (y := (⟨"com/example/careful_store/carefulstore/Lock", "covers", "(Lcom/example/careful_store/carefulstore/Lock;)Z"⟩ : MethodName)) (z := (⟨"com/example/careful_store/carefulstore/Lock", "covers", "(Lcom/example/careful_store/carefulstore/Lock;)Z"⟩ : MethodName)) hown (mvT hZ (hw _ (List.mem_of_getElem? (i := 47) rfl))) (mvT hZ (hw _ (List.mem_of_getElem? (i := 48) rfl))) (notFace_of_selects (args := #[]) (mvT hZ (hw _ (List.mem_of_getElem? (i := 50) rfl)))) (mvT hZ (hw _ (List.mem_of_getElem? (i := 50) rfl))) (mvT hZ (hw _ (List.mem_of_getElem? (i := 49) rfl))) (by decide) (backOf (W := 0) (rm9 l Z a0 hw [] b29 xg T41.heap n0 Z41 f46 f48 po41_2) hZ (hw _ (List.mem_of_getElem? (i := 51) rfl)) (hw _ (List.mem_of_getElem? (i := 7) rfl)) (by decide) (by decide)) q54a q54c (g := (mkF m 106 #[.val (.int p0), .val (.int p1), .val r1, .val (.int (1 : Int32)), .val (.int v28), .val (.ref b29), .val (.ref xg)] [(.ref xg), (.ref b29)])) rfl (by rw [hml]; rfl) (Steps.refl _) (argsL := [(.ref xg)]) (rest := []) (lenOf pd_6 rfl) rfl (by show 2 * 0 + _ ≤ _; exact Nat.le_of_eq rfl) (hb hby at_106) (fun _ _ => ⟨rfl, eq53, (by decide : 1 + 0 ≤ _), (by decide : 3 + 0 ≤ _)⟩)
    dsimp only [Pt.U, Pt.locs, Pt.cells, Pt.slots] at X54 l54 y54 z54 st54 hQ54
    subst l54 y54 z54
    obtain ⟨rfl, N54q, eq54⟩ := hQ54
    have N54 := Fr.app N53 N54q
    refine Goes.via (S' := (T54.setTop (mkF m 109 #[.val (.int p0), .val (.int p1), .val r1, .val (.int (1 : Int32)), .val (.int v28), .val (.ref b29), .val (.ref xg)] [(.int (1 : Int32))]))) (fun t k => st54.trans k) ?_
    refine Goes.via (S' := (T54.setTop (mkF m 114 #[.val (.int p0), .val (.int p1), .val r1, .val (.int (1 : Int32)), .val (.int v28), .val (.ref b29), .val (.ref xg)] []))) (fun t k => XS.ifYes X54.here hx rfl (pc0 := 109) (pc' := 114) rfl (hb hby at_109) rfl ((if0 _ _).trans (feq (by decide : ¬ ((1 : Int32) = (0 : Int32)))).2) (by decide) (by decide) k) ?_
    refine Goes.via (S' := (T54.setTop (mkF m 116 #[.val (.int p0), .val (.int p1), .val r1, .val (.int (1 : Int32)), .val (.int v28), .val (.ref b29), .val (.ref xg)] [(.ref xg)]))) (fun t k => XS.aload X54.here hx rfl (hb hby at_114) rfl rfl k) ?_
    obtain ⟨cq55, kq55, q55a, q55b, q55c⟩ := isOf hZ eq54 f45
    obtain ⟨_, _, ⟨T55, L55, k55, n55⟩, -, X55, ⟨Lc55, hQ55, l55, y55, z55⟩, st55⟩ := X54.virtualBack hx (y := (⟨"com/example/careful_store/carefulstore/Lock", "gapPart", "()Lcom/example/careful_store/carefulstore/Lock;"⟩ : MethodName)) (z := (⟨"com/example/careful_store/carefulstore/Lock", "gapPart", "()Lcom/example/careful_store/carefulstore/Lock;"⟩ : MethodName)) hown (mvT hZ (hw _ (List.mem_of_getElem? (i := 25) rfl))) (mvT hZ (hw _ (List.mem_of_getElem? (i := 26) rfl))) (notFace_of_selects (args := #[]) (mvT hZ (hw _ (List.mem_of_getElem? (i := 28) rfl)))) (mvT hZ (hw _ (List.mem_of_getElem? (i := 28) rfl))) (mvT hZ (hw _ (List.mem_of_getElem? (i := 27) rfl))) (by decide) (backOf (W := 0) (rm5y l Z a0 hw [] xg xg T41.heap n0 Z41 f47 f44) hZ (hw _ (List.mem_of_getElem? (i := 29) rfl)) (hw _ (List.mem_of_getElem? (i := 7) rfl)) (by decide) (by decide)) q55a q55c (g := (mkF m 116 #[.val (.int p0), .val (.int p1), .val r1, .val (.int (1 : Int32)), .val (.int v28), .val (.ref b29), .val (.ref xg)] [(.ref xg)])) rfl (by rw [hml]; rfl) (Steps.refl _) (argsL := []) (rest := []) (lenOf pd_3 rfl) rfl (by show 2 * 0 + _ ≤ _; exact Nat.le_of_eq rfl) (hb hby at_116) (fun _ _ => ⟨rfl, eq54, (by decide : 1 + 0 ≤ _), (by decide : 3 + 0 ≤ _)⟩)
    dsimp only [Pt.U, Pt.locs, Pt.cells, Pt.slots] at X55 l55 y55 z55 st55 hQ55
    subst l55 y55 z55
    obtain ⟨rfl, N55q, eq55⟩ := hQ55
    have N55 := Fr.app N54 N55q
    refine Goes.via (S' := (T55.setTop (mkF m 119 #[.val (.int p0), .val (.int p1), .val r1, .val (.int (1 : Int32)), .val (.int v28), .val (.ref b29), .val (.ref xg)] [(.ref xg)]))) (fun t k => st55.trans k) ?_
    refine Goes.via (S' := (T55.setTop (mkF m 121 #[.val (.int p0), .val (.int p1), .val r1, .val (.int (1 : Int32)), .val (.int v28), .val (.ref b29), .val (.ref xg)] [(.ref xg), (.ref xg)]))) (fun t k => XS.aload X55.here hx rfl (hb hby at_119) rfl rfl k) ?_
    refine Goes.via (S' := (T55.setTop (mkF m 124 #[.val (.int p0), .val (.int p1), .val r1, .val (.int (1 : Int32)), .val (.int v28), .val (.ref b29), .val (.ref xg)] []))) (fun t k => Jvm.RoadKit.acmp (g := (mkF m 121 #[.val (.int p0), .val (.int p1), .val r1, .val (.int (1 : Int32)), .val (.int v28), .val (.ref b29), .val (.ref xg)] [(.ref xg), (.ref xg)])) X55 hx rfl rfl rfl (pc0 := 121) (pc' := 124) (same := true) rfl (hb hby at_121) rfl (decide_eq_true rfl) (by decide) (by decide) k) ?_
    refine Goes.via (S' := (T55.setTop (mkF m 125 #[.val (.int p0), .val (.int p1), .val r1, .val (.int (1 : Int32)), .val (.int v28), .val (.ref b29), .val (.ref xg)] [(.int (1 : Int32))]))) (fun t k => XS.iconst X55.here hx rfl (hb hby at_124) k) ?_
    refine Goes.via (S' := (T55.setTop (mkF m 129 #[.val (.int p0), .val (.int p1), .val r1, .val (.int (1 : Int32)), .val (.int v28), .val (.ref b29), .val (.ref xg)] [(.int (1 : Int32))]))) (fun t k => XS.goto X55.here hx rfl (pc0 := 125) (pc' := 129) rfl (hb hby at_125) (by decide) (by decide) k) ?_
    exact own_ret X55 hx Bd.notSynchronized Bd.returns rfl (Or.inl ⟨rfl, by simp, _, rfl⟩) (hb hby at_129) eq55 ⟨rfl, N55⟩ (by decide) (by decide)
set_option maxRecDepth 65536 in
set_option maxHeartbeats 40000000 in
theorem comes_1 {Post : Tables → Env → Array Value → State → Outcome → State → Prop} (hpost : ∀ tb e args s v u, (limb_1_1.after args s (.returned v) u = true ∧ limb_1_2.after args s (.returned v) u = true ∧ True) → FrameEnd s (.returned v) u (Jvm.fieldLocs frame_1_writes args s ++ Jvm.arrayLocs frame_1_arrays args s ++ Jvm.staticLocs frame_1_statics s) 16 128 → Post tb e args s (.returned v) u) :
    ArmFor flags0 classFile x code maxLocals ret World_1 tables_1 room_1 Calls_1 rest_1 Pre_1 Post := by
  intro l hfl _ _ p e ha hc hk s m args below hf hA hF happ hP
  obtain ⟨hcalls, hrest, hpre⟩ := hP
  obtain ⟨-, -, -, hnamed, -, -, -, hat⟩ := (Spec.applies_iff hf).mp happ
  obtain ⟨hg, hn⟩ := and_e (Cond.before_iff.mp (show (Jvm.Cond.and given_1 narrow_1).before args s = true from hpre))
  obtain ⟨g1, g2⟩ := and_e hg
  obtain ⟨g3, g4⟩ := and_e g2
  obtain ⟨w0, w1, rfl⟩ : ∃ w0 w1 : Value, args = #[w0, w1] := by
    have hs : args.size = 2 := by simpa [Cond.value, given_1] using g1
    obtain ⟨L⟩ := args
    match L, hs with
    | [w0, w1], _ => exact ⟨w0, w1, rfl⟩
  have hw := fun d (hd : d ∈ tables_1) => atoms_spec (ws := Jvm.Cond.code x code maxLocals ret :: tables_1) hat d (List.mem_cons_of_mem _ hd)
  have hfit : Fit s := fun {y c} hc i hi => by
    obtain ⟨ha, rfl⟩ := Array.getElem?_eq_some_iff.mp hc
    have q := List.all_eq_true.mp ((Array.all_eq_true_iff_forall_mem.mp hF) _ (Array.getElem_mem ha)) i (List.mem_range.mpr hi)
    simpa [Array.getElem?_eq_getElem hi] using q
  obtain ⟨i0, ei0⟩ := is_v g3
  obtain rfl : w0 = (.int i0) := Option.some.inj ei0
  obtain ⟨i1, ei1⟩ := is_v g4
  obtain rfl : w1 = (.int i1) := Option.some.inj ei1
  obtain ⟨g5, g6⟩ := and_e hn
  obtain ⟨g7, g8⟩ := and_e g6
  obtain ⟨g9, g10⟩ := and_e g8
  obtain ⟨g11, g12⟩ := and_e g10
  obtain ⟨g13, g14⟩ := and_e g12
  obtain ⟨xs, S1, E1, v1⟩ := own_exS g14 (hw _ (List.mem_of_getElem? (i := 53) rfl)) (hw _ (List.mem_of_getElem? (i := 56) rfl))
  obtain ⟨xe, S2, E2, v2⟩ := own_exS g13 (hw _ (List.mem_of_getElem? (i := 53) rfl)) (hw _ (List.mem_of_getElem? (i := 54) rfl))
  obtain ⟨xg, S3, E3, v3⟩ := own_exS g5 (hw _ (List.mem_of_getElem? (i := 7) rfl)) (hw _ (List.mem_of_getElem? (i := 31) rfl))
  have F1 := own_fldN v3 g7
  have F2 := own_fldI v3 g9
  have F3 := own_fldI v3 g11
  obtain ⟨n, o, h1, h2, h3, _, L, rfl, ⟨rfl, N⟩, hq⟩ := rm0 l s _ hw tables_1 i0 i1 xs xe xg s.heap s.heap.size (Nat.le_refl _) S1 S2 S3 E3 F1 F2 F3 p e ha hc hk s m _ below hf ((Spec.applies_iff_loose hf).mp happ).1 ⟨rfl, State.Warmed39.refl s, rfl⟩ trivial
  refine ⟨n, _, h1, h2, h3, hpost _ _ _ _ _ _ ⟨Cond.after_iff.mpr rfl, Cond.after_iff.mpr (eq_i res_at (Term.int_eval (1)) rfl), trivial⟩ ⟨hq.1, hq.2.1, (hq.2.2.sift fun y hy => Or.inr (N y hy)).mono (by decide) (by decide)⟩⟩
theorem main_1_1 : Claimed_1_1 := comes_1 fun _ _ _ _ _ _ h hF => ⟨h.1, hF⟩
theorem main_1_2 : Claimed_1_2 := comes_1 fun _ _ _ _ _ _ h hF => ⟨h.2.1, hF⟩
end Jvm.Pilot.@@N@@
namespace Jvm.Pilot.@@N@@
open Jvm Jvm.ClassFile Sem Op Lib Jvm.Free Jvm.Stand Jvm.Pilot.@@N@@.Jvm.D
/-! MADE BY PROGRAM (witnessworld.py) out of the Statement's table words and the real class files: 14 classes; the members and pool entries that the words name. The judged class is class 1, her method 2. -/
namespace start1
open Jvm.ClassFile
def u (s : String) : CpInfo := .utf8 (stringToUtf16 s)
/-- a pool by its gaps: so many unusable entries, then the entry; so many at the end -/
def gap : Nat → List CpInfo → List CpInfo
  | 0, r => r
  | n + 1, r => .unusable :: gap n r
def poolList (es : List (Nat × CpInfo)) (last : Nat) : List CpInfo := es.foldr (fun e r => gap e.1 (e.2 :: r)) (gap last [])
def pool (es : List (Nat × CpInfo)) (last : Nat) : Array CpInfo := ⟨poolList es last⟩
def fileOf (pool : Array CpInfo) (this : Nat) (attrs : Array Attribute := #[]) (ms : Array MethodInfo := #[]) (fl : Nat := 33) (sup : Nat := 0) (ifs : Array Nat := #[]) (fds : Array FieldInfo := #[]) : ClassFile where
  minorVersion := 0
  majorVersion := 65
  constantPool := pool
  accessFlags := fl
  thisClass := this
  superClass := sup
  interfaces := ifs
  fields := fds
  methods := ms
  attributes := attrs
def plain (name : String) (sup : Option ClassId) : Class where
  name := name
  kind := .ordinary
  loader := none
  accessFlags := 33
  super := sup
  interfaces := #[]
  cf := none
  fields := #[]
  methods := #[]
  instanceTypes := #[]
  staticTypes := #[]
  resolved := #[]
  callSites := []
  init := .initialized
  statics := none
  mirror := none

def pool0 : Array CpInfo := pool [(5, u "<init>"), (0, u "()V"), (1, .class_ 10), (1, u "java/lang/Object")] 113

def k0c0 : Code := { maxStack := 0, maxLocals := 1, code := object_method_1_code, exceptionTable := #[], attributes := #[] }
def k0m0 : Method := { name := "<init>", desc := "()V", sig := { parameters := [], returnType := none }, accessFlags := 1, code := some k0c0 }
/-- java/lang/Object -/
def k0 : Class := { plain "java/lang/Object" none with
  accessFlags := 33
  interfaces := #[]
  cf := some (fileOf pool0 8 #[] #[{ accessFlags := 1, nameIndex := 5, descriptorIndex := 6, attributes := #[] }] 33 0 #[] #[])
  fields := #[]
  methods := #[k0m0]
  instanceTypes := #[]
  staticTypes := #[]
  resolved := Array.replicate 124 none
  statics := none }

def pool1 : Array CpInfo := pool [(2, .class_ 4), (1, u "java/lang/Object"), (0, u "<init>"), (0, u "()V"), (0, .integer 2147483647), (0, .fieldref 9 10), (0, .class_ 11), (0, .nameAndType 12 13), (0, u "com/example/careful_store/carefulstore/LockMode"), (0, u "SHARE"), (0, u "Lcom/example/careful_store/carefulstore/LockMode;"), (0, .fieldref 9 15), (0, .nameAndType 16 13), (0, u "EXCLUSIVE"), (0, .methodref 18 19), (0, .class_ 20), (0, .nameAndType 21 22), (0, u "com/example/careful_store/carefulstore/LockGapPartPinLaw"), (0, u "modeOf"), (0, u "(I)Lcom/example/careful_store/carefulstore/LockMode;"), (0, .class_ 24), (0, u "com/example/careful_store/carefulstore/Lock"), (0, .methodref 23 26), (0, .nameAndType 5 27), (0, u "(Lcom/example/careful_store/carefulstore/LockMode;ZZ)V"), (0, .methodref 23 29), (0, .nameAndType 30 31), (0, u "gapPart"), (0, u "()Lcom/example/careful_store/carefulstore/Lock;"), (0, .methodref 23 33), (0, .nameAndType 34 35), (0, u "mode"), (0, u "()Lcom/example/careful_store/carefulstore/LockMode;"), (0, .methodref 23 37), (0, .nameAndType 38 39), (0, u "gap"), (0, u "()Z"), (0, .methodref 23 41), (0, .nameAndType 42 39), (0, u "insert"), (0, .methodref 23 44), (0, .nameAndType 45 46), (0, u "covers"), (0, u "(Lcom/example/careful_store/carefulstore/Lock;)Z"), (3, u "law"), (0, u "(II)Z")] 2

def k1m0 : Method := { name := "<init>", desc := "()V", sig := { parameters := [], returnType := none }, accessFlags := 1, code := none }
def k1c1 : Code := { maxStack := 2, maxLocals := 2, code := method_2_code, exceptionTable := #[], attributes := #[] }
def k1m1 : Method := { name := "modeOf", desc := "(I)Lcom/example/careful_store/carefulstore/LockMode;", sig := { parameters := [.int], returnType := some (.object "com/example/careful_store/carefulstore/LockMode") }, accessFlags := 10, code := some k1c1 }
def k1c2 : Code := { maxStack := 5, maxLocals := 7, code := code, exceptionTable := #[], attributes := #[] }
def k1m2 : Method := { name := "law", desc := "(II)Z", sig := { parameters := [.int, .int], returnType := some .boolean }, accessFlags := 9, code := some k1c2 }
/-- com/example/careful_store/carefulstore/LockGapPartPinLaw -/
def k1 : Class := { plain "com/example/careful_store/carefulstore/LockGapPartPinLaw" (some 0) with
  accessFlags := 49
  interfaces := #[]
  cf := some (fileOf pool1 18 #[] #[{ accessFlags := 1, nameIndex := 5, descriptorIndex := 6, attributes := #[] }, { accessFlags := 10, nameIndex := 21, descriptorIndex := 22, attributes := #[] }, { accessFlags := 9, nameIndex := 50, descriptorIndex := 51, attributes := #[] }] 49 2 #[] #[])
  fields := #[]
  methods := #[k1m0, k1m1, k1m2]
  instanceTypes := #[]
  staticTypes := #[]
  resolved := Array.replicate 54 none
  statics := none }

def pool2 : Array CpInfo := pool [(1, .methodref 2 3), (0, .class_ 4), (0, .nameAndType 5 6), (0, u "java/lang/Object"), (0, u "<init>"), (0, u "()V"), (0, .class_ 8), (0, u "java/lang/Record")] 13

def k2c0 : Code := { maxStack := 1, maxLocals := 1, code := jdk_30_method_1_code, exceptionTable := #[], attributes := #[] }
def k2m0 : Method := { name := "<init>", desc := "()V", sig := { parameters := [], returnType := none }, accessFlags := 4, code := some k2c0 }
/-- java/lang/Record -/
def k2 : Class := { plain "java/lang/Record" (some 0) with
  accessFlags := 1057
  interfaces := #[]
  cf := some (fileOf pool2 7 #[] #[{ accessFlags := 4, nameIndex := 5, descriptorIndex := 6, attributes := #[] }] 1057 2 #[] #[])
  fields := #[]
  methods := #[k2m0]
  instanceTypes := #[]
  staticTypes := #[]
  resolved := Array.replicate 22 none
  statics := none }

def pool3 : Array CpInfo := pool [(1, .methodref 2 3), (0, .class_ 4), (0, .nameAndType 5 6), (0, u "java/lang/Record"), (0, u "<init>"), (0, u "()V"), (0, .fieldref 8 9), (0, .class_ 10), (0, .nameAndType 11 12), (0, u "com/example/careful_store/carefulstore/Lock"), (0, u "mode"), (0, u "Lcom/example/careful_store/carefulstore/LockMode;"), (0, .fieldref 8 14), (0, .nameAndType 15 16), (0, u "gap"), (0, u "Z"), (0, .fieldref 8 18), (0, .nameAndType 19 16), (0, u "insert"), (2, u "(Lcom/example/careful_store/carefulstore/LockMode;ZZ)V"), (9, .fieldref 8 33), (0, .nameAndType 34 35), (0, u "GAP"), (0, u "Lcom/example/careful_store/carefulstore/Lock;"), (14, u "INSERT"), (7, u "(Lcom/example/careful_store/carefulstore/Lock;)Z"), (1, u "covers"), (2, u "gapPart"), (0, u "()Lcom/example/careful_store/carefulstore/Lock;"), (3, u "()Lcom/example/careful_store/carefulstore/LockMode;"), (0, u "()Z")] 23

def k3c0 : Code := { maxStack := 2, maxLocals := 4, code := prog_27_method_1_code, exceptionTable := #[], attributes := #[] }
def k3m0 : Method := { name := "<init>", desc := "(Lcom/example/careful_store/carefulstore/LockMode;ZZ)V", sig := { parameters := [(.object "com/example/careful_store/carefulstore/LockMode"), .boolean, .boolean], returnType := none }, accessFlags := 0, code := some k3c0 }
def k3c1 : Code := { maxStack := 2, maxLocals := 3, code := prog_27_method_5_code, exceptionTable := #[], attributes := #[] }
def k3m1 : Method := { name := "covers", desc := "(Lcom/example/careful_store/carefulstore/Lock;)Z", sig := { parameters := [(.object "com/example/careful_store/carefulstore/Lock")], returnType := some .boolean }, accessFlags := 0, code := some k3c1 }
def k3c2 : Code := { maxStack := 1, maxLocals := 1, code := prog_27_method_7_code, exceptionTable := #[], attributes := #[] }
def k3m2 : Method := { name := "gapPart", desc := "()Lcom/example/careful_store/carefulstore/Lock;", sig := { parameters := [], returnType := some (.object "com/example/careful_store/carefulstore/Lock") }, accessFlags := 0, code := some k3c2 }
def k3c3 : Code := { maxStack := 1, maxLocals := 1, code := prog_27_method_11_code, exceptionTable := #[], attributes := #[] }
def k3m3 : Method := { name := "mode", desc := "()Lcom/example/careful_store/carefulstore/LockMode;", sig := { parameters := [], returnType := some (.object "com/example/careful_store/carefulstore/LockMode") }, accessFlags := 1, code := some k3c3 }
def k3c4 : Code := { maxStack := 1, maxLocals := 1, code := prog_27_method_12_code, exceptionTable := #[], attributes := #[] }
def k3m4 : Method := { name := "gap", desc := "()Z", sig := { parameters := [], returnType := some .boolean }, accessFlags := 1, code := some k3c4 }
def k3c5 : Code := { maxStack := 1, maxLocals := 1, code := prog_27_method_13_code, exceptionTable := #[], attributes := #[] }
def k3m5 : Method := { name := "insert", desc := "()Z", sig := { parameters := [], returnType := some .boolean }, accessFlags := 1, code := some k3c5 }
/-- com/example/careful_store/carefulstore/Lock -/
def k3 : Class := { plain "com/example/careful_store/carefulstore/Lock" (some 2) with
  accessFlags := 48
  interfaces := #[]
  cf := some (fileOf pool3 8 #[] #[{ accessFlags := 0, nameIndex := 5, descriptorIndex := 22, attributes := #[] }, { accessFlags := 0, nameIndex := 60, descriptorIndex := 58, attributes := #[] }, { accessFlags := 0, nameIndex := 63, descriptorIndex := 64, attributes := #[] }, { accessFlags := 1, nameIndex := 11, descriptorIndex := 68, attributes := #[] }, { accessFlags := 1, nameIndex := 15, descriptorIndex := 69, attributes := #[] }, { accessFlags := 1, nameIndex := 19, descriptorIndex := 69, attributes := #[] }] 48 2 #[] #[{ accessFlags := 18, nameIndex := 11, descriptorIndex := 12, attributes := #[] }, { accessFlags := 18, nameIndex := 15, descriptorIndex := 16, attributes := #[] }, { accessFlags := 18, nameIndex := 19, descriptorIndex := 16, attributes := #[] }, { accessFlags := 24, nameIndex := 34, descriptorIndex := 35, attributes := #[] }, { accessFlags := 24, nameIndex := 50, descriptorIndex := 35, attributes := #[] }])
  fields := #[{ name := "mode", type := (.object "com/example/careful_store/carefulstore/LockMode"), accessFlags := 18, slot := 0, constantValue := 0 }, { name := "gap", type := .boolean, accessFlags := 18, slot := 1, constantValue := 0 }, { name := "insert", type := .boolean, accessFlags := 18, slot := 2, constantValue := 0 }, { name := "GAP", type := (.object "com/example/careful_store/carefulstore/Lock"), accessFlags := 24, slot := 0, constantValue := 0 }, { name := "INSERT", type := (.object "com/example/careful_store/carefulstore/Lock"), accessFlags := 24, slot := 1, constantValue := 0 }]
  methods := #[k3m0, k3m1, k3m2, k3m3, k3m4, k3m5]
  instanceTypes := #[(.object "com/example/careful_store/carefulstore/LockMode"), .boolean, .boolean]
  staticTypes := #[(.object "com/example/careful_store/carefulstore/Lock"), (.object "com/example/careful_store/carefulstore/Lock")]
  resolved := Array.replicate 93 none
  statics := some 0 }

def pool4 : Array CpInfo := pool [(1, .class_ 2), (0, u "java/lang/constant/Constable"), (0, .class_ 4), (0, u "java/lang/Object")] 6

/-- java/lang/constant/Constable -/
def k4 : Class := { plain "java/lang/constant/Constable" (some 0) with
  accessFlags := 1537
  interfaces := #[]
  cf := some (fileOf pool4 1 #[] #[] 1537 3 #[] #[])
  fields := #[]
  methods := #[]
  instanceTypes := #[]
  staticTypes := #[]
  resolved := Array.replicate 11 none
  statics := none }

def pool5 : Array CpInfo := pool [(1, .class_ 2), (0, u "java/lang/Comparable"), (0, .class_ 4), (0, u "java/lang/Object")] 7

/-- java/lang/Comparable -/
def k5 : Class := { plain "java/lang/Comparable" (some 0) with
  accessFlags := 1537
  interfaces := #[]
  cf := some (fileOf pool5 1 #[] #[] 1537 3 #[] #[])
  fields := #[]
  methods := #[]
  instanceTypes := #[]
  staticTypes := #[]
  resolved := Array.replicate 12 none
  statics := none }

def pool6 : Array CpInfo := pool [(1, .class_ 2), (0, u "java/io/Serializable"), (0, .class_ 4), (0, u "java/lang/Object")] 2

/-- java/io/Serializable -/
def k6 : Class := { plain "java/io/Serializable" (some 0) with
  accessFlags := 1537
  interfaces := #[]
  cf := some (fileOf pool6 1 #[] #[] 1537 3 #[] #[])
  fields := #[]
  methods := #[]
  instanceTypes := #[]
  staticTypes := #[]
  resolved := Array.replicate 7 none
  statics := none }

def pool7 : Array CpInfo := pool [(2, .class_ 4), (1, u "java/lang/Enum"), (0, u "name"), (0, u "Ljava/lang/String;"), (2, u "ordinal"), (0, u "I"), (1, .class_ 14), (1, u "java/lang/Object"), (4, u "hash"), (86, .class_ 108), (1, u "java/lang/Enum$EnumDesc"), (2, .class_ 112), (0, u "java/lang/constant/Constable"), (0, .class_ 114), (0, u "java/lang/Comparable"), (0, .class_ 116), (0, u "java/io/Serializable")] 87

/-- java/lang/Enum -/
def k7 : Class := { plain "java/lang/Enum" (some 0) with
  accessFlags := 1057
  interfaces := #[4, 5, 6]
  cf := some (fileOf pool7 2 #[.nestMembers #[106]] #[] 1057 12 #[111, 113, 115] #[{ accessFlags := 18, nameIndex := 5, descriptorIndex := 6, attributes := #[] }, { accessFlags := 18, nameIndex := 9, descriptorIndex := 10, attributes := #[] }, { accessFlags := 2, nameIndex := 19, descriptorIndex := 10, attributes := #[] }])
  fields := #[{ name := "name", type := (.object "java/lang/String"), accessFlags := 18, slot := 0, constantValue := 0 }, { name := "ordinal", type := .int, accessFlags := 18, slot := 1, constantValue := 0 }, { name := "hash", type := .int, accessFlags := 2, slot := 2, constantValue := 0 }]
  methods := #[]
  instanceTypes := #[(.object "java/lang/String"), .int, .int]
  staticTypes := #[]
  resolved := Array.replicate 204 none
  statics := none }

def pool8 : Array CpInfo := pool [(1, .class_ 2), (0, u "com/example/careful_store/carefulstore/LockMode"), (2, u "SHARE"), (0, u "Lcom/example/careful_store/carefulstore/LockMode;"), (2, u "EXCLUSIVE"), (2, u "$VALUES"), (0, u "[Lcom/example/careful_store/carefulstore/LockMode;"), (6, .class_ 22), (1, u "java/lang/Enum")] 27

/-- com/example/careful_store/carefulstore/LockMode -/
def k8 : Class := { plain "com/example/careful_store/carefulstore/LockMode" (some 7) with
  accessFlags := 16433
  interfaces := #[]
  cf := some (fileOf pool8 1 #[] #[] 16433 20 #[] #[{ accessFlags := 16409, nameIndex := 5, descriptorIndex := 6, attributes := #[] }, { accessFlags := 16409, nameIndex := 9, descriptorIndex := 6, attributes := #[] }, { accessFlags := 4122, nameIndex := 12, descriptorIndex := 13, attributes := #[] }])
  fields := #[{ name := "SHARE", type := (.object "com/example/careful_store/carefulstore/LockMode"), accessFlags := 16409, slot := 0, constantValue := 0 }, { name := "EXCLUSIVE", type := (.object "com/example/careful_store/carefulstore/LockMode"), accessFlags := 16409, slot := 1, constantValue := 0 }, { name := "$VALUES", type := (.array (.object "com/example/careful_store/carefulstore/LockMode")), accessFlags := 4122, slot := 2, constantValue := 0 }]
  methods := #[]
  instanceTypes := #[(.object "java/lang/String"), .int, .int]
  staticTypes := #[(.object "com/example/careful_store/carefulstore/LockMode"), (.object "com/example/careful_store/carefulstore/LockMode"), (.array (.object "com/example/careful_store/carefulstore/LockMode"))]
  resolved := Array.replicate 50 none
  statics := some 1 }

def pool9 : Array CpInfo := pool [(1, u "java/lang/Cloneable"), (0, .class_ 1), (0, u "java/lang/Object"), (0, .class_ 3)] 3

/-- java/lang/Cloneable -/
def k9 : Class := { plain "java/lang/Cloneable" (some 0) with
  accessFlags := 1537
  interfaces := #[]
  cf := some (fileOf pool9 2 #[] #[] 1537 4 #[] #[])
  fields := #[]
  methods := #[]
  instanceTypes := #[]
  staticTypes := #[]
  resolved := Array.replicate 8 none
  statics := none }

/-- the primitive byte -/
def k10 : Class := { plain "byte" none with kind := .primitive 'B', accessFlags := 0x411 }
/-- [B -/
def k11 : Class := { plain "[B" (some 0) with kind := .array 10 .byte, interfaces := #[9, 6], accessFlags := 1041 }

/-- the primitive int -/
def k12 : Class := { plain "int" none with kind := .primitive 'I', accessFlags := 0x411 }
/-- [I -/
def k13 : Class := { plain "[I" (some 0) with kind := .array 12 .int, interfaces := #[9, 6], accessFlags := 1041 }

def heap : Heap := #[{ cls := 3, slots := #[.ref 4, .null], vm := .statics 3 },
  { cls := 8, slots := #[.ref 2, .ref 3, .null], vm := .statics 8 },
  { cls := 8, slots := #[.null, .int 0, .int 0], vm := .none },
  { cls := 8, slots := #[.null, .int 1, .int 0], vm := .none },
  { cls := 3, slots := #[.null, .int 1, .int 0], vm := .none }]
def classes : Array Class := #[k0, k1, k2, k3, k4, k5, k6, k7, k8, k9, k10, k11, k12, k13]
def interned : List (Array UInt16 × Addr) := []
def slotsUsed : Nat := 14
def theMethod : MethodId := ⟨1, 2⟩
def args0 : Array Value := #[.int 5, .int 5]
def aboutOver (below : List Frame) : State where
  vm := { classes := classes, interned := interned.toArray }
  heap := heap
  slotsUsed := slotsUsed
  threads := #[{ frames := .invoking theMethod args0 :: below }]
def below0 : List Frame := [.native { method := ⟨0, 0⟩, args := #[] }]
def about1 : State := aboutOver below0
def p0 : Program := .bare "" "" ""
def e0 : Env := launch0.env 0 0 0
theorem w_frames : about1.frames = Frame.invoking theMethod args0 :: below0 := rfl
set_option maxRecDepth 65536 in
theorem w_args : argsFit about1.vm theMethod args0 = true := by decide +kernel
set_option maxRecDepth 65536 in
theorem w_heap : heapFits about1 = true := by decide +kernel
set_option maxRecDepth 65536 in
theorem w_runnable : about1.curStatus? = some .runnable := by decide +kernel
set_option maxRecDepth 65536 in
theorem w_alone : about1.alone = true := by decide +kernel
set_option maxRecDepth 65536 in
theorem w_named : about1.methodNamed? x = some theMethod := by decide +kernel
set_option maxRecDepth 65536 in
theorem w_hears : about1.hears theMethod below0 = true := by decide +kernel
set_option maxRecDepth 65536 in
theorem w_ripe : about1.ripe theMethod args0 below0 = true := by decide +kernel
theorem w_running : about1.status = .running := rfl
set_option maxRecDepth 65536 in
theorem w_room : about1.hasRoom e0.platform room_1 = true :=
  launch0.hasRoom_least _ room_1 (by decide +kernel) (by decide +kernel) (by decide +kernel) (by decide +kernel) (by decide +kernel) (by decide +kernel)
theorem allAtoms_all (ts : List Jvm.Cond) (a : Array Jvm.Value) (st : Jvm.State) : (allAtoms ts).before a st = ts.all (fun c => c.before a st) := by
  induction ts with
  | nil => rfl
  | cons c t ih =>
    show (Jvm.Cond.and c (allAtoms t)).before a st = _
    rw [Jvm.Cond.before_and, ih, List.all_cons]
def words1 : List Jvm.Cond := Jvm.Cond.code x code maxLocals ret :: tables_1
/-- a 'code' word, met by the world's own term for the bytes: nothing is compared byte by byte -/
theorem code_word {y : MethodName} {bytes : ByteArray} {mx : Nat} {rt : Option FieldType} {a : Array Value} {s : State} {m : MethodId} {meth : Method} {c : Code} (h1 : s.methodNamed? y = some m) (h2 : s.vm.method? m = some meth) (h3 : meth.code = some c) (h4 : c.code = bytes)
    (h5 : (c.maxLocals == mx && c.exceptionTable.isEmpty && decide (c.maxStack ≤ mostOperands) && decide (meth.sig.returnType = rt) && !meth.locks && decide (parseMethodDescriptor y.desc = some meth.sig)) = true) : (Jvm.Cond.code y bytes mx rt).before a s = true := by
  simp only [Bool.and_eq_true, beq_iff_eq, Bool.not_eq_true', decide_eq_true_eq] at h5
  obtain ⟨⟨⟨⟨⟨g1, g2⟩, g3⟩, g4⟩, g5⟩, g6⟩ := h5
  simp [Cond.before, Cond.holds, Cond.value, h1, h2, h3, h4, g1, g2, g3, g4, g5, g6]
def isCode : Jvm.Cond → Bool
  | .code _ _ _ _ => true
  | _ => false
theorem all_split {L : List Jvm.Cond} {P : Jvm.Cond → Bool} (h1 : L.all (fun c => isCode c || P c) = true) (h2 : ∀ c ∈ L.filter isCode, P c = true) : L.all P = true := by
  refine List.all_eq_true.mpr fun c hc => ?_
  have h := List.all_eq_true.mp h1 c hc
  rcases Bool.eq_false_or_eq_true (isCode c) with hi | hi
  · exact h2 c (List.mem_filter.mpr ⟨hc, hi⟩)
  · simpa [hi] using h
set_option maxRecDepth 65536 in
theorem w_c0 : (Jvm.Cond.code x code maxLocals ret).before args0 about1 = true := code_word (m := ⟨1, 2⟩) (meth := k1m2) (c := k1c2) (by decide +kernel) rfl rfl rfl (by decide +kernel)
set_option maxRecDepth 65536 in
theorem w_c1 : (Jvm.Cond.code ({ cls := "com/example/careful_store/carefulstore/LockGapPartPinLaw", name := "modeOf", desc := "(I)Lcom/example/careful_store/carefulstore/LockMode;" } : Jvm.MethodName) method_2_code (2 : Nat) (Option.some (Jvm.ClassFile.FieldType.object "com/example/careful_store/carefulstore/LockMode"))).before args0 about1 = true := code_word (m := ⟨1, 1⟩) (meth := k1m1) (c := k1c1) (by decide +kernel) rfl rfl rfl (by decide +kernel)
set_option maxRecDepth 65536 in
theorem w_c2 : (Jvm.Cond.code ({ cls := "com/example/careful_store/carefulstore/Lock", name := "<init>", desc := "(Lcom/example/careful_store/carefulstore/LockMode;ZZ)V" } : Jvm.MethodName) prog_27_method_1_code (4 : Nat) (Option.none : Option Jvm.ClassFile.FieldType)).before args0 about1 = true := code_word (m := ⟨3, 0⟩) (meth := k3m0) (c := k3c0) (by decide +kernel) rfl rfl rfl (by decide +kernel)
set_option maxRecDepth 65536 in
theorem w_c3 : (Jvm.Cond.code ({ cls := "java/lang/Record", name := "<init>", desc := "()V" } : Jvm.MethodName) jdk_30_method_1_code (1 : Nat) (Option.none : Option Jvm.ClassFile.FieldType)).before args0 about1 = true := code_word (m := ⟨2, 0⟩) (meth := k2m0) (c := k2c0) (by decide +kernel) rfl rfl rfl (by decide +kernel)
set_option maxRecDepth 65536 in
theorem w_c4 : (Jvm.Cond.code ({ cls := "java/lang/Object", name := "<init>", desc := "()V" } : Jvm.MethodName) object_method_1_code (1 : Nat) (Option.none : Option Jvm.ClassFile.FieldType)).before args0 about1 = true := code_word (m := ⟨0, 0⟩) (meth := k0m0) (c := k0c0) (by decide +kernel) rfl rfl rfl (by decide +kernel)
set_option maxRecDepth 65536 in
theorem w_c5 : (Jvm.Cond.code ({ cls := "com/example/careful_store/carefulstore/Lock", name := "gapPart", desc := "()Lcom/example/careful_store/carefulstore/Lock;" } : Jvm.MethodName) prog_27_method_7_code (1 : Nat) (Option.some (Jvm.ClassFile.FieldType.object "com/example/careful_store/carefulstore/Lock"))).before args0 about1 = true := code_word (m := ⟨3, 2⟩) (meth := k3m2) (c := k3c2) (by decide +kernel) rfl rfl rfl (by decide +kernel)
set_option maxRecDepth 65536 in
theorem w_c6 : (Jvm.Cond.code ({ cls := "com/example/careful_store/carefulstore/Lock", name := "mode", desc := "()Lcom/example/careful_store/carefulstore/LockMode;" } : Jvm.MethodName) prog_27_method_11_code (1 : Nat) (Option.some (Jvm.ClassFile.FieldType.object "com/example/careful_store/carefulstore/LockMode"))).before args0 about1 = true := code_word (m := ⟨3, 3⟩) (meth := k3m3) (c := k3c3) (by decide +kernel) rfl rfl rfl (by decide +kernel)
set_option maxRecDepth 65536 in
theorem w_c7 : (Jvm.Cond.code ({ cls := "com/example/careful_store/carefulstore/Lock", name := "gap", desc := "()Z" } : Jvm.MethodName) prog_27_method_12_code (1 : Nat) (Option.some Jvm.ClassFile.FieldType.boolean)).before args0 about1 = true := code_word (m := ⟨3, 4⟩) (meth := k3m4) (c := k3c4) (by decide +kernel) rfl rfl rfl (by decide +kernel)
set_option maxRecDepth 65536 in
theorem w_c8 : (Jvm.Cond.code ({ cls := "com/example/careful_store/carefulstore/Lock", name := "insert", desc := "()Z" } : Jvm.MethodName) prog_27_method_13_code (1 : Nat) (Option.some Jvm.ClassFile.FieldType.boolean)).before args0 about1 = true := code_word (m := ⟨3, 5⟩) (meth := k3m5) (c := k3c5) (by decide +kernel) rfl rfl rfl (by decide +kernel)
set_option maxRecDepth 65536 in
theorem w_c9 : (Jvm.Cond.code ({ cls := "com/example/careful_store/carefulstore/Lock", name := "covers", desc := "(Lcom/example/careful_store/carefulstore/Lock;)Z" } : Jvm.MethodName) prog_27_method_5_code (3 : Nat) (Option.some Jvm.ClassFile.FieldType.boolean)).before args0 about1 = true := code_word (m := ⟨3, 1⟩) (meth := k3m1) (c := k3c1) (by decide +kernel) rfl rfl rfl (by decide +kernel)
def codes1 : List Jvm.Cond := [Jvm.Cond.code x code maxLocals ret, Jvm.Cond.code ({ cls := "com/example/careful_store/carefulstore/LockGapPartPinLaw", name := "modeOf", desc := "(I)Lcom/example/careful_store/carefulstore/LockMode;" } : Jvm.MethodName) method_2_code (2 : Nat) (Option.some (Jvm.ClassFile.FieldType.object "com/example/careful_store/carefulstore/LockMode")), Jvm.Cond.code ({ cls := "com/example/careful_store/carefulstore/Lock", name := "<init>", desc := "(Lcom/example/careful_store/carefulstore/LockMode;ZZ)V" } : Jvm.MethodName) prog_27_method_1_code (4 : Nat) (Option.none : Option Jvm.ClassFile.FieldType), Jvm.Cond.code ({ cls := "java/lang/Record", name := "<init>", desc := "()V" } : Jvm.MethodName) jdk_30_method_1_code (1 : Nat) (Option.none : Option Jvm.ClassFile.FieldType), Jvm.Cond.code ({ cls := "java/lang/Object", name := "<init>", desc := "()V" } : Jvm.MethodName) object_method_1_code (1 : Nat) (Option.none : Option Jvm.ClassFile.FieldType), Jvm.Cond.code ({ cls := "com/example/careful_store/carefulstore/Lock", name := "gapPart", desc := "()Lcom/example/careful_store/carefulstore/Lock;" } : Jvm.MethodName) prog_27_method_7_code (1 : Nat) (Option.some (Jvm.ClassFile.FieldType.object "com/example/careful_store/carefulstore/Lock")), Jvm.Cond.code ({ cls := "com/example/careful_store/carefulstore/Lock", name := "mode", desc := "()Lcom/example/careful_store/carefulstore/LockMode;" } : Jvm.MethodName) prog_27_method_11_code (1 : Nat) (Option.some (Jvm.ClassFile.FieldType.object "com/example/careful_store/carefulstore/LockMode")), Jvm.Cond.code ({ cls := "com/example/careful_store/carefulstore/Lock", name := "gap", desc := "()Z" } : Jvm.MethodName) prog_27_method_12_code (1 : Nat) (Option.some Jvm.ClassFile.FieldType.boolean), Jvm.Cond.code ({ cls := "com/example/careful_store/carefulstore/Lock", name := "insert", desc := "()Z" } : Jvm.MethodName) prog_27_method_13_code (1 : Nat) (Option.some Jvm.ClassFile.FieldType.boolean), Jvm.Cond.code ({ cls := "com/example/careful_store/carefulstore/Lock", name := "covers", desc := "(Lcom/example/careful_store/carefulstore/Lock;)Z" } : Jvm.MethodName) prog_27_method_5_code (3 : Nat) (Option.some Jvm.ClassFile.FieldType.boolean)]
set_option maxRecDepth 65536 in
theorem codes_eq : words1.filter isCode = codes1 := rfl
theorem w_codes : ∀ c ∈ words1.filter isCode, c.before args0 about1 = true := by
  rw [codes_eq]
  intro c hc
  simp only [codes1, List.mem_cons, List.not_mem_nil, or_false] at hc
  rcases hc with rfl | rfl | rfl | rfl | rfl | rfl | rfl | rfl | rfl | rfl
  · exact w_c0
  · exact w_c1
  · exact w_c2
  · exact w_c3
  · exact w_c4
  · exact w_c5
  · exact w_c6
  · exact w_c7
  · exact w_c8
  · exact w_c9
set_option maxRecDepth 65536 in
theorem w_t1 : (words1.take 24).all (fun c => isCode c || c.before args0 about1) = true := by decide +kernel
set_option maxRecDepth 65536 in
theorem w_t2 : ((words1.drop 24).take 24).all (fun c => isCode c || c.before args0 about1) = true := by decide +kernel
set_option maxRecDepth 65536 in
theorem w_t3 : ((words1.drop 24).drop 24).all (fun c => isCode c || c.before args0 about1) = true := by decide +kernel
theorem w_tables : (allAtoms (Jvm.Cond.code x code maxLocals ret :: tables_1)).before args0 about1 = true := by
  rw [allAtoms_all]
  show words1.all (fun c => c.before args0 about1) = true
  refine all_split ?_ w_codes
  rw [← List.take_append_drop 24 words1, List.all_append, w_t1, ← List.take_append_drop 24 (words1.drop 24), List.all_append, w_t2, w_t3]
  rfl
set_option maxRecDepth 65536 in
theorem w_case : (Jvm.Cond.and given_1 narrow_1).before args0 about1 = true := by decide +kernel
theorem w_applies : (headSpec (Jvm.Cond.code x code maxLocals ret :: tables_1) room_1).applies x e0.platform about1 = true :=
  (Spec.applies_iff w_frames).mpr ⟨w_running, w_runnable, w_alone, w_named, w_hears, w_ripe, w_room, w_tables⟩
theorem atStart : AtStart classFile x code maxLocals ret World_1 tables_1 room_1 Calls_1 rest_1 Pre_1 launch0 p0 e0 about1 theMethod args0 below0 :=
  ⟨lists_1, trivial, launch0.admits_env _ _ _, launch0.least_env, fairChoices_fair.cas, fairChoices_fair.clock, w_frames, w_args, w_heap, w_applies, trivial, trivial, w_case⟩
end start1
theorem witness_1 : WitnessClaimed_1 := ⟨start1.p0, start1.e0, start1.about1, start1.theMethod, start1.args0, start1.below0, start1.atStart⟩
end Jvm.Pilot.@@N@@
