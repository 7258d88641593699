import JvmDerived
import JvmDerived.Pilot.@@N@@Statement
import JvmDerived.Pilot.@@N@@Code
set_option linter.unusedVariables false
set_option linter.unusedSimpArgs false
namespace Jvm.RoadKit
open Sem ClassFile Op Lib Jvm.Stand Jvm.Free Jvm.LawKit
section New
variable {p : Program} {l : Launch} {e : Env} {R : Room} {s : State} {m : MethodId} {args : Array Value} {below : List Frame} {meth : Method} {c : Code} {T : State} {locs : List Loc} {cells slots : Nat}
theorem retI (X : Stand p l e R s m args below meth c T locs cells slots) (hx : p.tables.exec = Jvm.exec) {pc : Nat} {Ls : Array Slot} {z : Int32} {rest : List Value} (hret : meth.sig.returnType = some .int) (hd : decode c.code pc = .ok (.ireturn, 1)) {fs : List Frame}
    (hl : ∀ (f : JFrame) (acts : List Action), f.method = m → f.locked = none → f.entered = [] → (doReturn e (T.setTop f) acts (some (.int z))).1 = T.setFrames fs) : Steps p.tables e below (T.setTop (mkF m pc Ls (.int z :: rest))) (T.setFrames fs) :=
  retOut X hx hret rfl (Or.inl ⟨rfl, Or.inl rfl, z, rfl⟩) hd hl
end New
end Jvm.RoadKit
namespace Jvm.Pilot.@@N@@
open Jvm Jvm.ClassFile Sem Op Lib Jvm.Free Jvm.Stand Jvm.LawKit Jvm.RoadKit Bundle Jvm.Pilot.@@N@@.Jvm.D
/-! small laws of this text's own -/
theorem own_eqv {args : Array Value} {first s : State} {o : Option Outcome} {idx : List Nat} {a b : Term} {v : Value} (h : (Jvm.Cond.eq a b).value args first o s idx = some true) (hb : b.eval args first o idx s = some v) : a.eval args first o idx s = some v := by
  cases ha : a.eval args first o idx s with
  | none => simp [Cond.value, ha] at h
  | some x => cases x <;> cases v <;> simp_all [Cond.value]
theorem own_fld {args : Array Value} {s : State} {t b : Term} {x : Addr} {C n d : String} {v : Value} (ht : t.eval args s none [] s = some (.ref x)) (h : (Jvm.Cond.eq (.field t C n d) b).value args s none s [] = some true) (hb : b.eval args s none [] s = some v) : Fld s s.heap x C n d v :=
  Fld.start ((fld_at ht).symm.trans (own_eqv h hb))
theorem own_len {args : Array Value} {s : State} {t : Term} {x : Addr} {c : Cell} {n : Int32} (ht : t.eval args s none [] s = some (.ref x)) (hc : s.heap[x]? = some c) (h : (Jvm.Cond.eq (.length t) (.int n)).value args s none s [] = some true) : c.slots.size < 2 ^ 31 ∧ c.slots.size.toInt32 = n := by
  have e := own_eqv h (v := .int n) rfl
  simp only [Term.eval, ht, Option.bind_eq_bind, Option.bind_some] at e
  cases hq : s.arrayAt? x with
  | none => simp [hq] at e
  | some c' =>
    have h1 := (State.arrayAt?_spec hq).1
    cases hc.symm.trans h1
    simp only [hq, Option.bind_some] at e
    split at e
    · rename_i hl; exact ⟨hl, by simpa using e⟩
    · cases e
theorem own_elem {args : Array Value} {s : State} {t b : Term} {x : Addr} {c : Cell} {j : Int32} {v : Value} (ht : t.eval args s none [] s = some (.ref x)) (hc : s.heap[x]? = some c) (h : (Jvm.Cond.eq (.elem t (.int j)) b).value args s none s [] = some true) (hb : b.eval args s none [] s = some v) : c.slots[j.toNatClampNeg]? = some v :=
  (elem_in (own_eqv h hb) ht rfl hc).2
theorem own_selpriv {y : MethodName} {s : State} {args : Array Value} {n : Nat} (hy : y.cls ≠ "java/lang/invoke/MethodHandle" ∧ y.cls ≠ "java/lang/invoke/VarHandle") (hins : (Jvm.Cond.instantiable y.cls n).before args s = true) (hpriv : (Jvm.Cond.privateMethod y).before args s = true) (hinst : (Jvm.Cond.instanceMethod y).before args s = true) : (Jvm.Cond.selects y.cls y y).before args s = true := by
  obtain ⟨c, k, hc, hk, -, hniab, -, -⟩ := Cond.instantiable_spec hins
  exact Stand.selects_self_of_private hc hk (Bool.or_eq_false_iff.mp hniab).1 (Cond.privateMethod_at hpriv) hinst hy
theorem own_ext {h0 h : Heap} (K : Keep h0 h []) : Ext h0 h := ⟨K.1, fun x c q => K.2.1 x c q (fun z => nomatch z)⟩
theorem own_cat1 {v : Value} (h : v.isRef = true) : v.category = 1 := by cases v <;> first | rfl | simp [Value.isRef] at h
theorem own_narref {t : FieldType} {v : Value} (h : t.isReference = true) (hv : v.isRef = true) : narrow t v = v := by
  cases v <;> first | (simp [Value.isRef] at hv; done) | (cases t <;> first | rfl | simp [FieldType.isReference] at h)
theorem own_store1 {l : Array Slot} {i : Nat} {v : Value} {o : Slot} (hold : l[i]? = some o) (ho : o = .unset ∨ ∃ w, o = .val w ∧ w.category = 1) (hv : v.category = 1) : storeLocals l i v = some (l.setIfInBounds i (.val v)) := XS.store1 hold ho hv
def own_Base (Z : State) (u : Nat → Addr) : Prop :=
  (Sta Z Z.heap "com/example/vestry/vestry/plan/Form" "LUMP_SUM" "Lcom/example/vestry/vestry/plan/Form;" (.ref (u 0))) ∧
  (Exa Z Z.heap (u 0) "com/example/vestry/vestry/plan/Form") ∧
  (Sta Z Z.heap "com/example/vestry/vestry/plan/Form" "QUARTERLY" "Lcom/example/vestry/vestry/plan/Form;" (.ref (u 1))) ∧
  (Exa Z Z.heap (u 1) "com/example/vestry/vestry/plan/Form") ∧
  (Sta Z Z.heap "com/example/vestry/vestry/plan/Form" "ANNUAL" "Lcom/example/vestry/vestry/plan/Form;" (.ref (u 2))) ∧
  (Exa Z Z.heap (u 2) "com/example/vestry/vestry/plan/Form") ∧
  (Fld Z Z.heap (u 0) "com/example/vestry/vestry/plan/Form" "monthsApart" "I" (.int (0 : Int32))) ∧
  (Fld Z Z.heap (u 1) "com/example/vestry/vestry/plan/Form" "monthsApart" "I" (.int (3 : Int32))) ∧
  (Fld Z Z.heap (u 2) "com/example/vestry/vestry/plan/Form" "monthsApart" "I" (.int (12 : Int32)))
theorem own_pd0 : parseMethodDescriptor "()Z" = some ⟨[], some .boolean⟩ := by decide +kernel
theorem own_pd1 : parseMethodDescriptor "(I)J" = some ⟨[.int], some .long⟩ := by decide +kernel
theorem d2_0 : decode prog_32_method_5_code 0 = .ok (.iload_n 1, 1) := by decide +kernel
theorem d2_1 : decode prog_32_method_5_code 1 = .ok (.i2l, 1) := by decide +kernel
theorem d2_2 : decode prog_32_method_5_code 2 = .ok (.bipush 12, 2) := by decide +kernel
theorem d2_4 : decode prog_32_method_5_code 4 = .ok (.aload_n 0, 1) := by decide +kernel
theorem d2_5 : decode prog_32_method_5_code 5 = .ok (.getfield 32, 3) := by decide +kernel
theorem d2_8 : decode prog_32_method_5_code 8 = .ok (.idiv, 1) := by decide +kernel
theorem d2_9 : decode prog_32_method_5_code 9 = .ok (.i2l, 1) := by decide +kernel
theorem d2_10 : decode prog_32_method_5_code 10 = .ok (.lmul, 1) := by decide +kernel
theorem d2_11 : decode prog_32_method_5_code 11 = .ok (.lreturn, 1) := by decide +kernel
theorem own_pn_2 : plainName "com/example/vestry/vestry/plan/Form" = true := by first | (simp [plainName, overriddenIn]; done) | decide +kernel
theorem own_ef_2 (m : MethodId) (x0 : Addr) (x1 : Int32) : entryFrame m #[(.ref x0), (.int x1)] 2 = mkF m 0 #[.val (.ref x0), .val (.int x1)] [] := by first | (simp [entryFrame, mkF, argsToLocals, Value.category]; done) | rfl
def own_Q2 (Z : State) (u : Nat → Addr) (r0 : Addr) (p1 : Int32) (w_monthsApart_r0 : Int32) (h0 : Heap) (n0 : Nat) (v : Option Value) (h : Heap) (L : List Loc) : Prop := v = some (.long ((p1.toInt64) * (((12 : Int32) / w_monthsApart_r0).toInt64))) ∧ Fr n0 L ∧ h = h0
set_option maxRecDepth 65536 in
set_option maxHeartbeats 40000000 in
theorem rm2 (l : Launch) (Z : State) (a0 : Array Value) (hw : ∀ d ∈ tables_1, d.before a0 Z = true) (ws : List Jvm.Cond) (u : Nat → Addr) (r0 : Addr) (p1 : Int32) (w_monthsApart_r0 : Int32) (B : own_Base Z u) (h0 : Heap) (n0 : Nat) (O : Old Z n0 h0) (hz : w_monthsApart_r0 ≠ 0) (F_w_monthsApart_r0 : Fld Z h0 r0 "com/example/vestry/vestry/plan/Form" "monthsApart" "I" (.int w_monthsApart_r0)) :
    MetFree l (⟨"com/example/vestry/vestry/plan/Form", "installmentsWithin", "(I)J"⟩ : MethodName) (head1 (Jvm.Cond.code (⟨"com/example/vestry/vestry/plan/Form", "installmentsWithin", "(I)J"⟩ : MethodName) prog_32_method_5_code 2 (some .long) :: ws) ({ frames := 0, cells := 0, slots := 0, locals := 0 } : Room)) (fun a U => a = #[(.ref r0), (.int p1)] ∧ Z.Warmed39 U.vm ∧ U.heap = h0) (fun _ _ _ _ _ => True) (fun _ U o U' => ∃ v L, o = .returned v ∧ own_Q2 Z u r0 p1 w_monthsApart_r0 h0 n0 v U'.heap L ∧ FrameEnd U o U' L ({ frames := 0, cells := 0, slots := 0, locals := 0 } : Room).cells ({ frames := 0, cells := 0, slots := 0, locals := 0 } : Room).slots) := by
  refine MetFree.of_bodySF (plainFor_of_name own_pn_2) hisR ?_
  intro p e s m args below meth c s₁ Bd hml0 hP hK
  obtain ⟨rfl, hZ, hh⟩ := hP
  have hx := Bd.exec
  have hby := Bd.bytes
  have hml : c.maxLocals = 2 := hml0
  have hown : s.vm.findClass "com/example/vestry/vestry/plan/Form" = some m.cls := findClass_of_methodNamed Bd.named
  have hnm := (name_of_methodNamed Bd.named Bd.method).1
  have X0 : Stand p l e ({ frames := 0, cells := 0, slots := 0, locals := 0 } : Room) s m #[(.ref r0), (.int p1)] below meth c s₁ [] 0 0 := Stand.of_body Bd
  have e0 : s₁.heap = h0 := by rw [← hh, Bd.state]; rfl
  have N0 := Fr.nil n0
  have K0 := Keep.refl h0 []
  have Z0 : n0 ≤ h0.size := O.1 ▸ O.2.1
  have pre0 : ∀ t, Steps p.tables e below (s₁.setTop (mkF m 0 #[.val (.ref r0), .val (.int p1)] [])) t → Steps p.tables e below (s₁.setTop (entryFrame m #[(.ref r0), (.int p1)] 2)) t := fun t k => castTop (own_ef_2 m r0 p1) k
  obtain ⟨T1, X1, e1, st1⟩ := getF X0 hx hZ hown (host := "") (Or.inl (hw _ (List.mem_of_getElem? (i := 9) rfl))) Via.refl e0 F_w_monthsApart_r0 (g := (mkF m 5 #[.val (.ref r0), .val (.int p1)] [(.ref r0), (.int (12 : Int32)), (.long (p1.toInt64))])) rfl rfl (hb hby d2_5)
  obtain ⟨fs, hr, hrun, hended, hW, hsame⟩ := X1.leave (v := some (.long ((p1.toInt64) * (((12 : Int32) / w_monthsApart_r0).toInt64)))) (fun h => by rw [Bd.returns] at h; cases h)
  refine ⟨_, _, pre0 _ ?_, hrun, hended, _, _, rfl, ?_, ⟨_, rfl⟩, hW, hsame.mono (by decide) (by decide)⟩
  · show Steps p.tables e below (s₁.setTop (mkF m 0 #[.val (.ref r0), .val (.int p1)] [])) _
    refine XS.iloadN X0.here hx rfl (hb hby d2_0) rfl ?_
    show Steps p.tables e below (s₁.setTop (mkF m 1 #[.val (.ref r0), .val (.int p1)] [(.int p1)])) _
    refine XS.i2l X0.here hx rfl (hb hby d2_1) rfl ?_
    show Steps p.tables e below (s₁.setTop (mkF m 2 #[.val (.ref r0), .val (.int p1)] [(.long (p1.toInt64))])) _
    refine XS.bipush X0.here hx rfl (hb hby d2_2) ?_
    show Steps p.tables e below (s₁.setTop (mkF m 4 #[.val (.ref r0), .val (.int p1)] [(.int (12 : Int32)), (.long (p1.toInt64))])) _
    refine XS.aloadN X0.here hx rfl (hb hby d2_4) rfl rfl ?_
    show Steps p.tables e below (s₁.setTop (mkF m 5 #[.val (.ref r0), .val (.int p1)] [(.ref r0), (.int (12 : Int32)), (.long (p1.toInt64))])) _
    refine st1 _ ?_
    show Steps p.tables e below (T1.setTop (mkF m 8 #[.val (.ref r0), .val (.int p1)] [(.int w_monthsApart_r0), (.int (12 : Int32)), (.long (p1.toInt64))])) _
    refine XS.idiv X1.here hx rfl (hb hby d2_8) rfl hz ?_
    show Steps p.tables e below (T1.setTop (mkF m 9 #[.val (.ref r0), .val (.int p1)] [(.int ((12 : Int32) / w_monthsApart_r0)), (.long (p1.toInt64))])) _
    refine XS.i2l X1.here hx rfl (hb hby d2_9) rfl ?_
    show Steps p.tables e below (T1.setTop (mkF m 10 #[.val (.ref r0), .val (.int p1)] [(.long (((12 : Int32) / w_monthsApart_r0).toInt64)), (.long (p1.toInt64))])) _
    refine XS.lmul X1.here hx rfl (hb hby d2_10) rfl ?_
    show Steps p.tables e below (T1.setTop (mkF m 11 #[.val (.ref r0), .val (.int p1)] [(.long ((p1.toInt64) * (((12 : Int32) / w_monthsApart_r0).toInt64)))])) _
    exact retOut X1 hx (t := .long) Bd.returns rfl (Or.inr (Or.inl ⟨rfl, rfl, _, rfl⟩)) (hb hby d2_11) hr
  · show own_Q2 Z u r0 p1 w_monthsApart_r0 h0 n0 _ T1.heap _
    rw [e1]
    exact ⟨rfl, N0, rfl⟩
theorem d1_0 : decode prog_32_method_4_code 0 = .ok (.aload_n 0, 1) := by decide +kernel
theorem d1_1 : decode prog_32_method_4_code 1 = .ok (.getfield 32, 3) := by decide +kernel
theorem d1_4 : decode prog_32_method_4_code 4 = .ok (.ifCond .le 7, 3) := by decide +kernel
theorem d1_7 : decode prog_32_method_4_code 7 = .ok (.iconst 1, 1) := by decide +kernel
theorem d1_8 : decode prog_32_method_4_code 8 = .ok (.goto 4, 3) := by decide +kernel
theorem d1_11 : decode prog_32_method_4_code 11 = .ok (.iconst 0, 1) := by decide +kernel
theorem d1_12 : decode prog_32_method_4_code 12 = .ok (.ireturn, 1) := by decide +kernel
theorem own_pn_1 : plainName "com/example/vestry/vestry/plan/Form" = true := by first | (simp [plainName, overriddenIn]; done) | decide +kernel
theorem own_ef_1 (m : MethodId) (x0 : Addr) : entryFrame m #[(.ref x0)] 1 = mkF m 0 #[.val (.ref x0)] [] := by first | (simp [entryFrame, mkF, argsToLocals, Value.category]; done) | rfl
def own_r1 (u : Nat → Addr) (r0 : Addr) (w_monthsApart_r0 : Int32) : Int32 :=
  if (0 : Int32) < w_monthsApart_r0 then
    (1 : Int32)
  else
    (0 : Int32)
def own_Q1 (Z : State) (u : Nat → Addr) (r0 : Addr) (w_monthsApart_r0 : Int32) (h0 : Heap) (n0 : Nat) (v : Option Value) (h : Heap) (L : List Loc) : Prop := v = some (.int (own_r1 u r0 w_monthsApart_r0)) ∧ Fr n0 L ∧ h = h0
set_option maxRecDepth 65536 in
set_option maxHeartbeats 40000000 in
theorem rm1 (l : Launch) (Z : State) (a0 : Array Value) (hw : ∀ d ∈ tables_1, d.before a0 Z = true) (ws : List Jvm.Cond) (u : Nat → Addr) (r0 : Addr) (w_monthsApart_r0 : Int32) (B : own_Base Z u) (h0 : Heap) (n0 : Nat) (O : Old Z n0 h0) (F_w_monthsApart_r0 : Fld Z h0 r0 "com/example/vestry/vestry/plan/Form" "monthsApart" "I" (.int w_monthsApart_r0)) :
    MetFree l (⟨"com/example/vestry/vestry/plan/Form", "isInInstallments", "()Z"⟩ : MethodName) (head1 (Jvm.Cond.code (⟨"com/example/vestry/vestry/plan/Form", "isInInstallments", "()Z"⟩ : MethodName) prog_32_method_4_code 1 (some .boolean) :: ws) ({ frames := 0, cells := 0, slots := 0, locals := 0 } : Room)) (fun a U => a = #[(.ref r0)] ∧ Z.Warmed39 U.vm ∧ U.heap = h0) (fun _ _ _ _ _ => True) (fun _ U o U' => ∃ v L, o = .returned v ∧ own_Q1 Z u r0 w_monthsApart_r0 h0 n0 v U'.heap L ∧ FrameEnd U o U' L ({ frames := 0, cells := 0, slots := 0, locals := 0 } : Room).cells ({ frames := 0, cells := 0, slots := 0, locals := 0 } : Room).slots) := by
  refine MetFree.of_bodySF (plainFor_of_name own_pn_1) hisR ?_
  intro p e s m args below meth c s₁ Bd hml0 hP hK
  obtain ⟨rfl, hZ, hh⟩ := hP
  have hx := Bd.exec
  have hby := Bd.bytes
  have hml : c.maxLocals = 1 := hml0
  have hown : s.vm.findClass "com/example/vestry/vestry/plan/Form" = some m.cls := findClass_of_methodNamed Bd.named
  have hnm := (name_of_methodNamed Bd.named Bd.method).1
  have X0 : Stand p l e ({ frames := 0, cells := 0, slots := 0, locals := 0 } : Room) s m #[(.ref r0)] below meth c s₁ [] 0 0 := Stand.of_body Bd
  have e0 : s₁.heap = h0 := by rw [← hh, Bd.state]; rfl
  have N0 := Fr.nil n0
  have K0 := Keep.refl h0 []
  have Z0 : n0 ≤ h0.size := O.1 ▸ O.2.1
  have pre0 : ∀ t, Steps p.tables e below (s₁.setTop (mkF m 0 #[.val (.ref r0)] [])) t → Steps p.tables e below (s₁.setTop (entryFrame m #[(.ref r0)] 1)) t := fun t k => castTop (own_ef_1 m r0) k
  obtain ⟨T3, X3, e3, st3⟩ := getF X0 hx hZ hown (host := "") (Or.inl (hw _ (List.mem_of_getElem? (i := 9) rfl))) Via.refl e0 F_w_monthsApart_r0 (g := (mkF m 1 #[.val (.ref r0)] [(.ref r0)])) rfl rfl (hb hby d1_1)
  have pre4 : ∀ t, Steps p.tables e below (T3.setTop (mkF m 4 #[.val (.ref r0)] [(.int w_monthsApart_r0)])) t → Steps p.tables e below (s₁.setTop (entryFrame m #[(.ref r0)] 1)) t := fun t kt => pre0 t (by
    show Steps p.tables e below (s₁.setTop (mkF m 0 #[.val (.ref r0)] [])) _
    refine XS.aloadN X0.here hx rfl (hb hby d1_0) rfl rfl ?_
    show Steps p.tables e below (s₁.setTop (mkF m 1 #[.val (.ref r0)] [(.ref r0)])) _
    refine st3 _ ?_
    exact kt)
  by_cases hc5 : (0 : Int32) < w_monthsApart_r0
  · --
    obtain ⟨fs, hr, hrun, hended, hW, hsame⟩ := X3.leave (v := some (.int (1 : Int32))) (fun h => by rw [Bd.returns] at h; cases h)
    refine ⟨_, _, pre4 _ ?_, hrun, hended, _, _, rfl, ?_, ⟨_, rfl⟩, hW, hsame.mono (by decide) (by decide)⟩
    · show Steps p.tables e below (T3.setTop (mkF m 4 #[.val (.ref r0)] [(.int w_monthsApart_r0)])) _
      refine XS.ifNo X3.here hx rfl (hb hby d1_4) rfl ((if0 _ _).trans (tlt hc5).2.2.2) ?_
      show Steps p.tables e below (T3.setTop (mkF m 7 #[.val (.ref r0)] [])) _
      refine XS.iconst X3.here hx rfl (hb hby d1_7) ?_
      show Steps p.tables e below (T3.setTop (mkF m 8 #[.val (.ref r0)] [(.int (1 : Int32))])) _
      refine XS.goto X3.here hx rfl (pc0 := 8) (pc' := 12) rfl (hb hby d1_8) (by decide) (by decide) ?_
      show Steps p.tables e below (T3.setTop (mkF m 12 #[.val (.ref r0)] [(.int (1 : Int32))])) _
      exact retN X3 hx (t := .boolean) Bd.returns (by simp) (hb hby d1_12) hr
    · show own_Q1 Z u r0 w_monthsApart_r0 h0 n0 _ T3.heap _
      rw [e3]
      exact ⟨(by unfold own_r1; rw [if_pos hc5]), N0, rfl⟩
  · --
    obtain ⟨fs, hr, hrun, hended, hW, hsame⟩ := X3.leave (v := some (.int (0 : Int32))) (fun h => by rw [Bd.returns] at h; cases h)
    refine ⟨_, _, pre4 _ ?_, hrun, hended, _, _, rfl, ?_, ⟨_, rfl⟩, hW, hsame.mono (by decide) (by decide)⟩
    · show Steps p.tables e below (T3.setTop (mkF m 4 #[.val (.ref r0)] [(.int w_monthsApart_r0)])) _
      refine XS.ifYes X3.here hx rfl (pc0 := 4) (pc' := 11) rfl (hb hby d1_4) rfl ((if0 _ _).trans (flt hc5).2.2.2) (by decide) (by decide) ?_
      show Steps p.tables e below (T3.setTop (mkF m 11 #[.val (.ref r0)] [])) _
      refine XS.iconst X3.here hx rfl (hb hby d1_11) ?_
      show Steps p.tables e below (T3.setTop (mkF m 12 #[.val (.ref r0)] [(.int (0 : Int32))])) _
      exact retN X3 hx (t := .boolean) Bd.returns (by simp) (hb hby d1_12) hr
    · show own_Q1 Z u r0 w_monthsApart_r0 h0 n0 _ T3.heap _
      rw [e3]
      exact ⟨(by unfold own_r1; rw [if_neg hc5]), N0, rfl⟩
theorem own_pn_0 : plainName "com/example/vestry/vestry/plan/FormIsInInstallmentsPinLaw" = true := by first | (simp [plainName, overriddenIn]; done) | decide +kernel
theorem own_ef_0 (m : MethodId) (x0 : Int32) : entryFrame m #[(.int x0)] maxLocals = mkF m 0 #[.val (.int x0), .unset, .unset, .unset, .unset] [] := by first | (simp [entryFrame, mkF, argsToLocals, Value.category, maxLocals]; done) | rfl
def own_Q0 (Z : State) (u : Nat → Addr) (p0 : Int32) (h0 : Heap) (n0 : Nat) (v : Option Value) (h : Heap) (L : List Loc) : Prop := v = some (.int (1 : Int32)) ∧ Fr n0 L ∧ True
set_option maxRecDepth 65536 in
set_option maxHeartbeats 40000000 in
theorem rm0 (l : Launch) (Z : State) (a0 : Array Value) (hw : ∀ d ∈ tables_1, d.before a0 Z = true) (ws : List Jvm.Cond) (u : Nat → Addr) (p0 : Int32) (B : own_Base Z u) (h0 : Heap) (n0 : Nat) (O : Old Z n0 h0) :
    MetFree l x (head1 (Jvm.Cond.code x code maxLocals ret :: ws) room_1) (fun a U => a = #[(.int p0)] ∧ Z.Warmed39 U.vm ∧ U.heap = h0) (fun _ _ _ _ _ => True) (fun _ U o U' => ∃ v L, o = .returned v ∧ own_Q0 Z u p0 h0 n0 v U'.heap L ∧ FrameEnd U o U' L room_1.cells room_1.slots) := by
  refine MetFree.of_bodySF (plainFor_of_name own_pn_0) hisR ?_
  intro p e s m args below meth c s₁ Bd hml0 hP hK
  obtain ⟨rfl, hZ, hh⟩ := hP
  have hx := Bd.exec
  have hby := Bd.bytes
  have hml : c.maxLocals = 5 := hml0
  have hown : s.vm.findClass "com/example/vestry/vestry/plan/FormIsInInstallmentsPinLaw" = some m.cls := findClass_of_methodNamed Bd.named
  have hnm := (name_of_methodNamed Bd.named Bd.method).1
  have X0 : Stand p l e room_1 s m #[(.int p0)] below meth c s₁ [] 0 0 := Stand.of_body Bd
  have e0 : s₁.heap = h0 := by rw [← hh, Bd.state]; rfl
  have N0 := Fr.nil n0
  have K0 := Keep.refl h0 []
  have Z0 : n0 ≤ h0.size := O.1 ▸ O.2.1
  have pre0 : ∀ t, Steps p.tables e below (s₁.setTop (mkF m 0 #[.val (.int p0), .unset, .unset, .unset, .unset] [])) t → Steps p.tables e below (s₁.setTop (entryFrame m #[(.int p0)] maxLocals)) t := fun t k => castTop (own_ef_0 m p0) k
  have pre8 : ∀ t, Steps p.tables e below (s₁.setTop (mkF m 8 #[.val (.int p0), .val (.int ((p0 &&& (2147483647 : Int32)) % (3 : Int32))), .unset, .unset, .unset] [(.int ((p0 &&& (2147483647 : Int32)) % (3 : Int32)))])) t → Steps p.tables e below (s₁.setTop (entryFrame m #[(.int p0)] maxLocals)) t := fun t kt => pre0 t (by
    show Steps p.tables e below (s₁.setTop (mkF m 0 #[.val (.int p0), .unset, .unset, .unset, .unset] [])) _
    refine XS.iloadN X0.here hx rfl (hb hby at_0) rfl ?_
    show Steps p.tables e below (s₁.setTop (mkF m 1 #[.val (.int p0), .unset, .unset, .unset, .unset] [(.int p0)])) _
    refine X0.ldcInt hx hown (mvT hZ (hw _ (List.mem_of_getElem? (i := 0) rfl))) (g := (mkF m 1 #[.val (.int p0), .unset, .unset, .unset, .unset] [(.int p0)])) rfl (hb hby at_1) _ ?_
    show Steps p.tables e below (s₁.setTop (mkF m 3 #[.val (.int p0), .unset, .unset, .unset, .unset] [(.int (2147483647 : Int32)), (.int p0)])) _
    refine XS.iand X0.here hx rfl (hb hby at_3) rfl ?_
    show Steps p.tables e below (s₁.setTop (mkF m 4 #[.val (.int p0), .unset, .unset, .unset, .unset] [(.int (p0 &&& (2147483647 : Int32)))])) _
    refine XS.iconst X0.here hx rfl (hb hby at_4) ?_
    show Steps p.tables e below (s₁.setTop (mkF m 5 #[.val (.int p0), .unset, .unset, .unset, .unset] [(.int (3 : Int32)), (.int (p0 &&& (2147483647 : Int32)))])) _
    refine iremM X0 hx rfl (hb hby at_5) rfl (by decide) ?_
    show Steps p.tables e below (s₁.setTop (mkF m 6 #[.val (.int p0), .unset, .unset, .unset, .unset] [(.int ((p0 &&& (2147483647 : Int32)) % (3 : Int32)))])) _
    refine XS.istoreN X0.here hx rfl (hb hby at_6) rfl (l' := #[.val (.int p0), .val (.int ((p0 &&& (2147483647 : Int32)) % (3 : Int32))), .unset, .unset, .unset]) rfl ?_
    show Steps p.tables e below (s₁.setTop (mkF m 7 #[.val (.int p0), .val (.int ((p0 &&& (2147483647 : Int32)) % (3 : Int32))), .unset, .unset, .unset] [])) _
    refine XS.iloadN X0.here hx rfl (hb hby at_7) rfl ?_
    exact kt)
  by_cases hc9 : ((p0 &&& (2147483647 : Int32)) % (3 : Int32)) = (0 : Int32)
  · --
    obtain ⟨T10, X10, e10, st10⟩ := getS2 X0 hx hZ hown (host := "") (Or.inl (hw _ (List.mem_of_getElem? (i := 1) rfl))) Via.refl e0 (B.1.ext O.2) (g := (mkF m 11 #[.val (.int p0), .val (.int ((p0 &&& (2147483647 : Int32)) % (3 : Int32))), .unset, .unset, .unset] [])) rfl (hb hby at_11)
    have pre11 : ∀ t, Steps p.tables e below (T10.setTop (mkF m 43 #[.val (.int p0), .val (.int ((p0 &&& (2147483647 : Int32)) % (3 : Int32))), .val (.ref (u 0)), .val (.int (0 : Int32)), .unset] [(.ref (u 0))])) t → Steps p.tables e below (s₁.setTop (entryFrame m #[(.int p0)] maxLocals)) t := fun t kt => pre8 t (by
      show Steps p.tables e below (s₁.setTop (mkF m 8 #[.val (.int p0), .val (.int ((p0 &&& (2147483647 : Int32)) % (3 : Int32))), .unset, .unset, .unset] [(.int ((p0 &&& (2147483647 : Int32)) % (3 : Int32)))])) _
      refine XS.ifNo X0.here hx rfl (hb hby at_8) rfl ((if0 _ _).trans (teq hc9).2) ?_
      show Steps p.tables e below (s₁.setTop (mkF m 11 #[.val (.int p0), .val (.int ((p0 &&& (2147483647 : Int32)) % (3 : Int32))), .unset, .unset, .unset] [])) _
      refine st10 _ ?_
      show Steps p.tables e below (T10.setTop (mkF m 14 #[.val (.int p0), .val (.int ((p0 &&& (2147483647 : Int32)) % (3 : Int32))), .unset, .unset, .unset] [(.ref (u 0))])) _
      refine XS.goto X10.here hx rfl (pc0 := 14) (pc' := 31) rfl (hb hby at_14) (by decide) (by decide) ?_
      show Steps p.tables e below (T10.setTop (mkF m 31 #[.val (.int p0), .val (.int ((p0 &&& (2147483647 : Int32)) % (3 : Int32))), .unset, .unset, .unset] [(.ref (u 0))])) _
      refine XS.astoreN X10.here hx rfl (hb hby at_31) rfl rfl (l' := #[.val (.int p0), .val (.int ((p0 &&& (2147483647 : Int32)) % (3 : Int32))), .val (.ref (u 0)), .unset, .unset]) rfl ?_
      show Steps p.tables e below (T10.setTop (mkF m 32 #[.val (.int p0), .val (.int ((p0 &&& (2147483647 : Int32)) % (3 : Int32))), .val (.ref (u 0)), .unset, .unset] [])) _
      refine XS.iloadN X10.here hx rfl (hb hby at_32) rfl ?_
      show Steps p.tables e below (T10.setTop (mkF m 33 #[.val (.int p0), .val (.int ((p0 &&& (2147483647 : Int32)) % (3 : Int32))), .val (.ref (u 0)), .unset, .unset] [(.int ((p0 &&& (2147483647 : Int32)) % (3 : Int32)))])) _
      refine XS.ifYes X10.here hx rfl (pc0 := 33) (pc' := 40) rfl (hb hby at_33) rfl ((if0 _ _).trans (teq hc9).1) (by decide) (by decide) ?_
      show Steps p.tables e below (T10.setTop (mkF m 40 #[.val (.int p0), .val (.int ((p0 &&& (2147483647 : Int32)) % (3 : Int32))), .val (.ref (u 0)), .unset, .unset] [])) _
      refine XS.iconst X10.here hx rfl (hb hby at_40) ?_
      show Steps p.tables e below (T10.setTop (mkF m 41 #[.val (.int p0), .val (.int ((p0 &&& (2147483647 : Int32)) % (3 : Int32))), .val (.ref (u 0)), .unset, .unset] [(.int (0 : Int32))])) _
      refine XS.istoreN X10.here hx rfl (hb hby at_41) rfl (l' := #[.val (.int p0), .val (.int ((p0 &&& (2147483647 : Int32)) % (3 : Int32))), .val (.ref (u 0)), .val (.int (0 : Int32)), .unset]) rfl ?_
      show Steps p.tables e below (T10.setTop (mkF m 42 #[.val (.int p0), .val (.int ((p0 &&& (2147483647 : Int32)) % (3 : Int32))), .val (.ref (u 0)), .val (.int (0 : Int32)), .unset] [])) _
      refine XS.aloadN X10.here hx rfl (hb hby at_42) rfl rfl ?_
      exact kt)
    obtain ⟨cq12, kq12, q12a, q12b, q12c⟩ := isOf hZ e10 (B.2.1.ext O.2)
    obtain ⟨vr12, _, ⟨T12, L12, k12, n12⟩, -, X12, ⟨Lc12, hQ12, l12, y12, z12⟩, st12⟩ := X10.virtualBack hx (y := (⟨"com/example/vestry/vestry/plan/Form", "isInInstallments", "()Z"⟩ : MethodName)) (z := (⟨"com/example/vestry/vestry/plan/Form", "isInInstallments", "()Z"⟩ : MethodName)) hown (mvT hZ (hw _ (List.mem_of_getElem? (i := 4) rfl))) (mvT hZ (hw _ (List.mem_of_getElem? (i := 5) rfl))) (notFace_of_selects (args := #[]) (mvT hZ (hw _ (List.mem_of_getElem? (i := 7) rfl)))) (mvT hZ (hw _ (List.mem_of_getElem? (i := 7) rfl))) (mvT hZ (hw _ (List.mem_of_getElem? (i := 6) rfl))) (by decide) (backOf (W := 0) (rm1 l Z a0 hw [] u (u 0) (0 : Int32) B h0 n0 O (B.2.2.2.2.2.2.1.ext O.2)) hZ (hw _ (List.mem_of_getElem? (i := 8) rfl)) (hw _ (List.mem_of_getElem? (i := 2) rfl)) (by decide) (by decide)) q12a q12c (g := (mkF m 43 #[.val (.int p0), .val (.int ((p0 &&& (2147483647 : Int32)) % (3 : Int32))), .val (.ref (u 0)), .val (.int (0 : Int32)), .unset] [(.ref (u 0))])) rfl (by rw [hml]; rfl) (Steps.refl _) (argsL := []) (rest := []) (lenOf own_pd0 rfl) rfl (by show 2 * 0 + _ ≤ _; exact Nat.le_of_eq rfl) (hb hby at_43) (fun _ _ => ⟨rfl, e10, (by decide : 0 + 0 ≤ _), (by decide : 0 + 0 ≤ _)⟩)
    dsimp only [Pt.U, Pt.locs, Pt.cells, Pt.slots] at X12 l12 y12 z12 st12 hQ12
    subst l12 y12 z12
    obtain ⟨hv12, N12q, e12⟩ := hQ12
    have N12 := Fr.app N0 N12q
    obtain rfl : vr12 = some (.int (0 : Int32)) := hv12.trans (by unfold own_r1; rw [if_neg (by decide : ¬ ((0 : Int32) < (0 : Int32)))])
    obtain ⟨fs, hr, hrun, hended, hW, hsame⟩ := X12.leave (v := some (.int (1 : Int32))) (fun h => by rw [Bd.returns] at h; cases h)
    refine ⟨_, _, pre11 _ ?_, hrun, hended, _, _, rfl, ?_, ⟨_, rfl⟩, hW, hsame.mono (by decide) (by decide)⟩
    · show Steps p.tables e below (T10.setTop (mkF m 43 #[.val (.int p0), .val (.int ((p0 &&& (2147483647 : Int32)) % (3 : Int32))), .val (.ref (u 0)), .val (.int (0 : Int32)), .unset] [(.ref (u 0))])) _
      refine st12.trans ?_
      show Steps p.tables e below (T12.setTop (mkF m 46 #[.val (.int p0), .val (.int ((p0 &&& (2147483647 : Int32)) % (3 : Int32))), .val (.ref (u 0)), .val (.int (0 : Int32)), .unset] [(.int (0 : Int32))])) _
      refine XS.istore X12.here hx rfl (hb hby at_46) rfl (l' := #[.val (.int p0), .val (.int ((p0 &&& (2147483647 : Int32)) % (3 : Int32))), .val (.ref (u 0)), .val (.int (0 : Int32)), .val (.int (0 : Int32))]) rfl ?_
      show Steps p.tables e below (T12.setTop (mkF m 48 #[.val (.int p0), .val (.int ((p0 &&& (2147483647 : Int32)) % (3 : Int32))), .val (.ref (u 0)), .val (.int (0 : Int32)), .val (.int (0 : Int32))] [])) _
      refine XS.iload X12.here hx rfl (hb hby at_48) rfl ?_
      show Steps p.tables e below (T12.setTop (mkF m 50 #[.val (.int p0), .val (.int ((p0 &&& (2147483647 : Int32)) % (3 : Int32))), .val (.ref (u 0)), .val (.int (0 : Int32)), .val (.int (0 : Int32))] [(.int (0 : Int32))])) _
      refine XS.iloadN X12.here hx rfl (hb hby at_50) rfl ?_
      show Steps p.tables e below (T12.setTop (mkF m 51 #[.val (.int p0), .val (.int ((p0 &&& (2147483647 : Int32)) % (3 : Int32))), .val (.ref (u 0)), .val (.int (0 : Int32)), .val (.int (0 : Int32))] [(.int (0 : Int32)), (.int (0 : Int32))])) _
      refine XS.icmpYes X12.here hx rfl (pc0 := 51) (pc' := 56) rfl (hb hby at_51) rfl (teq (by decide : (0 : Int32) = (0 : Int32))).1 (by decide) (by decide) ?_
      show Steps p.tables e below (T12.setTop (mkF m 56 #[.val (.int p0), .val (.int ((p0 &&& (2147483647 : Int32)) % (3 : Int32))), .val (.ref (u 0)), .val (.int (0 : Int32)), .val (.int (0 : Int32))] [])) _
      refine XS.iload X12.here hx rfl (hb hby at_56) rfl ?_
      show Steps p.tables e below (T12.setTop (mkF m 58 #[.val (.int p0), .val (.int ((p0 &&& (2147483647 : Int32)) % (3 : Int32))), .val (.ref (u 0)), .val (.int (0 : Int32)), .val (.int (0 : Int32))] [(.int (0 : Int32))])) _
      refine XS.ifYes X12.here hx rfl (pc0 := 58) (pc' := 77) rfl (hb hby at_58) rfl ((if0 _ _).trans (teq (by decide : (0 : Int32) = (0 : Int32))).1) (by decide) (by decide) ?_
      show Steps p.tables e below (T12.setTop (mkF m 77 #[.val (.int p0), .val (.int ((p0 &&& (2147483647 : Int32)) % (3 : Int32))), .val (.ref (u 0)), .val (.int (0 : Int32)), .val (.int (0 : Int32))] [])) _
      refine XS.iconst X12.here hx rfl (hb hby at_77) ?_
      show Steps p.tables e below (T12.setTop (mkF m 78 #[.val (.int p0), .val (.int ((p0 &&& (2147483647 : Int32)) % (3 : Int32))), .val (.ref (u 0)), .val (.int (0 : Int32)), .val (.int (0 : Int32))] [(.int (1 : Int32))])) _
      exact retN X12 hx (t := .boolean) Bd.returns (by simp) (hb hby at_78) hr
    · show own_Q0 Z u p0 h0 n0 _ T12.heap _
      rw [e12]
      exact ⟨rfl, N12, trivial⟩
  · --
    have pre14 : ∀ t, Steps p.tables e below (s₁.setTop (mkF m 19 #[.val (.int p0), .val (.int ((p0 &&& (2147483647 : Int32)) % (3 : Int32))), .unset, .unset, .unset] [(.int (1 : Int32)), (.int ((p0 &&& (2147483647 : Int32)) % (3 : Int32)))])) t → Steps p.tables e below (s₁.setTop (entryFrame m #[(.int p0)] maxLocals)) t := fun t kt => pre8 t (by
      show Steps p.tables e below (s₁.setTop (mkF m 8 #[.val (.int p0), .val (.int ((p0 &&& (2147483647 : Int32)) % (3 : Int32))), .unset, .unset, .unset] [(.int ((p0 &&& (2147483647 : Int32)) % (3 : Int32)))])) _
      refine XS.ifYes X0.here hx rfl (pc0 := 8) (pc' := 17) rfl (hb hby at_8) rfl ((if0 _ _).trans (feq hc9).2) (by decide) (by decide) ?_
      show Steps p.tables e below (s₁.setTop (mkF m 17 #[.val (.int p0), .val (.int ((p0 &&& (2147483647 : Int32)) % (3 : Int32))), .unset, .unset, .unset] [])) _
      refine XS.iloadN X0.here hx rfl (hb hby at_17) rfl ?_
      show Steps p.tables e below (s₁.setTop (mkF m 18 #[.val (.int p0), .val (.int ((p0 &&& (2147483647 : Int32)) % (3 : Int32))), .unset, .unset, .unset] [(.int ((p0 &&& (2147483647 : Int32)) % (3 : Int32)))])) _
      refine XS.iconst X0.here hx rfl (hb hby at_18) ?_
      exact kt)
    by_cases hc15 : ((p0 &&& (2147483647 : Int32)) % (3 : Int32)) = (1 : Int32)
    · --
      obtain ⟨T16, X16, e16, st16⟩ := getS2 X0 hx hZ hown (host := "") (Or.inl (hw _ (List.mem_of_getElem? (i := 18) rfl))) Via.refl e0 (B.2.2.2.2.1.ext O.2) (g := (mkF m 22 #[.val (.int p0), .val (.int ((p0 &&& (2147483647 : Int32)) % (3 : Int32))), .unset, .unset, .unset] [])) rfl (hb hby at_22)
      have pre17 : ∀ t, Steps p.tables e below (T16.setTop (mkF m 43 #[.val (.int p0), .val (.int ((p0 &&& (2147483647 : Int32)) % (3 : Int32))), .val (.ref (u 2)), .val (.int (1 : Int32)), .unset] [(.ref (u 2))])) t → Steps p.tables e below (s₁.setTop (entryFrame m #[(.int p0)] maxLocals)) t := fun t kt => pre14 t (by
        show Steps p.tables e below (s₁.setTop (mkF m 19 #[.val (.int p0), .val (.int ((p0 &&& (2147483647 : Int32)) % (3 : Int32))), .unset, .unset, .unset] [(.int (1 : Int32)), (.int ((p0 &&& (2147483647 : Int32)) % (3 : Int32)))])) _
        refine XS.icmpNo X0.here hx rfl (hb hby at_19) rfl (teq hc15).2 ?_
        show Steps p.tables e below (s₁.setTop (mkF m 22 #[.val (.int p0), .val (.int ((p0 &&& (2147483647 : Int32)) % (3 : Int32))), .unset, .unset, .unset] [])) _
        refine st16 _ ?_
        show Steps p.tables e below (T16.setTop (mkF m 25 #[.val (.int p0), .val (.int ((p0 &&& (2147483647 : Int32)) % (3 : Int32))), .unset, .unset, .unset] [(.ref (u 2))])) _
        refine XS.goto X16.here hx rfl (pc0 := 25) (pc' := 31) rfl (hb hby at_25) (by decide) (by decide) ?_
        show Steps p.tables e below (T16.setTop (mkF m 31 #[.val (.int p0), .val (.int ((p0 &&& (2147483647 : Int32)) % (3 : Int32))), .unset, .unset, .unset] [(.ref (u 2))])) _
        refine XS.astoreN X16.here hx rfl (hb hby at_31) rfl rfl (l' := #[.val (.int p0), .val (.int ((p0 &&& (2147483647 : Int32)) % (3 : Int32))), .val (.ref (u 2)), .unset, .unset]) rfl ?_
        show Steps p.tables e below (T16.setTop (mkF m 32 #[.val (.int p0), .val (.int ((p0 &&& (2147483647 : Int32)) % (3 : Int32))), .val (.ref (u 2)), .unset, .unset] [])) _
        refine XS.iloadN X16.here hx rfl (hb hby at_32) rfl ?_
        show Steps p.tables e below (T16.setTop (mkF m 33 #[.val (.int p0), .val (.int ((p0 &&& (2147483647 : Int32)) % (3 : Int32))), .val (.ref (u 2)), .unset, .unset] [(.int ((p0 &&& (2147483647 : Int32)) % (3 : Int32)))])) _
        refine XS.ifNo X16.here hx rfl (hb hby at_33) rfl ((if0 _ _).trans (feq hc9).1) ?_
        show Steps p.tables e below (T16.setTop (mkF m 36 #[.val (.int p0), .val (.int ((p0 &&& (2147483647 : Int32)) % (3 : Int32))), .val (.ref (u 2)), .unset, .unset] [])) _
        refine XS.iconst X16.here hx rfl (hb hby at_36) ?_
        show Steps p.tables e below (T16.setTop (mkF m 37 #[.val (.int p0), .val (.int ((p0 &&& (2147483647 : Int32)) % (3 : Int32))), .val (.ref (u 2)), .unset, .unset] [(.int (1 : Int32))])) _
        refine XS.goto X16.here hx rfl (pc0 := 37) (pc' := 41) rfl (hb hby at_37) (by decide) (by decide) ?_
        show Steps p.tables e below (T16.setTop (mkF m 41 #[.val (.int p0), .val (.int ((p0 &&& (2147483647 : Int32)) % (3 : Int32))), .val (.ref (u 2)), .unset, .unset] [(.int (1 : Int32))])) _
        refine XS.istoreN X16.here hx rfl (hb hby at_41) rfl (l' := #[.val (.int p0), .val (.int ((p0 &&& (2147483647 : Int32)) % (3 : Int32))), .val (.ref (u 2)), .val (.int (1 : Int32)), .unset]) rfl ?_
        show Steps p.tables e below (T16.setTop (mkF m 42 #[.val (.int p0), .val (.int ((p0 &&& (2147483647 : Int32)) % (3 : Int32))), .val (.ref (u 2)), .val (.int (1 : Int32)), .unset] [])) _
        refine XS.aloadN X16.here hx rfl (hb hby at_42) rfl rfl ?_
        exact kt)
      obtain ⟨cq18, kq18, q18a, q18b, q18c⟩ := isOf hZ e16 (B.2.2.2.2.2.1.ext O.2)
      obtain ⟨vr18, _, ⟨T18, L18, k18, n18⟩, -, X18, ⟨Lc18, hQ18, l18, y18, z18⟩, st18⟩ := X16.virtualBack hx (y := (⟨"com/example/vestry/vestry/plan/Form", "isInInstallments", "()Z"⟩ : MethodName)) (z := (⟨"com/example/vestry/vestry/plan/Form", "isInInstallments", "()Z"⟩ : MethodName)) hown (mvT hZ (hw _ (List.mem_of_getElem? (i := 4) rfl))) (mvT hZ (hw _ (List.mem_of_getElem? (i := 5) rfl))) (notFace_of_selects (args := #[]) (mvT hZ (hw _ (List.mem_of_getElem? (i := 7) rfl)))) (mvT hZ (hw _ (List.mem_of_getElem? (i := 7) rfl))) (mvT hZ (hw _ (List.mem_of_getElem? (i := 6) rfl))) (by decide) (backOf (W := 0) (rm1 l Z a0 hw [] u (u 2) (12 : Int32) B h0 n0 O (B.2.2.2.2.2.2.2.2.ext O.2)) hZ (hw _ (List.mem_of_getElem? (i := 8) rfl)) (hw _ (List.mem_of_getElem? (i := 2) rfl)) (by decide) (by decide)) q18a q18c (g := (mkF m 43 #[.val (.int p0), .val (.int ((p0 &&& (2147483647 : Int32)) % (3 : Int32))), .val (.ref (u 2)), .val (.int (1 : Int32)), .unset] [(.ref (u 2))])) rfl (by rw [hml]; rfl) (Steps.refl _) (argsL := []) (rest := []) (lenOf own_pd0 rfl) rfl (by show 2 * 0 + _ ≤ _; exact Nat.le_of_eq rfl) (hb hby at_43) (fun _ _ => ⟨rfl, e16, (by decide : 0 + 0 ≤ _), (by decide : 0 + 0 ≤ _)⟩)
      dsimp only [Pt.U, Pt.locs, Pt.cells, Pt.slots] at X18 l18 y18 z18 st18 hQ18
      subst l18 y18 z18
      obtain ⟨hv18, N18q, e18⟩ := hQ18
      have N18 := Fr.app N0 N18q
      obtain rfl : vr18 = some (.int (1 : Int32)) := hv18.trans (by unfold own_r1; rw [if_pos (by decide : (0 : Int32) < (12 : Int32))])
      obtain ⟨cq19, kq19, q19a, q19b, q19c⟩ := isOf hZ e18 (B.2.2.2.2.2.1.ext O.2)
      obtain ⟨vr19, _, ⟨T19, L19, k19, n19⟩, -, X19, ⟨Lc19, hQ19, l19, y19, z19⟩, st19⟩ := X18.virtualBack hx (y := (⟨"com/example/vestry/vestry/plan/Form", "installmentsWithin", "(I)J"⟩ : MethodName)) (z := (⟨"com/example/vestry/vestry/plan/Form", "installmentsWithin", "(I)J"⟩ : MethodName)) hown (mvT hZ (hw _ (List.mem_of_getElem? (i := 13) rfl))) (mvT hZ (hw _ (List.mem_of_getElem? (i := 14) rfl))) (notFace_of_selects (args := #[]) (mvT hZ (hw _ (List.mem_of_getElem? (i := 16) rfl)))) (mvT hZ (hw _ (List.mem_of_getElem? (i := 16) rfl))) (mvT hZ (hw _ (List.mem_of_getElem? (i := 15) rfl))) (by decide) (backOf (W := 0) (rm2 l Z a0 hw [] u (u 2) (1 : Int32) (12 : Int32) B h0 n0 O (by decide) (B.2.2.2.2.2.2.2.2.ext O.2)) hZ (hw _ (List.mem_of_getElem? (i := 17) rfl)) (hw _ (List.mem_of_getElem? (i := 2) rfl)) (by decide) (by decide)) q19a q19c (g := (mkF m 63 #[.val (.int p0), .val (.int ((p0 &&& (2147483647 : Int32)) % (3 : Int32))), .val (.ref (u 2)), .val (.int (1 : Int32)), .val (.int (1 : Int32))] [(.int (1 : Int32)), (.ref (u 2))])) rfl (by rw [hml]; rfl) (Steps.refl _) (argsL := [(.int (1 : Int32))]) (rest := []) (lenOf own_pd1 rfl) rfl (by show 2 * 0 + _ ≤ _; exact Nat.le_of_eq rfl) (hb hby at_63) (fun _ _ => ⟨rfl, e18, (by decide : 0 + 0 ≤ _), (by decide : 0 + 0 ≤ _)⟩)
      dsimp only [Pt.U, Pt.locs, Pt.cells, Pt.slots] at X19 l19 y19 z19 st19 hQ19
      subst l19 y19 z19
      obtain ⟨rfl, N19q, e19⟩ := hQ19
      have N19 := Fr.app N18 N19q
      obtain ⟨fs, hr, hrun, hended, hW, hsame⟩ := X19.leave (v := some (.int (1 : Int32))) (fun h => by rw [Bd.returns] at h; cases h)
      refine ⟨_, _, pre17 _ ?_, hrun, hended, _, _, rfl, ?_, ⟨_, rfl⟩, hW, hsame.mono (by decide) (by decide)⟩
      · show Steps p.tables e below (T16.setTop (mkF m 43 #[.val (.int p0), .val (.int ((p0 &&& (2147483647 : Int32)) % (3 : Int32))), .val (.ref (u 2)), .val (.int (1 : Int32)), .unset] [(.ref (u 2))])) _
        refine st18.trans ?_
        show Steps p.tables e below (T18.setTop (mkF m 46 #[.val (.int p0), .val (.int ((p0 &&& (2147483647 : Int32)) % (3 : Int32))), .val (.ref (u 2)), .val (.int (1 : Int32)), .unset] [(.int (1 : Int32))])) _
        refine XS.istore X18.here hx rfl (hb hby at_46) rfl (l' := #[.val (.int p0), .val (.int ((p0 &&& (2147483647 : Int32)) % (3 : Int32))), .val (.ref (u 2)), .val (.int (1 : Int32)), .val (.int (1 : Int32))]) rfl ?_
        show Steps p.tables e below (T18.setTop (mkF m 48 #[.val (.int p0), .val (.int ((p0 &&& (2147483647 : Int32)) % (3 : Int32))), .val (.ref (u 2)), .val (.int (1 : Int32)), .val (.int (1 : Int32))] [])) _
        refine XS.iload X18.here hx rfl (hb hby at_48) rfl ?_
        show Steps p.tables e below (T18.setTop (mkF m 50 #[.val (.int p0), .val (.int ((p0 &&& (2147483647 : Int32)) % (3 : Int32))), .val (.ref (u 2)), .val (.int (1 : Int32)), .val (.int (1 : Int32))] [(.int (1 : Int32))])) _
        refine XS.iloadN X18.here hx rfl (hb hby at_50) rfl ?_
        show Steps p.tables e below (T18.setTop (mkF m 51 #[.val (.int p0), .val (.int ((p0 &&& (2147483647 : Int32)) % (3 : Int32))), .val (.ref (u 2)), .val (.int (1 : Int32)), .val (.int (1 : Int32))] [(.int (1 : Int32)), (.int (1 : Int32))])) _
        refine XS.icmpYes X18.here hx rfl (pc0 := 51) (pc' := 56) rfl (hb hby at_51) rfl (teq (by decide : (1 : Int32) = (1 : Int32))).1 (by decide) (by decide) ?_
        show Steps p.tables e below (T18.setTop (mkF m 56 #[.val (.int p0), .val (.int ((p0 &&& (2147483647 : Int32)) % (3 : Int32))), .val (.ref (u 2)), .val (.int (1 : Int32)), .val (.int (1 : Int32))] [])) _
        refine XS.iload X18.here hx rfl (hb hby at_56) rfl ?_
        show Steps p.tables e below (T18.setTop (mkF m 58 #[.val (.int p0), .val (.int ((p0 &&& (2147483647 : Int32)) % (3 : Int32))), .val (.ref (u 2)), .val (.int (1 : Int32)), .val (.int (1 : Int32))] [(.int (1 : Int32))])) _
        refine XS.ifNo X18.here hx rfl (hb hby at_58) rfl ((if0 _ _).trans (feq (by decide : ¬ ((1 : Int32) = (0 : Int32)))).1) ?_
        show Steps p.tables e below (T18.setTop (mkF m 61 #[.val (.int p0), .val (.int ((p0 &&& (2147483647 : Int32)) % (3 : Int32))), .val (.ref (u 2)), .val (.int (1 : Int32)), .val (.int (1 : Int32))] [])) _
        refine XS.aloadN X18.here hx rfl (hb hby at_61) rfl rfl ?_
        show Steps p.tables e below (T18.setTop (mkF m 62 #[.val (.int p0), .val (.int ((p0 &&& (2147483647 : Int32)) % (3 : Int32))), .val (.ref (u 2)), .val (.int (1 : Int32)), .val (.int (1 : Int32))] [(.ref (u 2))])) _
        refine XS.iconst X18.here hx rfl (hb hby at_62) ?_
        show Steps p.tables e below (T18.setTop (mkF m 63 #[.val (.int p0), .val (.int ((p0 &&& (2147483647 : Int32)) % (3 : Int32))), .val (.ref (u 2)), .val (.int (1 : Int32)), .val (.int (1 : Int32))] [(.int (1 : Int32)), (.ref (u 2))])) _
        refine st19.trans ?_
        show Steps p.tables e below (T19.setTop (mkF m 66 #[.val (.int p0), .val (.int ((p0 &&& (2147483647 : Int32)) % (3 : Int32))), .val (.ref (u 2)), .val (.int (1 : Int32)), .val (.int (1 : Int32))] [(.long (((1 : Int32).toInt64) * (((12 : Int32) / (12 : Int32)).toInt64)))])) _
        refine XS.lconst X19.here hx rfl (hb hby at_66) ?_
        show Steps p.tables e below (T19.setTop (mkF m 67 #[.val (.int p0), .val (.int ((p0 &&& (2147483647 : Int32)) % (3 : Int32))), .val (.ref (u 2)), .val (.int (1 : Int32)), .val (.int (1 : Int32))] [(.long (1 : Int64)), (.long (((1 : Int32).toInt64) * (((12 : Int32) / (12 : Int32)).toInt64)))])) _
        refine XS.lcmp X19.here hx rfl (hb hby at_67) rfl ?_
        show Steps p.tables e below (T19.setTop (mkF m 68 #[.val (.int p0), .val (.int ((p0 &&& (2147483647 : Int32)) % (3 : Int32))), .val (.ref (u 2)), .val (.int (1 : Int32)), .val (.int (1 : Int32))] [(.int (lcmpW (((1 : Int32).toInt64) * (((12 : Int32) / (12 : Int32)).toInt64)) (1 : Int64)))])) _
        refine XS.ifNo X19.here hx rfl (hb hby at_68) rfl ((if0 _ _).trans (flt (fun q => (by decide : ¬ ((((1 : Int32).toInt64) * (((12 : Int32) / (12 : Int32)).toInt64)) < (1 : Int64))) ((lw_lt (((1 : Int32).toInt64) * (((12 : Int32) / (12 : Int32)).toInt64)) (1 : Int64)).mp q))).1) ?_
        show Steps p.tables e below (T19.setTop (mkF m 71 #[.val (.int p0), .val (.int ((p0 &&& (2147483647 : Int32)) % (3 : Int32))), .val (.ref (u 2)), .val (.int (1 : Int32)), .val (.int (1 : Int32))] [])) _
        refine XS.iconst X19.here hx rfl (hb hby at_71) ?_
        show Steps p.tables e below (T19.setTop (mkF m 72 #[.val (.int p0), .val (.int ((p0 &&& (2147483647 : Int32)) % (3 : Int32))), .val (.ref (u 2)), .val (.int (1 : Int32)), .val (.int (1 : Int32))] [(.int (1 : Int32))])) _
        refine XS.goto X19.here hx rfl (pc0 := 72) (pc' := 76) rfl (hb hby at_72) (by decide) (by decide) ?_
        show Steps p.tables e below (T19.setTop (mkF m 76 #[.val (.int p0), .val (.int ((p0 &&& (2147483647 : Int32)) % (3 : Int32))), .val (.ref (u 2)), .val (.int (1 : Int32)), .val (.int (1 : Int32))] [(.int (1 : Int32))])) _
        exact retN X19 hx (t := .boolean) Bd.returns (by simp) (hb hby at_76) hr
      · show own_Q0 Z u p0 h0 n0 _ T19.heap _
        rw [e19]
        exact ⟨rfl, N19, trivial⟩
    · --
      obtain ⟨T21, X21, e21, st21⟩ := getS2 X0 hx hZ hown (host := "") (Or.inl (hw _ (List.mem_of_getElem? (i := 11) rfl))) Via.refl e0 (B.2.2.1.ext O.2) (g := (mkF m 28 #[.val (.int p0), .val (.int ((p0 &&& (2147483647 : Int32)) % (3 : Int32))), .unset, .unset, .unset] [])) rfl (hb hby at_28)
      have pre22 : ∀ t, Steps p.tables e below (T21.setTop (mkF m 43 #[.val (.int p0), .val (.int ((p0 &&& (2147483647 : Int32)) % (3 : Int32))), .val (.ref (u 1)), .val (.int (1 : Int32)), .unset] [(.ref (u 1))])) t → Steps p.tables e below (s₁.setTop (entryFrame m #[(.int p0)] maxLocals)) t := fun t kt => pre14 t (by
        show Steps p.tables e below (s₁.setTop (mkF m 19 #[.val (.int p0), .val (.int ((p0 &&& (2147483647 : Int32)) % (3 : Int32))), .unset, .unset, .unset] [(.int (1 : Int32)), (.int ((p0 &&& (2147483647 : Int32)) % (3 : Int32)))])) _
        refine XS.icmpYes X0.here hx rfl (pc0 := 19) (pc' := 28) rfl (hb hby at_19) rfl (feq hc15).2 (by decide) (by decide) ?_
        show Steps p.tables e below (s₁.setTop (mkF m 28 #[.val (.int p0), .val (.int ((p0 &&& (2147483647 : Int32)) % (3 : Int32))), .unset, .unset, .unset] [])) _
        refine st21 _ ?_
        show Steps p.tables e below (T21.setTop (mkF m 31 #[.val (.int p0), .val (.int ((p0 &&& (2147483647 : Int32)) % (3 : Int32))), .unset, .unset, .unset] [(.ref (u 1))])) _
        refine XS.astoreN X21.here hx rfl (hb hby at_31) rfl rfl (l' := #[.val (.int p0), .val (.int ((p0 &&& (2147483647 : Int32)) % (3 : Int32))), .val (.ref (u 1)), .unset, .unset]) rfl ?_
        show Steps p.tables e below (T21.setTop (mkF m 32 #[.val (.int p0), .val (.int ((p0 &&& (2147483647 : Int32)) % (3 : Int32))), .val (.ref (u 1)), .unset, .unset] [])) _
        refine XS.iloadN X21.here hx rfl (hb hby at_32) rfl ?_
        show Steps p.tables e below (T21.setTop (mkF m 33 #[.val (.int p0), .val (.int ((p0 &&& (2147483647 : Int32)) % (3 : Int32))), .val (.ref (u 1)), .unset, .unset] [(.int ((p0 &&& (2147483647 : Int32)) % (3 : Int32)))])) _
        refine XS.ifNo X21.here hx rfl (hb hby at_33) rfl ((if0 _ _).trans (feq hc9).1) ?_
        show Steps p.tables e below (T21.setTop (mkF m 36 #[.val (.int p0), .val (.int ((p0 &&& (2147483647 : Int32)) % (3 : Int32))), .val (.ref (u 1)), .unset, .unset] [])) _
        refine XS.iconst X21.here hx rfl (hb hby at_36) ?_
        show Steps p.tables e below (T21.setTop (mkF m 37 #[.val (.int p0), .val (.int ((p0 &&& (2147483647 : Int32)) % (3 : Int32))), .val (.ref (u 1)), .unset, .unset] [(.int (1 : Int32))])) _
        refine XS.goto X21.here hx rfl (pc0 := 37) (pc' := 41) rfl (hb hby at_37) (by decide) (by decide) ?_
        show Steps p.tables e below (T21.setTop (mkF m 41 #[.val (.int p0), .val (.int ((p0 &&& (2147483647 : Int32)) % (3 : Int32))), .val (.ref (u 1)), .unset, .unset] [(.int (1 : Int32))])) _
        refine XS.istoreN X21.here hx rfl (hb hby at_41) rfl (l' := #[.val (.int p0), .val (.int ((p0 &&& (2147483647 : Int32)) % (3 : Int32))), .val (.ref (u 1)), .val (.int (1 : Int32)), .unset]) rfl ?_
        show Steps p.tables e below (T21.setTop (mkF m 42 #[.val (.int p0), .val (.int ((p0 &&& (2147483647 : Int32)) % (3 : Int32))), .val (.ref (u 1)), .val (.int (1 : Int32)), .unset] [])) _
        refine XS.aloadN X21.here hx rfl (hb hby at_42) rfl rfl ?_
        exact kt)
      obtain ⟨cq23, kq23, q23a, q23b, q23c⟩ := isOf hZ e21 (B.2.2.2.1.ext O.2)
      obtain ⟨vr23, _, ⟨T23, L23, k23, n23⟩, -, X23, ⟨Lc23, hQ23, l23, y23, z23⟩, st23⟩ := X21.virtualBack hx (y := (⟨"com/example/vestry/vestry/plan/Form", "isInInstallments", "()Z"⟩ : MethodName)) (z := (⟨"com/example/vestry/vestry/plan/Form", "isInInstallments", "()Z"⟩ : MethodName)) hown (mvT hZ (hw _ (List.mem_of_getElem? (i := 4) rfl))) (mvT hZ (hw _ (List.mem_of_getElem? (i := 5) rfl))) (notFace_of_selects (args := #[]) (mvT hZ (hw _ (List.mem_of_getElem? (i := 7) rfl)))) (mvT hZ (hw _ (List.mem_of_getElem? (i := 7) rfl))) (mvT hZ (hw _ (List.mem_of_getElem? (i := 6) rfl))) (by decide) (backOf (W := 0) (rm1 l Z a0 hw [] u (u 1) (3 : Int32) B h0 n0 O (B.2.2.2.2.2.2.2.1.ext O.2)) hZ (hw _ (List.mem_of_getElem? (i := 8) rfl)) (hw _ (List.mem_of_getElem? (i := 2) rfl)) (by decide) (by decide)) q23a q23c (g := (mkF m 43 #[.val (.int p0), .val (.int ((p0 &&& (2147483647 : Int32)) % (3 : Int32))), .val (.ref (u 1)), .val (.int (1 : Int32)), .unset] [(.ref (u 1))])) rfl (by rw [hml]; rfl) (Steps.refl _) (argsL := []) (rest := []) (lenOf own_pd0 rfl) rfl (by show 2 * 0 + _ ≤ _; exact Nat.le_of_eq rfl) (hb hby at_43) (fun _ _ => ⟨rfl, e21, (by decide : 0 + 0 ≤ _), (by decide : 0 + 0 ≤ _)⟩)
      dsimp only [Pt.U, Pt.locs, Pt.cells, Pt.slots] at X23 l23 y23 z23 st23 hQ23
      subst l23 y23 z23
      obtain ⟨hv23, N23q, e23⟩ := hQ23
      have N23 := Fr.app N0 N23q
      obtain rfl : vr23 = some (.int (1 : Int32)) := hv23.trans (by unfold own_r1; rw [if_pos (by decide : (0 : Int32) < (3 : Int32))])
      obtain ⟨cq24, kq24, q24a, q24b, q24c⟩ := isOf hZ e23 (B.2.2.2.1.ext O.2)
      obtain ⟨vr24, _, ⟨T24, L24, k24, n24⟩, -, X24, ⟨Lc24, hQ24, l24, y24, z24⟩, st24⟩ := X23.virtualBack hx (y := (⟨"com/example/vestry/vestry/plan/Form", "installmentsWithin", "(I)J"⟩ : MethodName)) (z := (⟨"com/example/vestry/vestry/plan/Form", "installmentsWithin", "(I)J"⟩ : MethodName)) hown (mvT hZ (hw _ (List.mem_of_getElem? (i := 13) rfl))) (mvT hZ (hw _ (List.mem_of_getElem? (i := 14) rfl))) (notFace_of_selects (args := #[]) (mvT hZ (hw _ (List.mem_of_getElem? (i := 16) rfl)))) (mvT hZ (hw _ (List.mem_of_getElem? (i := 16) rfl))) (mvT hZ (hw _ (List.mem_of_getElem? (i := 15) rfl))) (by decide) (backOf (W := 0) (rm2 l Z a0 hw [] u (u 1) (1 : Int32) (3 : Int32) B h0 n0 O (by decide) (B.2.2.2.2.2.2.2.1.ext O.2)) hZ (hw _ (List.mem_of_getElem? (i := 17) rfl)) (hw _ (List.mem_of_getElem? (i := 2) rfl)) (by decide) (by decide)) q24a q24c (g := (mkF m 63 #[.val (.int p0), .val (.int ((p0 &&& (2147483647 : Int32)) % (3 : Int32))), .val (.ref (u 1)), .val (.int (1 : Int32)), .val (.int (1 : Int32))] [(.int (1 : Int32)), (.ref (u 1))])) rfl (by rw [hml]; rfl) (Steps.refl _) (argsL := [(.int (1 : Int32))]) (rest := []) (lenOf own_pd1 rfl) rfl (by show 2 * 0 + _ ≤ _; exact Nat.le_of_eq rfl) (hb hby at_63) (fun _ _ => ⟨rfl, e23, (by decide : 0 + 0 ≤ _), (by decide : 0 + 0 ≤ _)⟩)
      dsimp only [Pt.U, Pt.locs, Pt.cells, Pt.slots] at X24 l24 y24 z24 st24 hQ24
      subst l24 y24 z24
      obtain ⟨rfl, N24q, e24⟩ := hQ24
      have N24 := Fr.app N23 N24q
      obtain ⟨fs, hr, hrun, hended, hW, hsame⟩ := X24.leave (v := some (.int (1 : Int32))) (fun h => by rw [Bd.returns] at h; cases h)
      refine ⟨_, _, pre22 _ ?_, hrun, hended, _, _, rfl, ?_, ⟨_, rfl⟩, hW, hsame.mono (by decide) (by decide)⟩
      · show Steps p.tables e below (T21.setTop (mkF m 43 #[.val (.int p0), .val (.int ((p0 &&& (2147483647 : Int32)) % (3 : Int32))), .val (.ref (u 1)), .val (.int (1 : Int32)), .unset] [(.ref (u 1))])) _
        refine st23.trans ?_
        show Steps p.tables e below (T23.setTop (mkF m 46 #[.val (.int p0), .val (.int ((p0 &&& (2147483647 : Int32)) % (3 : Int32))), .val (.ref (u 1)), .val (.int (1 : Int32)), .unset] [(.int (1 : Int32))])) _
        refine XS.istore X23.here hx rfl (hb hby at_46) rfl (l' := #[.val (.int p0), .val (.int ((p0 &&& (2147483647 : Int32)) % (3 : Int32))), .val (.ref (u 1)), .val (.int (1 : Int32)), .val (.int (1 : Int32))]) rfl ?_
        show Steps p.tables e below (T23.setTop (mkF m 48 #[.val (.int p0), .val (.int ((p0 &&& (2147483647 : Int32)) % (3 : Int32))), .val (.ref (u 1)), .val (.int (1 : Int32)), .val (.int (1 : Int32))] [])) _
        refine XS.iload X23.here hx rfl (hb hby at_48) rfl ?_
        show Steps p.tables e below (T23.setTop (mkF m 50 #[.val (.int p0), .val (.int ((p0 &&& (2147483647 : Int32)) % (3 : Int32))), .val (.ref (u 1)), .val (.int (1 : Int32)), .val (.int (1 : Int32))] [(.int (1 : Int32))])) _
        refine XS.iloadN X23.here hx rfl (hb hby at_50) rfl ?_
        show Steps p.tables e below (T23.setTop (mkF m 51 #[.val (.int p0), .val (.int ((p0 &&& (2147483647 : Int32)) % (3 : Int32))), .val (.ref (u 1)), .val (.int (1 : Int32)), .val (.int (1 : Int32))] [(.int (1 : Int32)), (.int (1 : Int32))])) _
        refine XS.icmpYes X23.here hx rfl (pc0 := 51) (pc' := 56) rfl (hb hby at_51) rfl (teq (by decide : (1 : Int32) = (1 : Int32))).1 (by decide) (by decide) ?_
        show Steps p.tables e below (T23.setTop (mkF m 56 #[.val (.int p0), .val (.int ((p0 &&& (2147483647 : Int32)) % (3 : Int32))), .val (.ref (u 1)), .val (.int (1 : Int32)), .val (.int (1 : Int32))] [])) _
        refine XS.iload X23.here hx rfl (hb hby at_56) rfl ?_
        show Steps p.tables e below (T23.setTop (mkF m 58 #[.val (.int p0), .val (.int ((p0 &&& (2147483647 : Int32)) % (3 : Int32))), .val (.ref (u 1)), .val (.int (1 : Int32)), .val (.int (1 : Int32))] [(.int (1 : Int32))])) _
        refine XS.ifNo X23.here hx rfl (hb hby at_58) rfl ((if0 _ _).trans (feq (by decide : ¬ ((1 : Int32) = (0 : Int32)))).1) ?_
        show Steps p.tables e below (T23.setTop (mkF m 61 #[.val (.int p0), .val (.int ((p0 &&& (2147483647 : Int32)) % (3 : Int32))), .val (.ref (u 1)), .val (.int (1 : Int32)), .val (.int (1 : Int32))] [])) _
        refine XS.aloadN X23.here hx rfl (hb hby at_61) rfl rfl ?_
        show Steps p.tables e below (T23.setTop (mkF m 62 #[.val (.int p0), .val (.int ((p0 &&& (2147483647 : Int32)) % (3 : Int32))), .val (.ref (u 1)), .val (.int (1 : Int32)), .val (.int (1 : Int32))] [(.ref (u 1))])) _
        refine XS.iconst X23.here hx rfl (hb hby at_62) ?_
        show Steps p.tables e below (T23.setTop (mkF m 63 #[.val (.int p0), .val (.int ((p0 &&& (2147483647 : Int32)) % (3 : Int32))), .val (.ref (u 1)), .val (.int (1 : Int32)), .val (.int (1 : Int32))] [(.int (1 : Int32)), (.ref (u 1))])) _
        refine st24.trans ?_
        show Steps p.tables e below (T24.setTop (mkF m 66 #[.val (.int p0), .val (.int ((p0 &&& (2147483647 : Int32)) % (3 : Int32))), .val (.ref (u 1)), .val (.int (1 : Int32)), .val (.int (1 : Int32))] [(.long (((1 : Int32).toInt64) * (((12 : Int32) / (3 : Int32)).toInt64)))])) _
        refine XS.lconst X24.here hx rfl (hb hby at_66) ?_
        show Steps p.tables e below (T24.setTop (mkF m 67 #[.val (.int p0), .val (.int ((p0 &&& (2147483647 : Int32)) % (3 : Int32))), .val (.ref (u 1)), .val (.int (1 : Int32)), .val (.int (1 : Int32))] [(.long (1 : Int64)), (.long (((1 : Int32).toInt64) * (((12 : Int32) / (3 : Int32)).toInt64)))])) _
        refine XS.lcmp X24.here hx rfl (hb hby at_67) rfl ?_
        show Steps p.tables e below (T24.setTop (mkF m 68 #[.val (.int p0), .val (.int ((p0 &&& (2147483647 : Int32)) % (3 : Int32))), .val (.ref (u 1)), .val (.int (1 : Int32)), .val (.int (1 : Int32))] [(.int (lcmpW (((1 : Int32).toInt64) * (((12 : Int32) / (3 : Int32)).toInt64)) (1 : Int64)))])) _
        refine XS.ifNo X24.here hx rfl (hb hby at_68) rfl ((if0 _ _).trans (flt (fun q => (by decide : ¬ ((((1 : Int32).toInt64) * (((12 : Int32) / (3 : Int32)).toInt64)) < (1 : Int64))) ((lw_lt (((1 : Int32).toInt64) * (((12 : Int32) / (3 : Int32)).toInt64)) (1 : Int64)).mp q))).1) ?_
        show Steps p.tables e below (T24.setTop (mkF m 71 #[.val (.int p0), .val (.int ((p0 &&& (2147483647 : Int32)) % (3 : Int32))), .val (.ref (u 1)), .val (.int (1 : Int32)), .val (.int (1 : Int32))] [])) _
        refine XS.iconst X24.here hx rfl (hb hby at_71) ?_
        show Steps p.tables e below (T24.setTop (mkF m 72 #[.val (.int p0), .val (.int ((p0 &&& (2147483647 : Int32)) % (3 : Int32))), .val (.ref (u 1)), .val (.int (1 : Int32)), .val (.int (1 : Int32))] [(.int (1 : Int32))])) _
        refine XS.goto X24.here hx rfl (pc0 := 72) (pc' := 76) rfl (hb hby at_72) (by decide) (by decide) ?_
        show Steps p.tables e below (T24.setTop (mkF m 76 #[.val (.int p0), .val (.int ((p0 &&& (2147483647 : Int32)) % (3 : Int32))), .val (.ref (u 1)), .val (.int (1 : Int32)), .val (.int (1 : Int32))] [(.int (1 : Int32))])) _
        exact retN X24 hx (t := .boolean) Bd.returns (by simp) (hb hby at_76) hr
      · show own_Q0 Z u p0 h0 n0 _ T24.heap _
        rw [e24]
        exact ⟨rfl, N24, trivial⟩
set_option maxRecDepth 65536 in
set_option maxHeartbeats 40000000 in
theorem comes_1 {Post : Tables → Env → Array Value → State → Outcome → State → Prop} (hpost : ∀ tb e args s v u, (limb_1_1.after args s (.returned v) u = true ∧ limb_1_2.after args s (.returned v) u = true ∧ True) → FrameEnd s (.returned v) u (Jvm.fieldLocs frame_1_writes args s ++ Jvm.arrayLocs frame_1_arrays args s ++ Jvm.staticLocs frame_1_statics s) 0 0 → Post tb e args s (.returned v) u) :
    ArmFor flags0 classFile x code maxLocals ret World_1 tables_1 room_1 Calls_1 rest_1 Pre_1 Post := by
  intro l hfl _ _ p e ha hc hk s m args below hf hA hF happ hP
  obtain ⟨hcalls, hrest, hpre⟩ := hP
  obtain ⟨-, -, -, hnamed, -, -, -, hat⟩ := (Spec.applies_iff hf).mp happ
  obtain ⟨hg, hn⟩ := and_e (Cond.before_iff.mp (show (Jvm.Cond.and given_1 narrow_1).before args s = true from hpre))
  obtain ⟨g0, gr0⟩ := and_e hg
  have g1 := gr0
  obtain ⟨w0, rfl⟩ : ∃ w0 : Value, args = #[w0] := by
    have hs : args.size = 1 := by simpa [Cond.value, given_1] using g0
    obtain ⟨L⟩ := args
    match L, hs with
    | [w0], _ => exact ⟨w0, rfl⟩
  have hw := fun d (hd : d ∈ tables_1) => atoms_spec (ws := Jvm.Cond.code x code maxLocals ret :: tables_1) hat d (List.mem_cons_of_mem _ hd)
  have hfit : Fit s := fun {y c} hc i hi => by
    obtain ⟨ha, rfl⟩ := Array.getElem?_eq_some_iff.mp hc
    have q := List.all_eq_true.mp ((Array.all_eq_true_iff_forall_mem.mp hF) _ (Array.getElem_mem ha)) i (List.mem_range.mpr hi)
    simpa [Array.getElem?_eq_getElem hi] using q
  obtain ⟨i0, ei0⟩ := is_v g1
  obtain rfl : w0 = (.int i0) := Option.some.inj ei0
  obtain ⟨b0, hn0⟩ := and_e hn
  obtain ⟨b1, hn1⟩ := and_e hn0
  obtain ⟨b2, hn2⟩ := and_e hn1
  obtain ⟨b3, hn3⟩ := and_e hn2
  obtain ⟨b4, hn4⟩ := and_e hn3
  have b5 := hn4
  obtain ⟨x0, v0⟩ := exa_v b0
  obtain ⟨x1, v1⟩ := exa_v b2
  obtain ⟨x2, v2⟩ := exa_v b4
  have B : own_Base s (fun i => ([x0, x1, x2] : List Addr).getD i 0) := ⟨Sta.start v0 (Or.inr ⟨(hw _ (List.mem_of_getElem? (i := 2) rfl)), (hw _ (List.mem_of_getElem? (i := 3) rfl))⟩),
    Exa.start v0 b0,
    Sta.start v1 (Or.inr ⟨(hw _ (List.mem_of_getElem? (i := 2) rfl)), (hw _ (List.mem_of_getElem? (i := 12) rfl))⟩),
    Exa.start v1 b2,
    Sta.start v2 (Or.inr ⟨(hw _ (List.mem_of_getElem? (i := 2) rfl)), (hw _ (List.mem_of_getElem? (i := 19) rfl))⟩),
    Exa.start v2 b4,
    own_fld v0 b1 rfl,
    own_fld v1 b3 rfl,
    own_fld v2 b5 rfl⟩
  obtain ⟨n, o, h1, h2, h3, _, L, rfl, ⟨rfl, N, -⟩, hq⟩ := rm0 l s _ hw tables_1 (fun i => ([x0, x1, x2] : List Addr).getD i 0) i0 B s.heap s.heap.size (Old.start s)  p e ha hc hk s m _ below hf ((Spec.applies_iff_loose hf).mp happ).1 ⟨rfl, State.Warmed39.refl s, rfl⟩ trivial
  refine ⟨n, _, h1, h2, h3, hpost _ _ _ _ _ _ ⟨Cond.after_iff.mpr rfl, Cond.after_iff.mpr (eq_i res_at (Term.int_eval (1)) rfl), trivial⟩ ⟨hq.1, hq.2.1, (hq.2.2.sift fun y hy => Or.inr (N y hy)).mono (by decide) (by decide)⟩⟩
theorem main_1_1 : Claimed_1_1 := comes_1 fun _ _ _ _ _ _ h hF => ⟨h.1, hF⟩
theorem main_1_2 : Claimed_1_2 := comes_1 fun _ _ _ _ _ _ h hF => ⟨h.2.1, hF⟩
end Jvm.Pilot.@@N@@
namespace Jvm.Pilot.@@N@@
open Jvm Jvm.ClassFile Sem Op Lib Jvm.Free Jvm.Stand Jvm.Pilot.@@N@@.Jvm.D
/-! MADE BY PROGRAM (witnessworld.py) out of the Statement's table words and the real class files: 12 classes; the members and pool entries that the words name. The judged class is class 1, her method 1. -/
namespace start1
open Jvm.ClassFile
def u (s : String) : CpInfo := .utf8 (stringToUtf16 s)
/-- a pool by its gaps: so many unusable entries, then the entry; so many at the end -/
def gap : Nat → List CpInfo → List CpInfo
  | 0, r => r
  | n + 1, r => .unusable :: gap n r
def poolList (es : List (Nat × CpInfo)) (last : Nat) : List CpInfo := es.foldr (fun e r => gap e.1 (e.2 :: r)) (gap last [])
def pool (es : List (Nat × CpInfo)) (last : Nat) : Array CpInfo := ⟨poolList es last⟩
def fileOf (pool : Array CpInfo) (this : Nat) (attrs : Array Attribute := #[]) (ms : Array MethodInfo := #[]) (fl : Nat := 33) (sup : Nat := 0) (ifs : Array Nat := #[]) (fds : Array FieldInfo := #[]) : ClassFile where
  minorVersion := 0
  majorVersion := 65
  constantPool := pool
  accessFlags := fl
  thisClass := this
  superClass := sup
  interfaces := ifs
  fields := fds
  methods := ms
  attributes := attrs
def plain (name : String) (sup : Option ClassId) : Class where
  name := name
  kind := .ordinary
  loader := none
  accessFlags := 33
  super := sup
  interfaces := #[]
  cf := none
  fields := #[]
  methods := #[]
  instanceTypes := #[]
  staticTypes := #[]
  resolved := #[]
  callSites := []
  init := .initialized
  statics := none
  mirror := none

def pool0 : Array CpInfo := pool [(5, u "<init>"), (0, u "()V"), (1, .class_ 10), (1, u "java/lang/Object")] 113

def k0m0 : Method := { name := "<init>", desc := "()V", sig := { parameters := [], returnType := none }, accessFlags := 1, code := none }
/-- java/lang/Object -/
def k0 : Class := { plain "java/lang/Object" none with
  accessFlags := 33
  interfaces := #[]
  cf := some (fileOf pool0 8 #[] #[{ accessFlags := 1, nameIndex := 5, descriptorIndex := 6, attributes := #[] }] 33 0 #[] #[])
  fields := #[]
  methods := #[k0m0]
  instanceTypes := #[]
  staticTypes := #[]
  resolved := Array.replicate 124 none
  statics := none }

def pool1 : Array CpInfo := pool [(2, .class_ 4), (1, u "java/lang/Object"), (0, u "<init>"), (0, u "()V"), (0, .integer 2147483647), (0, .fieldref 9 10), (0, .class_ 11), (0, .nameAndType 12 13), (0, u "com/example/vestry/vestry/plan/Form"), (0, u "LUMP_SUM"), (0, u "Lcom/example/vestry/vestry/plan/Form;"), (0, .fieldref 9 15), (0, .nameAndType 16 13), (0, u "ANNUAL"), (0, .fieldref 9 18), (0, .nameAndType 19 13), (0, u "QUARTERLY"), (0, .methodref 9 21), (0, .nameAndType 22 23), (0, u "isInInstallments"), (0, u "()Z"), (0, .methodref 9 25), (0, .nameAndType 26 27), (0, u "installmentsWithin"), (0, u "(I)J"), (0, .class_ 29), (0, u "com/example/vestry/vestry/plan/FormIsInInstallmentsPinLaw"), (2, u "law"), (0, u "(I)Z")] 3

def k1m0 : Method := { name := "<init>", desc := "()V", sig := { parameters := [], returnType := none }, accessFlags := 2, code := none }
def k1c1 : Code := { maxStack := 4, maxLocals := 5, code := code, exceptionTable := #[], attributes := #[] }
def k1m1 : Method := { name := "law", desc := "(I)Z", sig := { parameters := [.int], returnType := some .boolean }, accessFlags := 9, code := some k1c1 }
/-- com/example/vestry/vestry/plan/FormIsInInstallmentsPinLaw -/
def k1 : Class := { plain "com/example/vestry/vestry/plan/FormIsInInstallmentsPinLaw" (some 0) with
  accessFlags := 49
  interfaces := #[]
  cf := some (fileOf pool1 28 #[] #[{ accessFlags := 2, nameIndex := 5, descriptorIndex := 6, attributes := #[] }, { accessFlags := 9, nameIndex := 32, descriptorIndex := 33, attributes := #[] }] 49 2 #[] #[])
  fields := #[]
  methods := #[k1m0, k1m1]
  instanceTypes := #[]
  staticTypes := #[]
  resolved := Array.replicate 37 none
  statics := none }

def pool2 : Array CpInfo := pool [(1, .class_ 2), (0, u "java/lang/constant/Constable"), (0, .class_ 4), (0, u "java/lang/Object")] 6

/-- java/lang/constant/Constable -/
def k2 : Class := { plain "java/lang/constant/Constable" (some 0) with
  accessFlags := 1537
  interfaces := #[]
  cf := some (fileOf pool2 1 #[] #[] 1537 3 #[] #[])
  fields := #[]
  methods := #[]
  instanceTypes := #[]
  staticTypes := #[]
  resolved := Array.replicate 11 none
  statics := none }

def pool3 : Array CpInfo := pool [(1, .class_ 2), (0, u "java/lang/Comparable"), (0, .class_ 4), (0, u "java/lang/Object")] 7

/-- java/lang/Comparable -/
def k3 : Class := { plain "java/lang/Comparable" (some 0) with
  accessFlags := 1537
  interfaces := #[]
  cf := some (fileOf pool3 1 #[] #[] 1537 3 #[] #[])
  fields := #[]
  methods := #[]
  instanceTypes := #[]
  staticTypes := #[]
  resolved := Array.replicate 12 none
  statics := none }

def pool4 : Array CpInfo := pool [(1, .class_ 2), (0, u "java/io/Serializable"), (0, .class_ 4), (0, u "java/lang/Object")] 2

/-- java/io/Serializable -/
def k4 : Class := { plain "java/io/Serializable" (some 0) with
  accessFlags := 1537
  interfaces := #[]
  cf := some (fileOf pool4 1 #[] #[] 1537 3 #[] #[])
  fields := #[]
  methods := #[]
  instanceTypes := #[]
  staticTypes := #[]
  resolved := Array.replicate 7 none
  statics := none }

def pool5 : Array CpInfo := pool [(2, .class_ 4), (1, u "java/lang/Enum"), (0, u "name"), (0, u "Ljava/lang/String;"), (2, u "ordinal"), (0, u "I"), (1, .class_ 14), (1, u "java/lang/Object"), (4, u "hash"), (86, .class_ 108), (1, u "java/lang/Enum$EnumDesc"), (2, .class_ 112), (0, u "java/lang/constant/Constable"), (0, .class_ 114), (0, u "java/lang/Comparable"), (0, .class_ 116), (0, u "java/io/Serializable")] 87

/-- java/lang/Enum -/
def k5 : Class := { plain "java/lang/Enum" (some 0) with
  accessFlags := 1057
  interfaces := #[2, 3, 4]
  cf := some (fileOf pool5 2 #[.nestMembers #[106]] #[] 1057 12 #[111, 113, 115] #[{ accessFlags := 18, nameIndex := 5, descriptorIndex := 6, attributes := #[] }, { accessFlags := 18, nameIndex := 9, descriptorIndex := 10, attributes := #[] }, { accessFlags := 2, nameIndex := 19, descriptorIndex := 10, attributes := #[] }])
  fields := #[{ name := "name", type := (.object "java/lang/String"), accessFlags := 18, slot := 0, constantValue := 0 }, { name := "ordinal", type := .int, accessFlags := 18, slot := 1, constantValue := 0 }, { name := "hash", type := .int, accessFlags := 2, slot := 2, constantValue := 0 }]
  methods := #[]
  instanceTypes := #[(.object "java/lang/String"), .int, .int]
  staticTypes := #[]
  resolved := Array.replicate 204 none
  statics := none }

def pool6 : Array CpInfo := pool [(1, .class_ 2), (0, u "com/example/vestry/vestry/plan/Form"), (2, u "LUMP_SUM"), (0, u "Lcom/example/vestry/vestry/plan/Form;"), (2, u "ANNUAL"), (2, u "QUARTERLY"), (2, u "$VALUES"), (0, u "[Lcom/example/vestry/vestry/plan/Form;"), (6, .class_ 25), (1, u "java/lang/Enum"), (6, .fieldref 1 33), (0, .nameAndType 34 35), (0, u "monthsApart"), (0, u "I"), (36, u "MONTHS_A_YEAR"), (9, u "isInInstallments"), (0, u "()Z"), (1, u "installmentsWithin"), (0, u "(I)J")] 9

def k6c0 : Code := { maxStack := 1, maxLocals := 1, code := prog_32_method_4_code, exceptionTable := #[], attributes := #[] }
def k6m0 : Method := { name := "isInInstallments", desc := "()Z", sig := { parameters := [], returnType := some .boolean }, accessFlags := 1, code := some k6c0 }
def k6c1 : Code := { maxStack := 4, maxLocals := 2, code := prog_32_method_5_code, exceptionTable := #[], attributes := #[] }
def k6m1 : Method := { name := "installmentsWithin", desc := "(I)J", sig := { parameters := [.int], returnType := some .long }, accessFlags := 1, code := some k6c1 }
/-- com/example/vestry/vestry/plan/Form -/
def k6 : Class := { plain "com/example/vestry/vestry/plan/Form" (some 5) with
  accessFlags := 16433
  interfaces := #[]
  cf := some (fileOf pool6 1 #[] #[{ accessFlags := 1, nameIndex := 82, descriptorIndex := 83, attributes := #[] }, { accessFlags := 1, nameIndex := 85, descriptorIndex := 86, attributes := #[] }] 16433 23 #[] #[{ accessFlags := 16409, nameIndex := 5, descriptorIndex := 6, attributes := #[] }, { accessFlags := 16409, nameIndex := 9, descriptorIndex := 6, attributes := #[] }, { accessFlags := 16409, nameIndex := 12, descriptorIndex := 6, attributes := #[] }, { accessFlags := 26, nameIndex := 72, descriptorIndex := 35, attributes := #[] }, { accessFlags := 18, nameIndex := 34, descriptorIndex := 35, attributes := #[] }, { accessFlags := 4122, nameIndex := 15, descriptorIndex := 16, attributes := #[] }])
  fields := #[{ name := "LUMP_SUM", type := (.object "com/example/vestry/vestry/plan/Form"), accessFlags := 16409, slot := 0, constantValue := 0 }, { name := "ANNUAL", type := (.object "com/example/vestry/vestry/plan/Form"), accessFlags := 16409, slot := 1, constantValue := 0 }, { name := "QUARTERLY", type := (.object "com/example/vestry/vestry/plan/Form"), accessFlags := 16409, slot := 2, constantValue := 0 }, { name := "MONTHS_A_YEAR", type := .int, accessFlags := 26, slot := 3, constantValue := 0 }, { name := "monthsApart", type := .int, accessFlags := 18, slot := 3, constantValue := 0 }, { name := "$VALUES", type := (.array (.object "com/example/vestry/vestry/plan/Form")), accessFlags := 4122, slot := 4, constantValue := 0 }]
  methods := #[k6m0, k6m1]
  instanceTypes := #[(.object "java/lang/String"), .int, .int, .int]
  staticTypes := #[(.object "com/example/vestry/vestry/plan/Form"), (.object "com/example/vestry/vestry/plan/Form"), (.object "com/example/vestry/vestry/plan/Form"), .int, (.array (.object "com/example/vestry/vestry/plan/Form"))]
  resolved := Array.replicate 96 none
  statics := some 0 }

def pool7 : Array CpInfo := pool [(1, u "java/lang/Cloneable"), (0, .class_ 1), (0, u "java/lang/Object"), (0, .class_ 3)] 3

/-- java/lang/Cloneable -/
def k7 : Class := { plain "java/lang/Cloneable" (some 0) with
  accessFlags := 1537
  interfaces := #[]
  cf := some (fileOf pool7 2 #[] #[] 1537 4 #[] #[])
  fields := #[]
  methods := #[]
  instanceTypes := #[]
  staticTypes := #[]
  resolved := Array.replicate 8 none
  statics := none }

/-- the primitive byte -/
def k8 : Class := { plain "byte" none with kind := .primitive 'B', accessFlags := 0x411 }
/-- [B -/
def k9 : Class := { plain "[B" (some 0) with kind := .array 8 .byte, interfaces := #[7, 4], accessFlags := 1041 }

/-- the primitive int -/
def k10 : Class := { plain "int" none with kind := .primitive 'I', accessFlags := 0x411 }
/-- [I -/
def k11 : Class := { plain "[I" (some 0) with kind := .array 10 .int, interfaces := #[7, 4], accessFlags := 1041 }

def heap : Heap := #[{ cls := 6, slots := #[.ref 1, .ref 3, .ref 2, .int 0, .null], vm := .statics 6 },
  { cls := 6, slots := #[.null, .int 0, .int 0, .int (0)], vm := .none },
  { cls := 6, slots := #[.null, .int 0, .int 0, .int (3)], vm := .none },
  { cls := 6, slots := #[.null, .int 0, .int 0, .int (12)], vm := .none }]
def classes : Array Class := #[k0, k1, k2, k3, k4, k5, k6, k7, k8, k9, k10, k11]
def interned : List (Array UInt16 × Addr) := []
def slotsUsed : Nat := 17
def theMethod : MethodId := ⟨1, 1⟩
def args0 : Array Value := #[.int 5]
def aboutOver (below : List Frame) : State where
  vm := { classes := classes, interned := interned.toArray }
  heap := heap
  slotsUsed := slotsUsed
  threads := #[{ frames := .invoking theMethod args0 :: below }]
def below0 : List Frame := [.native { method := ⟨0, 0⟩, args := #[] }]
def about1 : State := aboutOver below0
def p0 : Program := .bare "" "" ""
def e0 : Env := launch0.env 0 0 0
theorem w_frames : about1.frames = Frame.invoking theMethod args0 :: below0 := rfl
set_option maxRecDepth 65536 in
theorem w_args : argsFit about1.vm theMethod args0 = true := by decide +kernel
set_option maxRecDepth 65536 in
theorem w_heap : heapFits about1 = true := by decide +kernel
set_option maxRecDepth 65536 in
theorem w_runnable : about1.curStatus? = some .runnable := by decide +kernel
set_option maxRecDepth 65536 in
theorem w_alone : about1.alone = true := by decide +kernel
set_option maxRecDepth 65536 in
theorem w_named : about1.methodNamed? x = some theMethod := by decide +kernel
set_option maxRecDepth 65536 in
theorem w_hears : about1.hears theMethod below0 = true := by decide +kernel
set_option maxRecDepth 65536 in
theorem w_ripe : about1.ripe theMethod args0 below0 = true := by decide +kernel
theorem w_running : about1.status = .running := rfl
set_option maxRecDepth 65536 in
theorem w_room : about1.hasRoom e0.platform room_1 = true :=
  launch0.hasRoom_least _ room_1 (by decide +kernel) (by decide +kernel) (by decide +kernel) (by decide +kernel) (by decide +kernel) (by decide +kernel)
theorem allAtoms_all (ts : List Jvm.Cond) (a : Array Jvm.Value) (st : Jvm.State) : (allAtoms ts).before a st = ts.all (fun c => c.before a st) := by
  induction ts with
  | nil => rfl
  | cons c t ih =>
    show (Jvm.Cond.and c (allAtoms t)).before a st = _
    rw [Jvm.Cond.before_and, ih, List.all_cons]
def words1 : List Jvm.Cond := Jvm.Cond.code x code maxLocals ret :: tables_1
/-- a 'code' word, met by the world's own term for the bytes: nothing is compared byte by byte -/
theorem code_word {y : MethodName} {bytes : ByteArray} {mx : Nat} {rt : Option FieldType} {a : Array Value} {s : State} {m : MethodId} {meth : Method} {c : Code} (h1 : s.methodNamed? y = some m) (h2 : s.vm.method? m = some meth) (h3 : meth.code = some c) (h4 : c.code = bytes)
    (h5 : (c.maxLocals == mx && c.exceptionTable.isEmpty && decide (c.maxStack ≤ mostOperands) && decide (meth.sig.returnType = rt) && !meth.locks && decide (parseMethodDescriptor y.desc = some meth.sig)) = true) : (Jvm.Cond.code y bytes mx rt).before a s = true := by
  simp only [Bool.and_eq_true, beq_iff_eq, Bool.not_eq_true', decide_eq_true_eq] at h5
  obtain ⟨⟨⟨⟨⟨g1, g2⟩, g3⟩, g4⟩, g5⟩, g6⟩ := h5
  simp [Cond.before, Cond.holds, Cond.value, h1, h2, h3, h4, g1, g2, g3, g4, g5, g6]
def isCode : Jvm.Cond → Bool
  | .code _ _ _ _ => true
  | _ => false
theorem all_split {L : List Jvm.Cond} {P : Jvm.Cond → Bool} (h1 : L.all (fun c => isCode c || P c) = true) (h2 : ∀ c ∈ L.filter isCode, P c = true) : L.all P = true := by
  refine List.all_eq_true.mpr fun c hc => ?_
  have h := List.all_eq_true.mp h1 c hc
  rcases Bool.eq_false_or_eq_true (isCode c) with hi | hi
  · exact h2 c (List.mem_filter.mpr ⟨hc, hi⟩)
  · simpa [hi] using h
set_option maxRecDepth 65536 in
theorem w_c0 : (Jvm.Cond.code x code maxLocals ret).before args0 about1 = true := code_word (m := ⟨1, 1⟩) (meth := k1m1) (c := k1c1) (by decide +kernel) rfl rfl rfl (by decide +kernel)
set_option maxRecDepth 65536 in
theorem w_c1 : (Jvm.Cond.code ({ cls := "com/example/vestry/vestry/plan/Form", name := "isInInstallments", desc := "()Z" } : Jvm.MethodName) prog_32_method_4_code (1 : Nat) (Option.some Jvm.ClassFile.FieldType.boolean)).before args0 about1 = true := code_word (m := ⟨6, 0⟩) (meth := k6m0) (c := k6c0) (by decide +kernel) rfl rfl rfl (by decide +kernel)
set_option maxRecDepth 65536 in
theorem w_c2 : (Jvm.Cond.code ({ cls := "com/example/vestry/vestry/plan/Form", name := "installmentsWithin", desc := "(I)J" } : Jvm.MethodName) prog_32_method_5_code (2 : Nat) (Option.some Jvm.ClassFile.FieldType.long)).before args0 about1 = true := code_word (m := ⟨6, 1⟩) (meth := k6m1) (c := k6c1) (by decide +kernel) rfl rfl rfl (by decide +kernel)
def codes1 : List Jvm.Cond := [Jvm.Cond.code x code maxLocals ret, Jvm.Cond.code ({ cls := "com/example/vestry/vestry/plan/Form", name := "isInInstallments", desc := "()Z" } : Jvm.MethodName) prog_32_method_4_code (1 : Nat) (Option.some Jvm.ClassFile.FieldType.boolean), Jvm.Cond.code ({ cls := "com/example/vestry/vestry/plan/Form", name := "installmentsWithin", desc := "(I)J" } : Jvm.MethodName) prog_32_method_5_code (2 : Nat) (Option.some Jvm.ClassFile.FieldType.long)]
set_option maxRecDepth 65536 in
theorem codes_eq : words1.filter isCode = codes1 := rfl
theorem w_codes : ∀ c ∈ words1.filter isCode, c.before args0 about1 = true := by
  rw [codes_eq]
  intro c hc
  simp only [codes1, List.mem_cons, List.not_mem_nil, or_false] at hc
  rcases hc with rfl | rfl | rfl
  · exact w_c0
  · exact w_c1
  · exact w_c2
set_option maxRecDepth 65536 in
theorem w_t1 : words1.all (fun c => isCode c || c.before args0 about1) = true := by decide +kernel
theorem w_tables : (allAtoms (Jvm.Cond.code x code maxLocals ret :: tables_1)).before args0 about1 = true := by
  rw [allAtoms_all]
  show words1.all (fun c => c.before args0 about1) = true
  refine all_split ?_ w_codes
  rw [w_t1]
set_option maxRecDepth 65536 in
theorem w_case : (Jvm.Cond.and given_1 narrow_1).before args0 about1 = true := by decide +kernel
theorem w_applies : (headSpec (Jvm.Cond.code x code maxLocals ret :: tables_1) room_1).applies x e0.platform about1 = true :=
  (Spec.applies_iff w_frames).mpr ⟨w_running, w_runnable, w_alone, w_named, w_hears, w_ripe, w_room, w_tables⟩
theorem atStart : AtStart classFile x code maxLocals ret World_1 tables_1 room_1 Calls_1 rest_1 Pre_1 launch0 p0 e0 about1 theMethod args0 below0 :=
  ⟨lists_1, trivial, launch0.admits_env _ _ _, launch0.least_env, fairChoices_fair.cas, fairChoices_fair.clock, w_frames, w_args, w_heap, w_applies, trivial, trivial, w_case⟩
end start1
theorem witness_1 : WitnessClaimed_1 := ⟨start1.p0, start1.e0, start1.about1, start1.theMethod, start1.args0, start1.below0, start1.atStart⟩
end Jvm.Pilot.@@N@@
