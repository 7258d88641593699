import JvmDerived
import JvmDerived.Pilot.@@N@@Statement
import JvmDerived.Pilot.@@N@@Code
set_option linter.unusedVariables false
set_option linter.unusedSimpArgs false
namespace Jvm.RoadKit
open Sem ClassFile Op Lib Jvm.Stand Jvm.Free Jvm.LawKit
section New
variable {p : Program} {l : Launch} {e : Env} {R : Room} {s : State} {m : MethodId} {args : Array Value} {below : List Frame} {meth : Method} {c : Code} {T : State} {locs : List Loc} {cells slots : Nat}
theorem retI (X : Stand p l e R s m args below meth c T locs cells slots) (hx : p.tables.exec = Jvm.exec) {pc : Nat} {Ls : Array Slot} {z : Int32} {rest : List Value} (hret : meth.sig.returnType = some .int) (hd : decode c.code pc = .ok (.ireturn, 1)) {fs : List Frame}
    (hl : ∀ (f : JFrame) (acts : List Action), f.method = m → f.locked = none → f.entered = [] → (doReturn e (T.setTop f) acts (some (.int z))).1 = T.setFrames fs) : Steps p.tables e below (T.setTop (mkF m pc Ls (.int z :: rest))) (T.setFrames fs) :=
  retOut X hx hret rfl (Or.inl ⟨rfl, Or.inl rfl, z, rfl⟩) hd hl
end New
end Jvm.RoadKit
namespace Jvm.Pilot.@@N@@
open Jvm Jvm.ClassFile Sem Op Lib Jvm.Free Jvm.Stand Jvm.LawKit Jvm.RoadKit Bundle Jvm.Pilot.@@N@@.Jvm.D
/-! small laws of this text's own -/
theorem own_eqv {args : Array Value} {first s : State} {o : Option Outcome} {idx : List Nat} {a b : Term} {v : Value} (h : (Jvm.Cond.eq a b).value args first o s idx = some true) (hb : b.eval args first o idx s = some v) : a.eval args first o idx s = some v := by
  cases ha : a.eval args first o idx s with
  | none => simp [Cond.value, ha] at h
  | some x => cases x <;> cases v <;> simp_all [Cond.value]
theorem own_fld {args : Array Value} {s : State} {t b : Term} {x : Addr} {C n d : String} {v : Value} (ht : t.eval args s none [] s = some (.ref x)) (h : (Jvm.Cond.eq (.field t C n d) b).value args s none s [] = some true) (hb : b.eval args s none [] s = some v) : Fld s s.heap x C n d v :=
  Fld.start ((fld_at ht).symm.trans (own_eqv h hb))
theorem own_len {args : Array Value} {s : State} {t : Term} {x : Addr} {c : Cell} {n : Int32} (ht : t.eval args s none [] s = some (.ref x)) (hc : s.heap[x]? = some c) (h : (Jvm.Cond.eq (.length t) (.int n)).value args s none s [] = some true) : c.slots.size < 2 ^ 31 ∧ c.slots.size.toInt32 = n := by
  have e := own_eqv h (v := .int n) rfl
  simp only [Term.eval, ht, Option.bind_eq_bind, Option.bind_some] at e
  cases hq : s.arrayAt? x with
  | none => simp [hq] at e
  | some c' =>
    have h1 := (State.arrayAt?_spec hq).1
    cases hc.symm.trans h1
    simp only [hq, Option.bind_some] at e
    split at e
    · rename_i hl; exact ⟨hl, by simpa using e⟩
    · cases e
theorem own_elem {args : Array Value} {s : State} {t b : Term} {x : Addr} {c : Cell} {j : Int32} {v : Value} (ht : t.eval args s none [] s = some (.ref x)) (hc : s.heap[x]? = some c) (h : (Jvm.Cond.eq (.elem t (.int j)) b).value args s none s [] = some true) (hb : b.eval args s none [] s = some v) : c.slots[j.toNatClampNeg]? = some v :=
  (elem_in (own_eqv h hb) ht rfl hc).2
theorem own_selpriv {y : MethodName} {s : State} {args : Array Value} {n : Nat} (hy : y.cls ≠ "java/lang/invoke/MethodHandle" ∧ y.cls ≠ "java/lang/invoke/VarHandle") (hins : (Jvm.Cond.instantiable y.cls n).before args s = true) (hpriv : (Jvm.Cond.privateMethod y).before args s = true) (hinst : (Jvm.Cond.instanceMethod y).before args s = true) : (Jvm.Cond.selects y.cls y y).before args s = true := by
  obtain ⟨c, k, hc, hk, -, hniab, -, -⟩ := Cond.instantiable_spec hins
  exact Stand.selects_self_of_private hc hk (Bool.or_eq_false_iff.mp hniab).1 (Cond.privateMethod_at hpriv) hinst hy
theorem own_ext {h0 h : Heap} (K : Keep h0 h []) : Ext h0 h := ⟨K.1, fun x c q => K.2.1 x c q (fun z => nomatch z)⟩
theorem own_cat1 {v : Value} (h : v.isRef = true) : v.category = 1 := by cases v <;> first | rfl | simp [Value.isRef] at h
theorem own_narref {t : FieldType} {v : Value} (h : t.isReference = true) (hv : v.isRef = true) : narrow t v = v := by
  cases v <;> first | (simp [Value.isRef] at hv; done) | (cases t <;> first | rfl | simp [FieldType.isReference] at h)
theorem own_store1 {l : Array Slot} {i : Nat} {v : Value} {o : Slot} (hold : l[i]? = some o) (ho : o = .unset ∨ ∃ w, o = .val w ∧ w.category = 1) (hv : v.category = 1) : storeLocals l i v = some (l.setIfInBounds i (.val v)) := XS.store1 hold ho hv
def own_Base (Z : State) (u : Nat → Addr) : Prop :=
  (Sta Z Z.heap "com/example/vetted_ledger/vettedledger/engine/SubscriptionEventType" "START_ENTITLEMENT" "Lcom/example/vetted_ledger/vettedledger/engine/SubscriptionEventType;" (.ref (u 0))) ∧
  (Exa Z Z.heap (u 0) "com/example/vetted_ledger/vettedledger/engine/SubscriptionEventType") ∧
  (Sta Z Z.heap "com/example/vetted_ledger/vettedledger/engine/SubscriptionEventType" "START_BILLING" "Lcom/example/vetted_ledger/vettedledger/engine/SubscriptionEventType;" (.ref (u 1))) ∧
  (Exa Z Z.heap (u 1) "com/example/vetted_ledger/vettedledger/engine/SubscriptionEventType") ∧
  (Sta Z Z.heap "com/example/vetted_ledger/vettedledger/engine/SubscriptionEventType" "PHASE" "Lcom/example/vetted_ledger/vettedledger/engine/SubscriptionEventType;" (.ref (u 2))) ∧
  (Exa Z Z.heap (u 2) "com/example/vetted_ledger/vettedledger/engine/SubscriptionEventType") ∧
  (Sta Z Z.heap "com/example/vetted_ledger/vettedledger/engine/SubscriptionEventType" "CHANGE" "Lcom/example/vetted_ledger/vettedledger/engine/SubscriptionEventType;" (.ref (u 3))) ∧
  (Exa Z Z.heap (u 3) "com/example/vetted_ledger/vettedledger/engine/SubscriptionEventType") ∧
  (Sta Z Z.heap "com/example/vetted_ledger/vettedledger/engine/SubscriptionEventType" "QUANTITY_CHANGE" "Lcom/example/vetted_ledger/vettedledger/engine/SubscriptionEventType;" (.ref (u 4))) ∧
  (Exa Z Z.heap (u 4) "com/example/vetted_ledger/vettedledger/engine/SubscriptionEventType") ∧
  (Sta Z Z.heap "com/example/vetted_ledger/vettedledger/engine/SubscriptionEventType" "BCD_CHANGE" "Lcom/example/vetted_ledger/vettedledger/engine/SubscriptionEventType;" (.ref (u 5))) ∧
  (Exa Z Z.heap (u 5) "com/example/vetted_ledger/vettedledger/engine/SubscriptionEventType") ∧
  (Sta Z Z.heap "com/example/vetted_ledger/vettedledger/engine/SubscriptionEventType" "STOP_ENTITLEMENT" "Lcom/example/vetted_ledger/vettedledger/engine/SubscriptionEventType;" (.ref (u 6))) ∧
  (Exa Z Z.heap (u 6) "com/example/vetted_ledger/vettedledger/engine/SubscriptionEventType") ∧
  (Sta Z Z.heap "com/example/vetted_ledger/vettedledger/engine/SubscriptionEventType" "STOP_BILLING" "Lcom/example/vetted_ledger/vettedledger/engine/SubscriptionEventType;" (.ref (u 7))) ∧
  (Exa Z Z.heap (u 7) "com/example/vetted_ledger/vettedledger/engine/SubscriptionEventType") ∧
  (Fld Z Z.heap (u 0) "java/lang/Enum" "ordinal" "I" (.int (0 : Int32))) ∧
  (Fld Z Z.heap (u 1) "java/lang/Enum" "ordinal" "I" (.int (1 : Int32))) ∧
  (Fld Z Z.heap (u 2) "java/lang/Enum" "ordinal" "I" (.int (2 : Int32))) ∧
  (Fld Z Z.heap (u 3) "java/lang/Enum" "ordinal" "I" (.int (3 : Int32))) ∧
  (Fld Z Z.heap (u 4) "java/lang/Enum" "ordinal" "I" (.int (4 : Int32))) ∧
  (Fld Z Z.heap (u 5) "java/lang/Enum" "ordinal" "I" (.int (5 : Int32))) ∧
  (Fld Z Z.heap (u 6) "java/lang/Enum" "ordinal" "I" (.int (6 : Int32))) ∧
  (Fld Z Z.heap (u 7) "java/lang/Enum" "ordinal" "I" (.int (7 : Int32)))
theorem own_pd0 : parseMethodDescriptor "()Z" = some ⟨[], some .boolean⟩ := by decide +kernel
theorem d1_0 : decode prog_26_method_6_code 0 = .ok (.aload_n 0, 1) := by decide +kernel
theorem d1_1 : decode prog_26_method_6_code 1 = .ok (.getstatic 16, 3) := by decide +kernel
theorem d1_4 : decode prog_26_method_6_code 4 = .ok (.if_acmp .eq 10, 3) := by decide +kernel
theorem d1_7 : decode prog_26_method_6_code 7 = .ok (.aload_n 0, 1) := by decide +kernel
theorem d1_8 : decode prog_26_method_6_code 8 = .ok (.getstatic 19, 3) := by decide +kernel
theorem d1_11 : decode prog_26_method_6_code 11 = .ok (.if_acmp .ne 7, 3) := by decide +kernel
theorem d1_14 : decode prog_26_method_6_code 14 = .ok (.iconst 1, 1) := by decide +kernel
theorem d1_15 : decode prog_26_method_6_code 15 = .ok (.goto 4, 3) := by decide +kernel
theorem d1_18 : decode prog_26_method_6_code 18 = .ok (.iconst 0, 1) := by decide +kernel
theorem d1_19 : decode prog_26_method_6_code 19 = .ok (.ireturn, 1) := by decide +kernel
theorem own_pn_1 : plainName "com/example/vetted_ledger/vettedledger/engine/SubscriptionEventType" = true := by first | (simp [plainName, overriddenIn]; done) | decide +kernel
theorem own_ef_1 (m : MethodId) (x0 : Addr) : entryFrame m #[(.ref x0)] 1 = mkF m 0 #[.val (.ref x0)] [] := by first | (simp [entryFrame, mkF, argsToLocals, Value.category]; done) | rfl
def own_r1 (u : Nat → Addr) (r0 : Addr) : Int32 :=
  if r0 = (u 4) then
    (1 : Int32)
  else
    if r0 = (u 5) then
      (1 : Int32)
    else
      (0 : Int32)
def own_Q1 (Z : State) (u : Nat → Addr) (r0 : Addr) (h0 : Heap) (n0 : Nat) (v : Option Value) (h : Heap) (L : List Loc) : Prop := v = some (.int (own_r1 u r0)) ∧ Fr n0 L ∧ h = h0
set_option maxRecDepth 65536 in
set_option maxHeartbeats 40000000 in
theorem rm1 (l : Launch) (Z : State) (a0 : Array Value) (hw : ∀ d ∈ tables_1, d.before a0 Z = true) (ws : List Jvm.Cond) (u : Nat → Addr) (r0 : Addr) (B : own_Base Z u) (h0 : Heap) (n0 : Nat) (O : Old Z n0 h0) :
    MetFree l (⟨"com/example/vetted_ledger/vettedledger/engine/SubscriptionEventType", "changesTerms", "()Z"⟩ : MethodName) (head1 (Jvm.Cond.code (⟨"com/example/vetted_ledger/vettedledger/engine/SubscriptionEventType", "changesTerms", "()Z"⟩ : MethodName) prog_26_method_6_code 1 (some .boolean) :: ws) ({ frames := 0, cells := 0, slots := 0, locals := 0 } : Room)) (fun a U => a = #[(.ref r0)] ∧ Z.Warmed39 U.vm ∧ U.heap = h0) (fun _ _ _ _ _ => True) (fun _ U o U' => ∃ v L, o = .returned v ∧ own_Q1 Z u r0 h0 n0 v U'.heap L ∧ FrameEnd U o U' L ({ frames := 0, cells := 0, slots := 0, locals := 0 } : Room).cells ({ frames := 0, cells := 0, slots := 0, locals := 0 } : Room).slots) := by
  refine MetFree.of_bodySF (plainFor_of_name own_pn_1) hisR ?_
  intro p e s m args below meth c s₁ Bd hml0 hP hK
  obtain ⟨rfl, hZ, hh⟩ := hP
  have hx := Bd.exec
  have hby := Bd.bytes
  have hml : c.maxLocals = 1 := hml0
  have hown : s.vm.findClass "com/example/vetted_ledger/vettedledger/engine/SubscriptionEventType" = some m.cls := findClass_of_methodNamed Bd.named
  have hnm := (name_of_methodNamed Bd.named Bd.method).1
  have X0 : Stand p l e ({ frames := 0, cells := 0, slots := 0, locals := 0 } : Room) s m #[(.ref r0)] below meth c s₁ [] 0 0 := Stand.of_body Bd
  have e0 : s₁.heap = h0 := by rw [← hh, Bd.state]; rfl
  have N0 := Fr.nil n0
  have K0 := Keep.refl h0 []
  have Z0 : n0 ≤ h0.size := O.1 ▸ O.2.1
  have pre0 : ∀ t, Steps p.tables e below (s₁.setTop (mkF m 0 #[.val (.ref r0)] [])) t → Steps p.tables e below (s₁.setTop (entryFrame m #[(.ref r0)] 1)) t := fun t k => castTop (own_ef_1 m r0) k
  obtain ⟨T1, X1, e1, st1⟩ := getS2 X0 hx hZ hown (host := "") (Or.inl (hw _ (List.mem_of_getElem? (i := 25) rfl))) Via.refl e0 (B.2.2.2.2.2.2.2.2.1.ext O.2) (g := (mkF m 1 #[.val (.ref r0)] [(.ref r0)])) rfl (hb hby d1_1)
  have pre2 : ∀ t, Steps p.tables e below (T1.setTop (mkF m 4 #[.val (.ref r0)] [(.ref (u 4)), (.ref r0)])) t → Steps p.tables e below (s₁.setTop (entryFrame m #[(.ref r0)] 1)) t := fun t kt => pre0 t (by
    show Steps p.tables e below (s₁.setTop (mkF m 0 #[.val (.ref r0)] [])) _
    refine XS.aloadN X0.here hx rfl (hb hby d1_0) rfl rfl ?_
    show Steps p.tables e below (s₁.setTop (mkF m 1 #[.val (.ref r0)] [(.ref r0)])) _
    refine st1 _ ?_
    exact kt)
  by_cases hc3 : r0 = (u 4)
  · --
    obtain ⟨fs, hr, hrun, hended, hW, hsame⟩ := X1.leave (v := some (.int (1 : Int32))) (fun h => by rw [Bd.returns] at h; cases h)
    refine ⟨_, _, pre2 _ ?_, hrun, hended, _, _, rfl, ?_, ⟨_, rfl⟩, hW, hsame.mono (by decide) (by decide)⟩
    · show Steps p.tables e below (T1.setTop (mkF m 4 #[.val (.ref r0)] [(.ref (u 4)), (.ref r0)])) _
      refine Jvm.RoadKit.acmp (g := (mkF m 4 #[.val (.ref r0)] [(.ref (u 4)), (.ref r0)])) X1 hx rfl rfl rfl (pc0 := 4) (pc' := 14) (same := true) rfl (hb hby d1_4) rfl (decide_eq_true (congrArg Value.ref hc3)) (by decide) (by decide) ?_
      show Steps p.tables e below (T1.setTop (mkF m 14 #[.val (.ref r0)] [])) _
      refine XS.iconst X1.here hx rfl (hb hby d1_14) ?_
      show Steps p.tables e below (T1.setTop (mkF m 15 #[.val (.ref r0)] [(.int (1 : Int32))])) _
      refine XS.goto X1.here hx rfl (pc0 := 15) (pc' := 19) rfl (hb hby d1_15) (by decide) (by decide) ?_
      show Steps p.tables e below (T1.setTop (mkF m 19 #[.val (.ref r0)] [(.int (1 : Int32))])) _
      exact retN X1 hx (t := .boolean) Bd.returns (by simp) (hb hby d1_19) hr
    · show own_Q1 Z u r0 h0 n0 _ T1.heap _
      rw [e1]
      exact ⟨(by unfold own_r1; rw [if_pos hc3]), N0, rfl⟩
  · --
    obtain ⟨T5, X5, e5, st5⟩ := getS2 X1 hx hZ hown (host := "") (Or.inl (hw _ (List.mem_of_getElem? (i := 26) rfl))) Via.refl e1 (B.2.2.2.2.2.2.2.2.2.2.1.ext O.2) (g := (mkF m 8 #[.val (.ref r0)] [(.ref r0)])) rfl (hb hby d1_8)
    have pre6 : ∀ t, Steps p.tables e below (T5.setTop (mkF m 11 #[.val (.ref r0)] [(.ref (u 5)), (.ref r0)])) t → Steps p.tables e below (s₁.setTop (entryFrame m #[(.ref r0)] 1)) t := fun t kt => pre2 t (by
      show Steps p.tables e below (T1.setTop (mkF m 4 #[.val (.ref r0)] [(.ref (u 4)), (.ref r0)])) _
      refine Jvm.RoadKit.acmp (g := (mkF m 4 #[.val (.ref r0)] [(.ref (u 4)), (.ref r0)])) X1 hx rfl rfl rfl (pc0 := 4) (pc' := 7) (same := false) rfl (hb hby d1_4) rfl (decide_eq_false fun q => hc3 (Value.ref.inj q)) (by decide) (by decide) ?_
      show Steps p.tables e below (T1.setTop (mkF m 7 #[.val (.ref r0)] [])) _
      refine XS.aloadN X1.here hx rfl (hb hby d1_7) rfl rfl ?_
      show Steps p.tables e below (T1.setTop (mkF m 8 #[.val (.ref r0)] [(.ref r0)])) _
      refine st5 _ ?_
      exact kt)
    by_cases hc7 : r0 = (u 5)
    · --
      obtain ⟨fs, hr, hrun, hended, hW, hsame⟩ := X5.leave (v := some (.int (1 : Int32))) (fun h => by rw [Bd.returns] at h; cases h)
      refine ⟨_, _, pre6 _ ?_, hrun, hended, _, _, rfl, ?_, ⟨_, rfl⟩, hW, hsame.mono (by decide) (by decide)⟩
      · show Steps p.tables e below (T5.setTop (mkF m 11 #[.val (.ref r0)] [(.ref (u 5)), (.ref r0)])) _
        refine Jvm.RoadKit.acmp (g := (mkF m 11 #[.val (.ref r0)] [(.ref (u 5)), (.ref r0)])) X5 hx rfl rfl rfl (pc0 := 11) (pc' := 14) (same := true) rfl (hb hby d1_11) rfl (decide_eq_true (congrArg Value.ref hc7)) (by decide) (by decide) ?_
        show Steps p.tables e below (T5.setTop (mkF m 14 #[.val (.ref r0)] [])) _
        refine XS.iconst X5.here hx rfl (hb hby d1_14) ?_
        show Steps p.tables e below (T5.setTop (mkF m 15 #[.val (.ref r0)] [(.int (1 : Int32))])) _
        refine XS.goto X5.here hx rfl (pc0 := 15) (pc' := 19) rfl (hb hby d1_15) (by decide) (by decide) ?_
        show Steps p.tables e below (T5.setTop (mkF m 19 #[.val (.ref r0)] [(.int (1 : Int32))])) _
        exact retN X5 hx (t := .boolean) Bd.returns (by simp) (hb hby d1_19) hr
      · show own_Q1 Z u r0 h0 n0 _ T5.heap _
        rw [e5]
        exact ⟨(by unfold own_r1; rw [if_neg hc3, if_pos hc7]), N0, rfl⟩
    · --
      obtain ⟨fs, hr, hrun, hended, hW, hsame⟩ := X5.leave (v := some (.int (0 : Int32))) (fun h => by rw [Bd.returns] at h; cases h)
      refine ⟨_, _, pre6 _ ?_, hrun, hended, _, _, rfl, ?_, ⟨_, rfl⟩, hW, hsame.mono (by decide) (by decide)⟩
      · show Steps p.tables e below (T5.setTop (mkF m 11 #[.val (.ref r0)] [(.ref (u 5)), (.ref r0)])) _
        refine Jvm.RoadKit.acmp (g := (mkF m 11 #[.val (.ref r0)] [(.ref (u 5)), (.ref r0)])) X5 hx rfl rfl rfl (pc0 := 11) (pc' := 18) (same := false) rfl (hb hby d1_11) rfl (decide_eq_false fun q => hc7 (Value.ref.inj q)) (by decide) (by decide) ?_
        show Steps p.tables e below (T5.setTop (mkF m 18 #[.val (.ref r0)] [])) _
        refine XS.iconst X5.here hx rfl (hb hby d1_18) ?_
        show Steps p.tables e below (T5.setTop (mkF m 19 #[.val (.ref r0)] [(.int (0 : Int32))])) _
        exact retN X5 hx (t := .boolean) Bd.returns (by simp) (hb hby d1_19) hr
      · show own_Q1 Z u r0 h0 n0 _ T5.heap _
        rw [e5]
        exact ⟨(by unfold own_r1; rw [if_neg hc3, if_neg hc7]), N0, rfl⟩
theorem own_exh8 {j : Int32} (h0 : 0 ≤ j.toInt) (h1 : j.toInt < 8) (n0 : ¬ j = (0 : Int32)) (n1 : ¬ j = (1 : Int32)) (n2 : ¬ j = (2 : Int32)) (n3 : ¬ j = (3 : Int32)) (n4 : ¬ j = (4 : Int32)) (n5 : ¬ j = (5 : Int32)) (n6 : ¬ j = (6 : Int32)) (n7 : ¬ j = (7 : Int32)) : False := by
  have e0 : j.toInt ≠ 0 := fun q => n0 (Int32.toInt_inj.mp (q.trans rfl))
  have e1 : j.toInt ≠ 1 := fun q => n1 (Int32.toInt_inj.mp (q.trans rfl))
  have e2 : j.toInt ≠ 2 := fun q => n2 (Int32.toInt_inj.mp (q.trans rfl))
  have e3 : j.toInt ≠ 3 := fun q => n3 (Int32.toInt_inj.mp (q.trans rfl))
  have e4 : j.toInt ≠ 4 := fun q => n4 (Int32.toInt_inj.mp (q.trans rfl))
  have e5 : j.toInt ≠ 5 := fun q => n5 (Int32.toInt_inj.mp (q.trans rfl))
  have e6 : j.toInt ≠ 6 := fun q => n6 (Int32.toInt_inj.mp (q.trans rfl))
  have e7 : j.toInt ≠ 7 := fun q => n7 (Int32.toInt_inj.mp (q.trans rfl))
  omega
theorem own_and7 (x : Int32) : 0 ≤ (x &&& (7 : Int32)).toInt ∧ (x &&& (7 : Int32)).toInt < 8 := by
  have h := c_mask x 7 3 (by decide) (by decide)
  rw [h]; omega
theorem own_pn_0 : plainName "com/example/vetted_ledger/vettedledger/engine/SubscriptionEventTypeChangesTermsPinLaw" = true := by first | (simp [plainName, overriddenIn]; done) | decide +kernel
theorem own_ef_0 (m : MethodId) (x0 : Int32) : entryFrame m #[(.int x0)] maxLocals = mkF m 0 #[.val (.int x0), .unset, .unset, .unset, .unset] [] := by first | (simp [entryFrame, mkF, argsToLocals, Value.category, maxLocals]; done) | rfl
def own_Q0 (Z : State) (u : Nat → Addr) (p0 : Int32) (h0 : Heap) (n0 : Nat) (v : Option Value) (h : Heap) (L : List Loc) : Prop := v = some (.int (1 : Int32)) ∧ Fr n0 L ∧ True
set_option maxRecDepth 65536 in
set_option maxHeartbeats 40000000 in
theorem rm0 (l : Launch) (Z : State) (a0 : Array Value) (hw : ∀ d ∈ tables_1, d.before a0 Z = true) (ws : List Jvm.Cond) (u : Nat → Addr) (p0 : Int32) (B : own_Base Z u) (h0 : Heap) (n0 : Nat) (O : Old Z n0 h0) :
    MetFree l x (head1 (Jvm.Cond.code x code maxLocals ret :: ws) room_1) (fun a U => a = #[(.int p0)] ∧ Z.Warmed39 U.vm ∧ U.heap = h0) (fun _ _ _ _ _ => True) (fun _ U o U' => ∃ v L, o = .returned v ∧ own_Q0 Z u p0 h0 n0 v U'.heap L ∧ FrameEnd U o U' L room_1.cells room_1.slots) := by
  refine MetFree.of_bodySF (plainFor_of_name own_pn_0) hisR ?_
  intro p e s m args below meth c s₁ Bd hml0 hP hK
  obtain ⟨rfl, hZ, hh⟩ := hP
  have hx := Bd.exec
  have hby := Bd.bytes
  have hml : c.maxLocals = 5 := hml0
  have hown : s.vm.findClass "com/example/vetted_ledger/vettedledger/engine/SubscriptionEventTypeChangesTermsPinLaw" = some m.cls := findClass_of_methodNamed Bd.named
  have hnm := (name_of_methodNamed Bd.named Bd.method).1
  have X0 : Stand p l e room_1 s m #[(.int p0)] below meth c s₁ [] 0 0 := Stand.of_body Bd
  have e0 : s₁.heap = h0 := by rw [← hh, Bd.state]; rfl
  have N0 := Fr.nil n0
  have K0 := Keep.refl h0 []
  have Z0 : n0 ≤ h0.size := O.1 ▸ O.2.1
  have pre0 : ∀ t, Steps p.tables e below (s₁.setTop (mkF m 0 #[.val (.int p0), .unset, .unset, .unset, .unset] [])) t → Steps p.tables e below (s₁.setTop (entryFrame m #[(.int p0)] maxLocals)) t := fun t k => castTop (own_ef_0 m p0) k
  obtain ⟨T10, h10, k10, X10, e10, E10, A10, Ov10, st10⟩ := newR X0 hx hZ hown (hw _ (List.mem_of_getElem? (i := 0) rfl)) (hw _ (List.mem_of_getElem? (i := 1) rfl)) e0 (g := (mkF m 2 #[.val (.int p0), .unset, .unset, .unset, .unset] [(.int (8 : Int32))])) rfl (hb hby at_2) rfl (by decide) (cap := 8) (by decide) (by decide) (by decide) (by decide)
  obtain ⟨b10, g10⟩ : ∃ z, z = h0.size := ⟨_, rfl⟩
  rw [← g10] at A10 st10
  have gx_b10 : n0 ≤ b10 := Nat.le_trans (O.1 ▸ O.2.1) (Nat.le_of_eq g10.symm)
  have sz_b10 : h0.size ≤ b10 := Nat.le_trans K0.1 (Nat.le_of_eq g10.symm)
  have O10 := O.ext E10
  have K10 := K0.ext E10
  have V_b10 : Arv Z h10 b10 k10 (.object "com/example/vetted_ledger/vettedledger/engine/SubscriptionEventType") (8 : Int32) [.null, .null, .null, .null, .null, .null, .null, .null] .null := (Arv.new A10 (by decide)).pad (pad_rep [] .null 8)
  obtain ⟨T11, X11, e11, st11⟩ := getS2 X10 hx hZ hown (host := "") (Or.inl (hw _ (List.mem_of_getElem? (i := 2) rfl))) Via.refl e10 (B.1.ext O10.2) (g := (mkF m 7 #[.val (.int p0), .unset, .unset, .unset, .unset] [(.int (0 : Int32)), (.ref b10), (.ref b10)])) rfl (hb hby at_7)
  obtain ⟨cl12, Ar12, q12, S12, N12, H12, G12⟩ := V_b10
  have hin12 : ¬ ((0 : Int32) < 0 ∨ cl12.slots.size ≤ ((0 : Int32)).toNatClampNeg) := inb_of S12 ⟨by decide, by decide⟩
  obtain ⟨T13, h13, X13, e13, W13, st13⟩ := stR X11 hx hZ e11 Ar12 (j := (0 : Int32)) hin12 rfl (Sto.ofV Ar12 q12 Ov10 (Ins.self (B.2.1.ext O10.2))) (g := (mkF m 10 #[.val (.int p0), .unset, .unset, .unset, .unset] [(.ref (u 0)), (.int (0 : Int32)), (.ref b10), (.ref b10)])) rfl rfl (hb hby at_10)
  have Nf13 := Fr.snoc X13 N0 gx_b10
  have V13 : Arv Z h13 b10 k10 (.object "com/example/vetted_ledger/vettedledger/engine/SubscriptionEventType") (8 : Int32) [.ref (u 0), .null, .null, .null, .null, .null, .null, .null] .null := Arv.set Ar12 q12 S12 N12 H12 G12 rfl W13 0 rfl (Nat.le_of_ble_eq_true rfl)
  have O13 := O10.wr W13 gx_b10
  have K13 := K10.wr W13 (Or.inr sz_b10)
  obtain ⟨T16, X16, e16, st16⟩ := getS2 X13 hx hZ hown (host := "") (Or.inl (hw _ (List.mem_of_getElem? (i := 6) rfl))) Via.refl e13 (B.2.2.1.ext O13.2) (g := (mkF m 13 #[.val (.int p0), .unset, .unset, .unset, .unset] [(.int (1 : Int32)), (.ref b10), (.ref b10)])) rfl (hb hby at_13)
  obtain ⟨cl17, Ar17, q17, S17, N17, H17, G17⟩ := V13
  have hin17 : ¬ ((1 : Int32) < 0 ∨ cl17.slots.size ≤ ((1 : Int32)).toNatClampNeg) := inb_of S17 ⟨by decide, by decide⟩
  obtain ⟨T18, h18, X18, e18, W18, st18⟩ := stR X16 hx hZ e16 Ar17 (j := (1 : Int32)) hin17 rfl (Sto.ofV Ar17 q17 Ov10 (Ins.self (B.2.2.2.1.ext O13.2))) (g := (mkF m 16 #[.val (.int p0), .unset, .unset, .unset, .unset] [(.ref (u 1)), (.int (1 : Int32)), (.ref b10), (.ref b10)])) rfl rfl (hb hby at_16)
  have Nf18 := Fr.snoc X18 Nf13 gx_b10
  have V18 : Arv Z h18 b10 k10 (.object "com/example/vetted_ledger/vettedledger/engine/SubscriptionEventType") (8 : Int32) [.ref (u 0), .ref (u 1), .null, .null, .null, .null, .null, .null] .null := Arv.set Ar17 q17 S17 N17 H17 G17 rfl W18 1 rfl (Nat.le_of_ble_eq_true rfl)
  have O18 := O13.wr W18 gx_b10
  have K18 := K13.wr W18 (Or.inr sz_b10)
  obtain ⟨T21, X21, e21, st21⟩ := getS2 X18 hx hZ hown (host := "") (Or.inl (hw _ (List.mem_of_getElem? (i := 8) rfl))) Via.refl e18 (B.2.2.2.2.1.ext O18.2) (g := (mkF m 19 #[.val (.int p0), .unset, .unset, .unset, .unset] [(.int (2 : Int32)), (.ref b10), (.ref b10)])) rfl (hb hby at_19)
  obtain ⟨cl22, Ar22, q22, S22, N22, H22, G22⟩ := V18
  have hin22 : ¬ ((2 : Int32) < 0 ∨ cl22.slots.size ≤ ((2 : Int32)).toNatClampNeg) := inb_of S22 ⟨by decide, by decide⟩
  obtain ⟨T23, h23, X23, e23, W23, st23⟩ := stR X21 hx hZ e21 Ar22 (j := (2 : Int32)) hin22 rfl (Sto.ofV Ar22 q22 Ov10 (Ins.self (B.2.2.2.2.2.1.ext O18.2))) (g := (mkF m 22 #[.val (.int p0), .unset, .unset, .unset, .unset] [(.ref (u 2)), (.int (2 : Int32)), (.ref b10), (.ref b10)])) rfl rfl (hb hby at_22)
  have Nf23 := Fr.snoc X23 Nf18 gx_b10
  have V23 : Arv Z h23 b10 k10 (.object "com/example/vetted_ledger/vettedledger/engine/SubscriptionEventType") (8 : Int32) [.ref (u 0), .ref (u 1), .ref (u 2), .null, .null, .null, .null, .null] .null := Arv.set Ar22 q22 S22 N22 H22 G22 rfl W23 2 rfl (Nat.le_of_ble_eq_true rfl)
  have O23 := O18.wr W23 gx_b10
  have K23 := K18.wr W23 (Or.inr sz_b10)
  obtain ⟨T26, X26, e26, st26⟩ := getS2 X23 hx hZ hown (host := "") (Or.inl (hw _ (List.mem_of_getElem? (i := 10) rfl))) Via.refl e23 (B.2.2.2.2.2.2.1.ext O23.2) (g := (mkF m 25 #[.val (.int p0), .unset, .unset, .unset, .unset] [(.int (3 : Int32)), (.ref b10), (.ref b10)])) rfl (hb hby at_25)
  obtain ⟨cl27, Ar27, q27, S27, N27, H27, G27⟩ := V23
  have hin27 : ¬ ((3 : Int32) < 0 ∨ cl27.slots.size ≤ ((3 : Int32)).toNatClampNeg) := inb_of S27 ⟨by decide, by decide⟩
  obtain ⟨T28, h28, X28, e28, W28, st28⟩ := stR X26 hx hZ e26 Ar27 (j := (3 : Int32)) hin27 rfl (Sto.ofV Ar27 q27 Ov10 (Ins.self (B.2.2.2.2.2.2.2.1.ext O23.2))) (g := (mkF m 28 #[.val (.int p0), .unset, .unset, .unset, .unset] [(.ref (u 3)), (.int (3 : Int32)), (.ref b10), (.ref b10)])) rfl rfl (hb hby at_28)
  have Nf28 := Fr.snoc X28 Nf23 gx_b10
  have V28 : Arv Z h28 b10 k10 (.object "com/example/vetted_ledger/vettedledger/engine/SubscriptionEventType") (8 : Int32) [.ref (u 0), .ref (u 1), .ref (u 2), .ref (u 3), .null, .null, .null, .null] .null := Arv.set Ar27 q27 S27 N27 H27 G27 rfl W28 3 rfl (Nat.le_of_ble_eq_true rfl)
  have O28 := O23.wr W28 gx_b10
  have K28 := K23.wr W28 (Or.inr sz_b10)
  obtain ⟨T31, X31, e31, st31⟩ := getS2 X28 hx hZ hown (host := "") (Or.inl (hw _ (List.mem_of_getElem? (i := 12) rfl))) Via.refl e28 (B.2.2.2.2.2.2.2.2.1.ext O28.2) (g := (mkF m 31 #[.val (.int p0), .unset, .unset, .unset, .unset] [(.int (4 : Int32)), (.ref b10), (.ref b10)])) rfl (hb hby at_31)
  obtain ⟨cl32, Ar32, q32, S32, N32, H32, G32⟩ := V28
  have hin32 : ¬ ((4 : Int32) < 0 ∨ cl32.slots.size ≤ ((4 : Int32)).toNatClampNeg) := inb_of S32 ⟨by decide, by decide⟩
  obtain ⟨T33, h33, X33, e33, W33, st33⟩ := stR X31 hx hZ e31 Ar32 (j := (4 : Int32)) hin32 rfl (Sto.ofV Ar32 q32 Ov10 (Ins.self (B.2.2.2.2.2.2.2.2.2.1.ext O28.2))) (g := (mkF m 34 #[.val (.int p0), .unset, .unset, .unset, .unset] [(.ref (u 4)), (.int (4 : Int32)), (.ref b10), (.ref b10)])) rfl rfl (hb hby at_34)
  have Nf33 := Fr.snoc X33 Nf28 gx_b10
  have V33 : Arv Z h33 b10 k10 (.object "com/example/vetted_ledger/vettedledger/engine/SubscriptionEventType") (8 : Int32) [.ref (u 0), .ref (u 1), .ref (u 2), .ref (u 3), .ref (u 4), .null, .null, .null] .null := Arv.set Ar32 q32 S32 N32 H32 G32 rfl W33 4 rfl (Nat.le_of_ble_eq_true rfl)
  have O33 := O28.wr W33 gx_b10
  have K33 := K28.wr W33 (Or.inr sz_b10)
  obtain ⟨T36, X36, e36, st36⟩ := getS2 X33 hx hZ hown (host := "") (Or.inl (hw _ (List.mem_of_getElem? (i := 14) rfl))) Via.refl e33 (B.2.2.2.2.2.2.2.2.2.2.1.ext O33.2) (g := (mkF m 37 #[.val (.int p0), .unset, .unset, .unset, .unset] [(.int (5 : Int32)), (.ref b10), (.ref b10)])) rfl (hb hby at_37)
  obtain ⟨cl37, Ar37, q37, S37, N37, H37, G37⟩ := V33
  have hin37 : ¬ ((5 : Int32) < 0 ∨ cl37.slots.size ≤ ((5 : Int32)).toNatClampNeg) := inb_of S37 ⟨by decide, by decide⟩
  obtain ⟨T38, h38, X38, e38, W38, st38⟩ := stR X36 hx hZ e36 Ar37 (j := (5 : Int32)) hin37 rfl (Sto.ofV Ar37 q37 Ov10 (Ins.self (B.2.2.2.2.2.2.2.2.2.2.2.1.ext O33.2))) (g := (mkF m 40 #[.val (.int p0), .unset, .unset, .unset, .unset] [(.ref (u 5)), (.int (5 : Int32)), (.ref b10), (.ref b10)])) rfl rfl (hb hby at_40)
  have Nf38 := Fr.snoc X38 Nf33 gx_b10
  have V38 : Arv Z h38 b10 k10 (.object "com/example/vetted_ledger/vettedledger/engine/SubscriptionEventType") (8 : Int32) [.ref (u 0), .ref (u 1), .ref (u 2), .ref (u 3), .ref (u 4), .ref (u 5), .null, .null] .null := Arv.set Ar37 q37 S37 N37 H37 G37 rfl W38 5 rfl (Nat.le_of_ble_eq_true rfl)
  have O38 := O33.wr W38 gx_b10
  have K38 := K33.wr W38 (Or.inr sz_b10)
  obtain ⟨T41, X41, e41, st41⟩ := getS2 X38 hx hZ hown (host := "") (Or.inl (hw _ (List.mem_of_getElem? (i := 16) rfl))) Via.refl e38 (B.2.2.2.2.2.2.2.2.2.2.2.2.1.ext O38.2) (g := (mkF m 44 #[.val (.int p0), .unset, .unset, .unset, .unset] [(.int (6 : Int32)), (.ref b10), (.ref b10)])) rfl (hb hby at_44)
  obtain ⟨cl42, Ar42, q42, S42, N42, H42, G42⟩ := V38
  have hin42 : ¬ ((6 : Int32) < 0 ∨ cl42.slots.size ≤ ((6 : Int32)).toNatClampNeg) := inb_of S42 ⟨by decide, by decide⟩
  obtain ⟨T43, h43, X43, e43, W43, st43⟩ := stR X41 hx hZ e41 Ar42 (j := (6 : Int32)) hin42 rfl (Sto.ofV Ar42 q42 Ov10 (Ins.self (B.2.2.2.2.2.2.2.2.2.2.2.2.2.1.ext O38.2))) (g := (mkF m 47 #[.val (.int p0), .unset, .unset, .unset, .unset] [(.ref (u 6)), (.int (6 : Int32)), (.ref b10), (.ref b10)])) rfl rfl (hb hby at_47)
  have Nf43 := Fr.snoc X43 Nf38 gx_b10
  have V43 : Arv Z h43 b10 k10 (.object "com/example/vetted_ledger/vettedledger/engine/SubscriptionEventType") (8 : Int32) [.ref (u 0), .ref (u 1), .ref (u 2), .ref (u 3), .ref (u 4), .ref (u 5), .ref (u 6), .null] .null := Arv.set Ar42 q42 S42 N42 H42 G42 rfl W43 6 rfl (Nat.le_of_ble_eq_true rfl)
  have O43 := O38.wr W43 gx_b10
  have K43 := K38.wr W43 (Or.inr sz_b10)
  obtain ⟨T46, X46, e46, st46⟩ := getS2 X43 hx hZ hown (host := "") (Or.inl (hw _ (List.mem_of_getElem? (i := 18) rfl))) Via.refl e43 (B.2.2.2.2.2.2.2.2.2.2.2.2.2.2.1.ext O43.2) (g := (mkF m 51 #[.val (.int p0), .unset, .unset, .unset, .unset] [(.int (7 : Int32)), (.ref b10), (.ref b10)])) rfl (hb hby at_51)
  obtain ⟨cl47, Ar47, q47, S47, N47, H47, G47⟩ := V43
  have hin47 : ¬ ((7 : Int32) < 0 ∨ cl47.slots.size ≤ ((7 : Int32)).toNatClampNeg) := inb_of S47 ⟨by decide, by decide⟩
  obtain ⟨T48, h48, X48, e48, W48, st48⟩ := stR X46 hx hZ e46 Ar47 (j := (7 : Int32)) hin47 rfl (Sto.ofV Ar47 q47 Ov10 (Ins.self (B.2.2.2.2.2.2.2.2.2.2.2.2.2.2.2.1.ext O43.2))) (g := (mkF m 54 #[.val (.int p0), .unset, .unset, .unset, .unset] [(.ref (u 7)), (.int (7 : Int32)), (.ref b10), (.ref b10)])) rfl rfl (hb hby at_54)
  have Nf48 := Fr.snoc X48 Nf43 gx_b10
  have V48 : Arv Z h48 b10 k10 (.object "com/example/vetted_ledger/vettedledger/engine/SubscriptionEventType") (8 : Int32) [.ref (u 0), .ref (u 1), .ref (u 2), .ref (u 3), .ref (u 4), .ref (u 5), .ref (u 6), .ref (u 7)] .null := Arv.set Ar47 q47 S47 N47 H47 G47 rfl W48 7 rfl (Nat.le_of_ble_eq_true rfl)
  have O48 := O43.wr W48 gx_b10
  have K48 := K43.wr W48 (Or.inr sz_b10)
  have pre51 : ∀ t, Steps p.tables e below (T48.setTop (mkF m 63 #[.val (.int p0), .val (.ref b10), .val (.int (p0 &&& (7 : Int32))), .unset, .unset] [(.int (p0 &&& (7 : Int32))), (.ref b10)])) t → Steps p.tables e below (s₁.setTop (entryFrame m #[(.int p0)] maxLocals)) t := fun t kt => pre0 t (by
    show Steps p.tables e below (s₁.setTop (mkF m 0 #[.val (.int p0), .unset, .unset, .unset, .unset] [])) _
    refine XS.bipush X0.here hx rfl (hb hby at_0) ?_
    show Steps p.tables e below (s₁.setTop (mkF m 2 #[.val (.int p0), .unset, .unset, .unset, .unset] [(.int (8 : Int32))])) _
    refine st10 _ ?_
    show Steps p.tables e below (T10.setTop (mkF m 5 #[.val (.int p0), .unset, .unset, .unset, .unset] [(.ref b10)])) _
    refine XS.dup X10.here hx rfl (hb hby at_5) rfl rfl ?_
    show Steps p.tables e below (T10.setTop (mkF m 6 #[.val (.int p0), .unset, .unset, .unset, .unset] [(.ref b10), (.ref b10)])) _
    refine XS.iconst X10.here hx rfl (hb hby at_6) ?_
    show Steps p.tables e below (T10.setTop (mkF m 7 #[.val (.int p0), .unset, .unset, .unset, .unset] [(.int (0 : Int32)), (.ref b10), (.ref b10)])) _
    refine st11 _ ?_
    show Steps p.tables e below (T11.setTop (mkF m 10 #[.val (.int p0), .unset, .unset, .unset, .unset] [(.ref (u 0)), (.int (0 : Int32)), (.ref b10), (.ref b10)])) _
    refine st13 _ ?_
    show Steps p.tables e below (T13.setTop (mkF m 11 #[.val (.int p0), .unset, .unset, .unset, .unset] [(.ref b10)])) _
    refine XS.dup X13.here hx rfl (hb hby at_11) rfl rfl ?_
    show Steps p.tables e below (T13.setTop (mkF m 12 #[.val (.int p0), .unset, .unset, .unset, .unset] [(.ref b10), (.ref b10)])) _
    refine XS.iconst X13.here hx rfl (hb hby at_12) ?_
    show Steps p.tables e below (T13.setTop (mkF m 13 #[.val (.int p0), .unset, .unset, .unset, .unset] [(.int (1 : Int32)), (.ref b10), (.ref b10)])) _
    refine st16 _ ?_
    show Steps p.tables e below (T16.setTop (mkF m 16 #[.val (.int p0), .unset, .unset, .unset, .unset] [(.ref (u 1)), (.int (1 : Int32)), (.ref b10), (.ref b10)])) _
    refine st18 _ ?_
    show Steps p.tables e below (T18.setTop (mkF m 17 #[.val (.int p0), .unset, .unset, .unset, .unset] [(.ref b10)])) _
    refine XS.dup X18.here hx rfl (hb hby at_17) rfl rfl ?_
    show Steps p.tables e below (T18.setTop (mkF m 18 #[.val (.int p0), .unset, .unset, .unset, .unset] [(.ref b10), (.ref b10)])) _
    refine XS.iconst X18.here hx rfl (hb hby at_18) ?_
    show Steps p.tables e below (T18.setTop (mkF m 19 #[.val (.int p0), .unset, .unset, .unset, .unset] [(.int (2 : Int32)), (.ref b10), (.ref b10)])) _
    refine st21 _ ?_
    show Steps p.tables e below (T21.setTop (mkF m 22 #[.val (.int p0), .unset, .unset, .unset, .unset] [(.ref (u 2)), (.int (2 : Int32)), (.ref b10), (.ref b10)])) _
    refine st23 _ ?_
    show Steps p.tables e below (T23.setTop (mkF m 23 #[.val (.int p0), .unset, .unset, .unset, .unset] [(.ref b10)])) _
    refine XS.dup X23.here hx rfl (hb hby at_23) rfl rfl ?_
    show Steps p.tables e below (T23.setTop (mkF m 24 #[.val (.int p0), .unset, .unset, .unset, .unset] [(.ref b10), (.ref b10)])) _
    refine XS.iconst X23.here hx rfl (hb hby at_24) ?_
    show Steps p.tables e below (T23.setTop (mkF m 25 #[.val (.int p0), .unset, .unset, .unset, .unset] [(.int (3 : Int32)), (.ref b10), (.ref b10)])) _
    refine st26 _ ?_
    show Steps p.tables e below (T26.setTop (mkF m 28 #[.val (.int p0), .unset, .unset, .unset, .unset] [(.ref (u 3)), (.int (3 : Int32)), (.ref b10), (.ref b10)])) _
    refine st28 _ ?_
    show Steps p.tables e below (T28.setTop (mkF m 29 #[.val (.int p0), .unset, .unset, .unset, .unset] [(.ref b10)])) _
    refine XS.dup X28.here hx rfl (hb hby at_29) rfl rfl ?_
    show Steps p.tables e below (T28.setTop (mkF m 30 #[.val (.int p0), .unset, .unset, .unset, .unset] [(.ref b10), (.ref b10)])) _
    refine XS.iconst X28.here hx rfl (hb hby at_30) ?_
    show Steps p.tables e below (T28.setTop (mkF m 31 #[.val (.int p0), .unset, .unset, .unset, .unset] [(.int (4 : Int32)), (.ref b10), (.ref b10)])) _
    refine st31 _ ?_
    show Steps p.tables e below (T31.setTop (mkF m 34 #[.val (.int p0), .unset, .unset, .unset, .unset] [(.ref (u 4)), (.int (4 : Int32)), (.ref b10), (.ref b10)])) _
    refine st33 _ ?_
    show Steps p.tables e below (T33.setTop (mkF m 35 #[.val (.int p0), .unset, .unset, .unset, .unset] [(.ref b10)])) _
    refine XS.dup X33.here hx rfl (hb hby at_35) rfl rfl ?_
    show Steps p.tables e below (T33.setTop (mkF m 36 #[.val (.int p0), .unset, .unset, .unset, .unset] [(.ref b10), (.ref b10)])) _
    refine XS.iconst X33.here hx rfl (hb hby at_36) ?_
    show Steps p.tables e below (T33.setTop (mkF m 37 #[.val (.int p0), .unset, .unset, .unset, .unset] [(.int (5 : Int32)), (.ref b10), (.ref b10)])) _
    refine st36 _ ?_
    show Steps p.tables e below (T36.setTop (mkF m 40 #[.val (.int p0), .unset, .unset, .unset, .unset] [(.ref (u 5)), (.int (5 : Int32)), (.ref b10), (.ref b10)])) _
    refine st38 _ ?_
    show Steps p.tables e below (T38.setTop (mkF m 41 #[.val (.int p0), .unset, .unset, .unset, .unset] [(.ref b10)])) _
    refine XS.dup X38.here hx rfl (hb hby at_41) rfl rfl ?_
    show Steps p.tables e below (T38.setTop (mkF m 42 #[.val (.int p0), .unset, .unset, .unset, .unset] [(.ref b10), (.ref b10)])) _
    refine XS.bipush X38.here hx rfl (hb hby at_42) ?_
    show Steps p.tables e below (T38.setTop (mkF m 44 #[.val (.int p0), .unset, .unset, .unset, .unset] [(.int (6 : Int32)), (.ref b10), (.ref b10)])) _
    refine st41 _ ?_
    show Steps p.tables e below (T41.setTop (mkF m 47 #[.val (.int p0), .unset, .unset, .unset, .unset] [(.ref (u 6)), (.int (6 : Int32)), (.ref b10), (.ref b10)])) _
    refine st43 _ ?_
    show Steps p.tables e below (T43.setTop (mkF m 48 #[.val (.int p0), .unset, .unset, .unset, .unset] [(.ref b10)])) _
    refine XS.dup X43.here hx rfl (hb hby at_48) rfl rfl ?_
    show Steps p.tables e below (T43.setTop (mkF m 49 #[.val (.int p0), .unset, .unset, .unset, .unset] [(.ref b10), (.ref b10)])) _
    refine XS.bipush X43.here hx rfl (hb hby at_49) ?_
    show Steps p.tables e below (T43.setTop (mkF m 51 #[.val (.int p0), .unset, .unset, .unset, .unset] [(.int (7 : Int32)), (.ref b10), (.ref b10)])) _
    refine st46 _ ?_
    show Steps p.tables e below (T46.setTop (mkF m 54 #[.val (.int p0), .unset, .unset, .unset, .unset] [(.ref (u 7)), (.int (7 : Int32)), (.ref b10), (.ref b10)])) _
    refine st48 _ ?_
    show Steps p.tables e below (T48.setTop (mkF m 55 #[.val (.int p0), .unset, .unset, .unset, .unset] [(.ref b10)])) _
    refine XS.astoreN X48.here hx rfl (hb hby at_55) rfl rfl (l' := #[.val (.int p0), .val (.ref b10), .unset, .unset, .unset]) rfl ?_
    show Steps p.tables e below (T48.setTop (mkF m 56 #[.val (.int p0), .val (.ref b10), .unset, .unset, .unset] [])) _
    refine XS.iloadN X48.here hx rfl (hb hby at_56) rfl ?_
    show Steps p.tables e below (T48.setTop (mkF m 57 #[.val (.int p0), .val (.ref b10), .unset, .unset, .unset] [(.int p0)])) _
    refine XS.bipush X48.here hx rfl (hb hby at_57) ?_
    show Steps p.tables e below (T48.setTop (mkF m 59 #[.val (.int p0), .val (.ref b10), .unset, .unset, .unset] [(.int (7 : Int32)), (.int p0)])) _
    refine XS.iand X48.here hx rfl (hb hby at_59) rfl ?_
    show Steps p.tables e below (T48.setTop (mkF m 60 #[.val (.int p0), .val (.ref b10), .unset, .unset, .unset] [(.int (p0 &&& (7 : Int32)))])) _
    refine XS.istoreN X48.here hx rfl (hb hby at_60) rfl (l' := #[.val (.int p0), .val (.ref b10), .val (.int (p0 &&& (7 : Int32))), .unset, .unset]) rfl ?_
    show Steps p.tables e below (T48.setTop (mkF m 61 #[.val (.int p0), .val (.ref b10), .val (.int (p0 &&& (7 : Int32))), .unset, .unset] [])) _
    refine XS.aloadN X48.here hx rfl (hb hby at_61) rfl rfl ?_
    show Steps p.tables e below (T48.setTop (mkF m 62 #[.val (.int p0), .val (.ref b10), .val (.int (p0 &&& (7 : Int32))), .unset, .unset] [(.ref b10)])) _
    refine XS.iloadN X48.here hx rfl (hb hby at_62) rfl ?_
    exact kt)
  by_cases hc52 : (p0 &&& (7 : Int32)) = (0 : Int32)
  · --
    obtain ⟨cl53, Ar53, -, S53, N53, H53, -⟩ := V48
    have hin53 : ¬ ((p0 &&& (7 : Int32)) < 0 ∨ cl53.slots.size ≤ ((p0 &&& (7 : Int32))).toNatClampNeg) := by rw [hc52]; exact inb_of S53 ⟨by decide, by decide⟩
    have pre54 : ∀ t, Steps p.tables e below (T48.setTop (mkF m 83 #[.val (.int p0), .val (.ref b10), .val (.int (p0 &&& (7 : Int32))), .val (.ref (u 0)), .val (.int (0 : Int32))] [(.ref (u 0))])) t → Steps p.tables e below (s₁.setTop (entryFrame m #[(.int p0)] maxLocals)) t := fun t kt => pre51 t (by
      show Steps p.tables e below (T48.setTop (mkF m 63 #[.val (.int p0), .val (.ref b10), .val (.int (p0 &&& (7 : Int32))), .unset, .unset] [(.int (p0 &&& (7 : Int32))), (.ref b10)])) _
      refine X48.aaload hx (j := (p0 &&& (7 : Int32))) (v := (.ref (u 0))) (by rw [e48]; exact Ar53.1) (State.isArrayOf_alike hZ.alike Ar53.2.1) rfl Ar53.2.2 hin53 (H53.at hin53 (by rw [hc52]; rfl)) (g := (mkF m 63 #[.val (.int p0), .val (.ref b10), .val (.int (p0 &&& (7 : Int32))), .unset, .unset] [(.int (p0 &&& (7 : Int32))), (.ref b10)])) rfl rfl (hb hby at_63) _ ?_
      show Steps p.tables e below (T48.setTop (mkF m 64 #[.val (.int p0), .val (.ref b10), .val (.int (p0 &&& (7 : Int32))), .unset, .unset] [(.ref (u 0))])) _
      refine XS.astoreN X48.here hx rfl (hb hby at_64) rfl rfl (l' := #[.val (.int p0), .val (.ref b10), .val (.int (p0 &&& (7 : Int32))), .val (.ref (u 0)), .unset]) rfl ?_
      show Steps p.tables e below (T48.setTop (mkF m 65 #[.val (.int p0), .val (.ref b10), .val (.int (p0 &&& (7 : Int32))), .val (.ref (u 0)), .unset] [])) _
      refine XS.iloadN X48.here hx rfl (hb hby at_65) rfl ?_
      show Steps p.tables e below (T48.setTop (mkF m 66 #[.val (.int p0), .val (.ref b10), .val (.int (p0 &&& (7 : Int32))), .val (.ref (u 0)), .unset] [(.int (p0 &&& (7 : Int32)))])) _
      refine XS.iconst X48.here hx rfl (hb hby at_66) ?_
      show Steps p.tables e below (T48.setTop (mkF m 67 #[.val (.int p0), .val (.ref b10), .val (.int (p0 &&& (7 : Int32))), .val (.ref (u 0)), .unset] [(.int (4 : Int32)), (.int (p0 &&& (7 : Int32)))])) _
      refine XS.icmpNo X48.here hx rfl (hb hby at_67) rfl (feq (fun q => absurd (hc52.symm.trans q) (by decide))).1 ?_
      show Steps p.tables e below (T48.setTop (mkF m 70 #[.val (.int p0), .val (.ref b10), .val (.int (p0 &&& (7 : Int32))), .val (.ref (u 0)), .unset] [])) _
      refine XS.iloadN X48.here hx rfl (hb hby at_70) rfl ?_
      show Steps p.tables e below (T48.setTop (mkF m 71 #[.val (.int p0), .val (.ref b10), .val (.int (p0 &&& (7 : Int32))), .val (.ref (u 0)), .unset] [(.int (p0 &&& (7 : Int32)))])) _
      refine XS.iconst X48.here hx rfl (hb hby at_71) ?_
      show Steps p.tables e below (T48.setTop (mkF m 72 #[.val (.int p0), .val (.ref b10), .val (.int (p0 &&& (7 : Int32))), .val (.ref (u 0)), .unset] [(.int (5 : Int32)), (.int (p0 &&& (7 : Int32)))])) _
      refine XS.icmpYes X48.here hx rfl (pc0 := 72) (pc' := 79) rfl (hb hby at_72) rfl (feq (fun q => absurd (hc52.symm.trans q) (by decide))).2 (by decide) (by decide) ?_
      show Steps p.tables e below (T48.setTop (mkF m 79 #[.val (.int p0), .val (.ref b10), .val (.int (p0 &&& (7 : Int32))), .val (.ref (u 0)), .unset] [])) _
      refine XS.iconst X48.here hx rfl (hb hby at_79) ?_
      show Steps p.tables e below (T48.setTop (mkF m 80 #[.val (.int p0), .val (.ref b10), .val (.int (p0 &&& (7 : Int32))), .val (.ref (u 0)), .unset] [(.int (0 : Int32))])) _
      refine XS.istore X48.here hx rfl (hb hby at_80) rfl (l' := #[.val (.int p0), .val (.ref b10), .val (.int (p0 &&& (7 : Int32))), .val (.ref (u 0)), .val (.int (0 : Int32))]) rfl ?_
      show Steps p.tables e below (T48.setTop (mkF m 82 #[.val (.int p0), .val (.ref b10), .val (.int (p0 &&& (7 : Int32))), .val (.ref (u 0)), .val (.int (0 : Int32))] [])) _
      refine XS.aloadN X48.here hx rfl (hb hby at_82) rfl rfl ?_
      exact kt)
    obtain ⟨cq55, kq55, q55a, q55b, q55c⟩ := isOf hZ e48 (B.2.1.ext O48.2)
    obtain ⟨vr55, _, ⟨T55, L55, k55, n55⟩, -, X55, ⟨Lc55, hQ55, l55, y55, z55⟩, st55⟩ := X48.virtualBack hx (y := (⟨"com/example/vetted_ledger/vettedledger/engine/SubscriptionEventType", "changesTerms", "()Z"⟩ : MethodName)) (z := (⟨"com/example/vetted_ledger/vettedledger/engine/SubscriptionEventType", "changesTerms", "()Z"⟩ : MethodName)) hown (mvT hZ (hw _ (List.mem_of_getElem? (i := 20) rfl))) (mvT hZ (hw _ (List.mem_of_getElem? (i := 21) rfl))) (notFace_of_selects (args := #[]) (mvT hZ (hw _ (List.mem_of_getElem? (i := 23) rfl)))) (mvT hZ (hw _ (List.mem_of_getElem? (i := 23) rfl))) (mvT hZ (hw _ (List.mem_of_getElem? (i := 22) rfl))) (by decide) (backOf (W := 0) (rm1 l Z a0 hw [] u (u 0) B h48 n0 O48 ) hZ (hw _ (List.mem_of_getElem? (i := 24) rfl)) (hw _ (List.mem_of_getElem? (i := 3) rfl)) (by decide) (by decide)) q55a q55c (g := (mkF m 83 #[.val (.int p0), .val (.ref b10), .val (.int (p0 &&& (7 : Int32))), .val (.ref (u 0)), .val (.int (0 : Int32))] [(.ref (u 0))])) rfl (by rw [hml]; rfl) (Steps.refl _) (argsL := []) (rest := []) (lenOf own_pd0 rfl) rfl (by show 2 * 0 + _ ≤ _; exact Nat.le_of_eq rfl) (hb hby at_83) (fun _ _ => ⟨rfl, e48, (by decide : 1 + 0 ≤ _), (by decide : 8 + 0 ≤ _)⟩)
    dsimp only [Pt.U, Pt.locs, Pt.cells, Pt.slots] at X55 l55 y55 z55 st55 hQ55
    subst l55 y55 z55
    obtain ⟨hv55, N55q, e55⟩ := hQ55
    have N55 := Fr.app Nf48 N55q
    obtain rfl : vr55 = some (.int (0 : Int32)) := hv55.trans (by unfold own_r1; rw [if_neg ((Fld.ne B.2.2.2.2.2.2.2.2.2.2.2.2.2.2.2.2.1 B.2.2.2.2.2.2.2.2.2.2.2.2.2.2.2.2.2.2.2.2.1 (by decide)) : ¬ ((u 0) = (u 4))), if_neg ((Fld.ne B.2.2.2.2.2.2.2.2.2.2.2.2.2.2.2.2.1 B.2.2.2.2.2.2.2.2.2.2.2.2.2.2.2.2.2.2.2.2.2.1 (by decide)) : ¬ ((u 0) = (u 5)))])
    obtain ⟨fs, hr, hrun, hended, hW, hsame⟩ := X55.leave (v := some (.int (1 : Int32))) (fun h => by rw [Bd.returns] at h; cases h)
    refine ⟨_, _, pre54 _ ?_, hrun, hended, _, _, rfl, ?_, ⟨_, rfl⟩, hW, hsame.mono (by decide) (by decide)⟩
    · show Steps p.tables e below (T48.setTop (mkF m 83 #[.val (.int p0), .val (.ref b10), .val (.int (p0 &&& (7 : Int32))), .val (.ref (u 0)), .val (.int (0 : Int32))] [(.ref (u 0))])) _
      refine st55.trans ?_
      show Steps p.tables e below (T55.setTop (mkF m 86 #[.val (.int p0), .val (.ref b10), .val (.int (p0 &&& (7 : Int32))), .val (.ref (u 0)), .val (.int (0 : Int32))] [(.int (0 : Int32))])) _
      refine XS.iload X55.here hx rfl (hb hby at_86) rfl ?_
      show Steps p.tables e below (T55.setTop (mkF m 88 #[.val (.int p0), .val (.ref b10), .val (.int (p0 &&& (7 : Int32))), .val (.ref (u 0)), .val (.int (0 : Int32))] [(.int (0 : Int32)), (.int (0 : Int32))])) _
      refine XS.icmpNo X55.here hx rfl (hb hby at_88) rfl (teq (by decide : (0 : Int32) = (0 : Int32))).2 ?_
      show Steps p.tables e below (T55.setTop (mkF m 91 #[.val (.int p0), .val (.ref b10), .val (.int (p0 &&& (7 : Int32))), .val (.ref (u 0)), .val (.int (0 : Int32))] [])) _
      refine XS.iconst X55.here hx rfl (hb hby at_91) ?_
      show Steps p.tables e below (T55.setTop (mkF m 92 #[.val (.int p0), .val (.ref b10), .val (.int (p0 &&& (7 : Int32))), .val (.ref (u 0)), .val (.int (0 : Int32))] [(.int (1 : Int32))])) _
      refine XS.goto X55.here hx rfl (pc0 := 92) (pc' := 96) rfl (hb hby at_92) (by decide) (by decide) ?_
      show Steps p.tables e below (T55.setTop (mkF m 96 #[.val (.int p0), .val (.ref b10), .val (.int (p0 &&& (7 : Int32))), .val (.ref (u 0)), .val (.int (0 : Int32))] [(.int (1 : Int32))])) _
      exact retN X55 hx (t := .boolean) Bd.returns (by simp) (hb hby at_96) hr
    · show own_Q0 Z u p0 h0 n0 _ T55.heap _
      rw [e55]
      exact ⟨rfl, N55, trivial⟩
  · --
    by_cases hc57 : (p0 &&& (7 : Int32)) = (1 : Int32)
    · --
      obtain ⟨cl58, Ar58, -, S58, N58, H58, -⟩ := V48
      have hin58 : ¬ ((p0 &&& (7 : Int32)) < 0 ∨ cl58.slots.size ≤ ((p0 &&& (7 : Int32))).toNatClampNeg) := by rw [hc57]; exact inb_of S58 ⟨by decide, by decide⟩
      have pre59 : ∀ t, Steps p.tables e below (T48.setTop (mkF m 83 #[.val (.int p0), .val (.ref b10), .val (.int (p0 &&& (7 : Int32))), .val (.ref (u 1)), .val (.int (0 : Int32))] [(.ref (u 1))])) t → Steps p.tables e below (s₁.setTop (entryFrame m #[(.int p0)] maxLocals)) t := fun t kt => pre51 t (by
        show Steps p.tables e below (T48.setTop (mkF m 63 #[.val (.int p0), .val (.ref b10), .val (.int (p0 &&& (7 : Int32))), .unset, .unset] [(.int (p0 &&& (7 : Int32))), (.ref b10)])) _
        refine X48.aaload hx (j := (p0 &&& (7 : Int32))) (v := (.ref (u 1))) (by rw [e48]; exact Ar58.1) (State.isArrayOf_alike hZ.alike Ar58.2.1) rfl Ar58.2.2 hin58 (H58.at hin58 (by rw [hc57]; rfl)) (g := (mkF m 63 #[.val (.int p0), .val (.ref b10), .val (.int (p0 &&& (7 : Int32))), .unset, .unset] [(.int (p0 &&& (7 : Int32))), (.ref b10)])) rfl rfl (hb hby at_63) _ ?_
        show Steps p.tables e below (T48.setTop (mkF m 64 #[.val (.int p0), .val (.ref b10), .val (.int (p0 &&& (7 : Int32))), .unset, .unset] [(.ref (u 1))])) _
        refine XS.astoreN X48.here hx rfl (hb hby at_64) rfl rfl (l' := #[.val (.int p0), .val (.ref b10), .val (.int (p0 &&& (7 : Int32))), .val (.ref (u 1)), .unset]) rfl ?_
        show Steps p.tables e below (T48.setTop (mkF m 65 #[.val (.int p0), .val (.ref b10), .val (.int (p0 &&& (7 : Int32))), .val (.ref (u 1)), .unset] [])) _
        refine XS.iloadN X48.here hx rfl (hb hby at_65) rfl ?_
        show Steps p.tables e below (T48.setTop (mkF m 66 #[.val (.int p0), .val (.ref b10), .val (.int (p0 &&& (7 : Int32))), .val (.ref (u 1)), .unset] [(.int (p0 &&& (7 : Int32)))])) _
        refine XS.iconst X48.here hx rfl (hb hby at_66) ?_
        show Steps p.tables e below (T48.setTop (mkF m 67 #[.val (.int p0), .val (.ref b10), .val (.int (p0 &&& (7 : Int32))), .val (.ref (u 1)), .unset] [(.int (4 : Int32)), (.int (p0 &&& (7 : Int32)))])) _
        refine XS.icmpNo X48.here hx rfl (hb hby at_67) rfl (feq (fun q => absurd (hc57.symm.trans q) (by decide))).1 ?_
        show Steps p.tables e below (T48.setTop (mkF m 70 #[.val (.int p0), .val (.ref b10), .val (.int (p0 &&& (7 : Int32))), .val (.ref (u 1)), .unset] [])) _
        refine XS.iloadN X48.here hx rfl (hb hby at_70) rfl ?_
        show Steps p.tables e below (T48.setTop (mkF m 71 #[.val (.int p0), .val (.ref b10), .val (.int (p0 &&& (7 : Int32))), .val (.ref (u 1)), .unset] [(.int (p0 &&& (7 : Int32)))])) _
        refine XS.iconst X48.here hx rfl (hb hby at_71) ?_
        show Steps p.tables e below (T48.setTop (mkF m 72 #[.val (.int p0), .val (.ref b10), .val (.int (p0 &&& (7 : Int32))), .val (.ref (u 1)), .unset] [(.int (5 : Int32)), (.int (p0 &&& (7 : Int32)))])) _
        refine XS.icmpYes X48.here hx rfl (pc0 := 72) (pc' := 79) rfl (hb hby at_72) rfl (feq (fun q => absurd (hc57.symm.trans q) (by decide))).2 (by decide) (by decide) ?_
        show Steps p.tables e below (T48.setTop (mkF m 79 #[.val (.int p0), .val (.ref b10), .val (.int (p0 &&& (7 : Int32))), .val (.ref (u 1)), .unset] [])) _
        refine XS.iconst X48.here hx rfl (hb hby at_79) ?_
        show Steps p.tables e below (T48.setTop (mkF m 80 #[.val (.int p0), .val (.ref b10), .val (.int (p0 &&& (7 : Int32))), .val (.ref (u 1)), .unset] [(.int (0 : Int32))])) _
        refine XS.istore X48.here hx rfl (hb hby at_80) rfl (l' := #[.val (.int p0), .val (.ref b10), .val (.int (p0 &&& (7 : Int32))), .val (.ref (u 1)), .val (.int (0 : Int32))]) rfl ?_
        show Steps p.tables e below (T48.setTop (mkF m 82 #[.val (.int p0), .val (.ref b10), .val (.int (p0 &&& (7 : Int32))), .val (.ref (u 1)), .val (.int (0 : Int32))] [])) _
        refine XS.aloadN X48.here hx rfl (hb hby at_82) rfl rfl ?_
        exact kt)
      obtain ⟨cq60, kq60, q60a, q60b, q60c⟩ := isOf hZ e48 (B.2.2.2.1.ext O48.2)
      obtain ⟨vr60, _, ⟨T60, L60, k60, n60⟩, -, X60, ⟨Lc60, hQ60, l60, y60, z60⟩, st60⟩ := X48.virtualBack hx (y := (⟨"com/example/vetted_ledger/vettedledger/engine/SubscriptionEventType", "changesTerms", "()Z"⟩ : MethodName)) (z := (⟨"com/example/vetted_ledger/vettedledger/engine/SubscriptionEventType", "changesTerms", "()Z"⟩ : MethodName)) hown (mvT hZ (hw _ (List.mem_of_getElem? (i := 20) rfl))) (mvT hZ (hw _ (List.mem_of_getElem? (i := 21) rfl))) (notFace_of_selects (args := #[]) (mvT hZ (hw _ (List.mem_of_getElem? (i := 23) rfl)))) (mvT hZ (hw _ (List.mem_of_getElem? (i := 23) rfl))) (mvT hZ (hw _ (List.mem_of_getElem? (i := 22) rfl))) (by decide) (backOf (W := 0) (rm1 l Z a0 hw [] u (u 1) B h48 n0 O48 ) hZ (hw _ (List.mem_of_getElem? (i := 24) rfl)) (hw _ (List.mem_of_getElem? (i := 3) rfl)) (by decide) (by decide)) q60a q60c (g := (mkF m 83 #[.val (.int p0), .val (.ref b10), .val (.int (p0 &&& (7 : Int32))), .val (.ref (u 1)), .val (.int (0 : Int32))] [(.ref (u 1))])) rfl (by rw [hml]; rfl) (Steps.refl _) (argsL := []) (rest := []) (lenOf own_pd0 rfl) rfl (by show 2 * 0 + _ ≤ _; exact Nat.le_of_eq rfl) (hb hby at_83) (fun _ _ => ⟨rfl, e48, (by decide : 1 + 0 ≤ _), (by decide : 8 + 0 ≤ _)⟩)
      dsimp only [Pt.U, Pt.locs, Pt.cells, Pt.slots] at X60 l60 y60 z60 st60 hQ60
      subst l60 y60 z60
      obtain ⟨hv60, N60q, e60⟩ := hQ60
      have N60 := Fr.app Nf48 N60q
      obtain rfl : vr60 = some (.int (0 : Int32)) := hv60.trans (by unfold own_r1; rw [if_neg ((Fld.ne B.2.2.2.2.2.2.2.2.2.2.2.2.2.2.2.2.2.1 B.2.2.2.2.2.2.2.2.2.2.2.2.2.2.2.2.2.2.2.2.1 (by decide)) : ¬ ((u 1) = (u 4))), if_neg ((Fld.ne B.2.2.2.2.2.2.2.2.2.2.2.2.2.2.2.2.2.1 B.2.2.2.2.2.2.2.2.2.2.2.2.2.2.2.2.2.2.2.2.2.1 (by decide)) : ¬ ((u 1) = (u 5)))])
      obtain ⟨fs, hr, hrun, hended, hW, hsame⟩ := X60.leave (v := some (.int (1 : Int32))) (fun h => by rw [Bd.returns] at h; cases h)
      refine ⟨_, _, pre59 _ ?_, hrun, hended, _, _, rfl, ?_, ⟨_, rfl⟩, hW, hsame.mono (by decide) (by decide)⟩
      · show Steps p.tables e below (T48.setTop (mkF m 83 #[.val (.int p0), .val (.ref b10), .val (.int (p0 &&& (7 : Int32))), .val (.ref (u 1)), .val (.int (0 : Int32))] [(.ref (u 1))])) _
        refine st60.trans ?_
        show Steps p.tables e below (T60.setTop (mkF m 86 #[.val (.int p0), .val (.ref b10), .val (.int (p0 &&& (7 : Int32))), .val (.ref (u 1)), .val (.int (0 : Int32))] [(.int (0 : Int32))])) _
        refine XS.iload X60.here hx rfl (hb hby at_86) rfl ?_
        show Steps p.tables e below (T60.setTop (mkF m 88 #[.val (.int p0), .val (.ref b10), .val (.int (p0 &&& (7 : Int32))), .val (.ref (u 1)), .val (.int (0 : Int32))] [(.int (0 : Int32)), (.int (0 : Int32))])) _
        refine XS.icmpNo X60.here hx rfl (hb hby at_88) rfl (teq (by decide : (0 : Int32) = (0 : Int32))).2 ?_
        show Steps p.tables e below (T60.setTop (mkF m 91 #[.val (.int p0), .val (.ref b10), .val (.int (p0 &&& (7 : Int32))), .val (.ref (u 1)), .val (.int (0 : Int32))] [])) _
        refine XS.iconst X60.here hx rfl (hb hby at_91) ?_
        show Steps p.tables e below (T60.setTop (mkF m 92 #[.val (.int p0), .val (.ref b10), .val (.int (p0 &&& (7 : Int32))), .val (.ref (u 1)), .val (.int (0 : Int32))] [(.int (1 : Int32))])) _
        refine XS.goto X60.here hx rfl (pc0 := 92) (pc' := 96) rfl (hb hby at_92) (by decide) (by decide) ?_
        show Steps p.tables e below (T60.setTop (mkF m 96 #[.val (.int p0), .val (.ref b10), .val (.int (p0 &&& (7 : Int32))), .val (.ref (u 1)), .val (.int (0 : Int32))] [(.int (1 : Int32))])) _
        exact retN X60 hx (t := .boolean) Bd.returns (by simp) (hb hby at_96) hr
      · show own_Q0 Z u p0 h0 n0 _ T60.heap _
        rw [e60]
        exact ⟨rfl, N60, trivial⟩
    · --
      by_cases hc62 : (p0 &&& (7 : Int32)) = (2 : Int32)
      · --
        obtain ⟨cl63, Ar63, -, S63, N63, H63, -⟩ := V48
        have hin63 : ¬ ((p0 &&& (7 : Int32)) < 0 ∨ cl63.slots.size ≤ ((p0 &&& (7 : Int32))).toNatClampNeg) := by rw [hc62]; exact inb_of S63 ⟨by decide, by decide⟩
        have pre64 : ∀ t, Steps p.tables e below (T48.setTop (mkF m 83 #[.val (.int p0), .val (.ref b10), .val (.int (p0 &&& (7 : Int32))), .val (.ref (u 2)), .val (.int (0 : Int32))] [(.ref (u 2))])) t → Steps p.tables e below (s₁.setTop (entryFrame m #[(.int p0)] maxLocals)) t := fun t kt => pre51 t (by
          show Steps p.tables e below (T48.setTop (mkF m 63 #[.val (.int p0), .val (.ref b10), .val (.int (p0 &&& (7 : Int32))), .unset, .unset] [(.int (p0 &&& (7 : Int32))), (.ref b10)])) _
          refine X48.aaload hx (j := (p0 &&& (7 : Int32))) (v := (.ref (u 2))) (by rw [e48]; exact Ar63.1) (State.isArrayOf_alike hZ.alike Ar63.2.1) rfl Ar63.2.2 hin63 (H63.at hin63 (by rw [hc62]; rfl)) (g := (mkF m 63 #[.val (.int p0), .val (.ref b10), .val (.int (p0 &&& (7 : Int32))), .unset, .unset] [(.int (p0 &&& (7 : Int32))), (.ref b10)])) rfl rfl (hb hby at_63) _ ?_
          show Steps p.tables e below (T48.setTop (mkF m 64 #[.val (.int p0), .val (.ref b10), .val (.int (p0 &&& (7 : Int32))), .unset, .unset] [(.ref (u 2))])) _
          refine XS.astoreN X48.here hx rfl (hb hby at_64) rfl rfl (l' := #[.val (.int p0), .val (.ref b10), .val (.int (p0 &&& (7 : Int32))), .val (.ref (u 2)), .unset]) rfl ?_
          show Steps p.tables e below (T48.setTop (mkF m 65 #[.val (.int p0), .val (.ref b10), .val (.int (p0 &&& (7 : Int32))), .val (.ref (u 2)), .unset] [])) _
          refine XS.iloadN X48.here hx rfl (hb hby at_65) rfl ?_
          show Steps p.tables e below (T48.setTop (mkF m 66 #[.val (.int p0), .val (.ref b10), .val (.int (p0 &&& (7 : Int32))), .val (.ref (u 2)), .unset] [(.int (p0 &&& (7 : Int32)))])) _
          refine XS.iconst X48.here hx rfl (hb hby at_66) ?_
          show Steps p.tables e below (T48.setTop (mkF m 67 #[.val (.int p0), .val (.ref b10), .val (.int (p0 &&& (7 : Int32))), .val (.ref (u 2)), .unset] [(.int (4 : Int32)), (.int (p0 &&& (7 : Int32)))])) _
          refine XS.icmpNo X48.here hx rfl (hb hby at_67) rfl (feq (fun q => absurd (hc62.symm.trans q) (by decide))).1 ?_
          show Steps p.tables e below (T48.setTop (mkF m 70 #[.val (.int p0), .val (.ref b10), .val (.int (p0 &&& (7 : Int32))), .val (.ref (u 2)), .unset] [])) _
          refine XS.iloadN X48.here hx rfl (hb hby at_70) rfl ?_
          show Steps p.tables e below (T48.setTop (mkF m 71 #[.val (.int p0), .val (.ref b10), .val (.int (p0 &&& (7 : Int32))), .val (.ref (u 2)), .unset] [(.int (p0 &&& (7 : Int32)))])) _
          refine XS.iconst X48.here hx rfl (hb hby at_71) ?_
          show Steps p.tables e below (T48.setTop (mkF m 72 #[.val (.int p0), .val (.ref b10), .val (.int (p0 &&& (7 : Int32))), .val (.ref (u 2)), .unset] [(.int (5 : Int32)), (.int (p0 &&& (7 : Int32)))])) _
          refine XS.icmpYes X48.here hx rfl (pc0 := 72) (pc' := 79) rfl (hb hby at_72) rfl (feq (fun q => absurd (hc62.symm.trans q) (by decide))).2 (by decide) (by decide) ?_
          show Steps p.tables e below (T48.setTop (mkF m 79 #[.val (.int p0), .val (.ref b10), .val (.int (p0 &&& (7 : Int32))), .val (.ref (u 2)), .unset] [])) _
          refine XS.iconst X48.here hx rfl (hb hby at_79) ?_
          show Steps p.tables e below (T48.setTop (mkF m 80 #[.val (.int p0), .val (.ref b10), .val (.int (p0 &&& (7 : Int32))), .val (.ref (u 2)), .unset] [(.int (0 : Int32))])) _
          refine XS.istore X48.here hx rfl (hb hby at_80) rfl (l' := #[.val (.int p0), .val (.ref b10), .val (.int (p0 &&& (7 : Int32))), .val (.ref (u 2)), .val (.int (0 : Int32))]) rfl ?_
          show Steps p.tables e below (T48.setTop (mkF m 82 #[.val (.int p0), .val (.ref b10), .val (.int (p0 &&& (7 : Int32))), .val (.ref (u 2)), .val (.int (0 : Int32))] [])) _
          refine XS.aloadN X48.here hx rfl (hb hby at_82) rfl rfl ?_
          exact kt)
        obtain ⟨cq65, kq65, q65a, q65b, q65c⟩ := isOf hZ e48 (B.2.2.2.2.2.1.ext O48.2)
        obtain ⟨vr65, _, ⟨T65, L65, k65, n65⟩, -, X65, ⟨Lc65, hQ65, l65, y65, z65⟩, st65⟩ := X48.virtualBack hx (y := (⟨"com/example/vetted_ledger/vettedledger/engine/SubscriptionEventType", "changesTerms", "()Z"⟩ : MethodName)) (z := (⟨"com/example/vetted_ledger/vettedledger/engine/SubscriptionEventType", "changesTerms", "()Z"⟩ : MethodName)) hown (mvT hZ (hw _ (List.mem_of_getElem? (i := 20) rfl))) (mvT hZ (hw _ (List.mem_of_getElem? (i := 21) rfl))) (notFace_of_selects (args := #[]) (mvT hZ (hw _ (List.mem_of_getElem? (i := 23) rfl)))) (mvT hZ (hw _ (List.mem_of_getElem? (i := 23) rfl))) (mvT hZ (hw _ (List.mem_of_getElem? (i := 22) rfl))) (by decide) (backOf (W := 0) (rm1 l Z a0 hw [] u (u 2) B h48 n0 O48 ) hZ (hw _ (List.mem_of_getElem? (i := 24) rfl)) (hw _ (List.mem_of_getElem? (i := 3) rfl)) (by decide) (by decide)) q65a q65c (g := (mkF m 83 #[.val (.int p0), .val (.ref b10), .val (.int (p0 &&& (7 : Int32))), .val (.ref (u 2)), .val (.int (0 : Int32))] [(.ref (u 2))])) rfl (by rw [hml]; rfl) (Steps.refl _) (argsL := []) (rest := []) (lenOf own_pd0 rfl) rfl (by show 2 * 0 + _ ≤ _; exact Nat.le_of_eq rfl) (hb hby at_83) (fun _ _ => ⟨rfl, e48, (by decide : 1 + 0 ≤ _), (by decide : 8 + 0 ≤ _)⟩)
        dsimp only [Pt.U, Pt.locs, Pt.cells, Pt.slots] at X65 l65 y65 z65 st65 hQ65
        subst l65 y65 z65
        obtain ⟨hv65, N65q, e65⟩ := hQ65
        have N65 := Fr.app Nf48 N65q
        obtain rfl : vr65 = some (.int (0 : Int32)) := hv65.trans (by unfold own_r1; rw [if_neg ((Fld.ne B.2.2.2.2.2.2.2.2.2.2.2.2.2.2.2.2.2.2.1 B.2.2.2.2.2.2.2.2.2.2.2.2.2.2.2.2.2.2.2.2.1 (by decide)) : ¬ ((u 2) = (u 4))), if_neg ((Fld.ne B.2.2.2.2.2.2.2.2.2.2.2.2.2.2.2.2.2.2.1 B.2.2.2.2.2.2.2.2.2.2.2.2.2.2.2.2.2.2.2.2.2.1 (by decide)) : ¬ ((u 2) = (u 5)))])
        obtain ⟨fs, hr, hrun, hended, hW, hsame⟩ := X65.leave (v := some (.int (1 : Int32))) (fun h => by rw [Bd.returns] at h; cases h)
        refine ⟨_, _, pre64 _ ?_, hrun, hended, _, _, rfl, ?_, ⟨_, rfl⟩, hW, hsame.mono (by decide) (by decide)⟩
        · show Steps p.tables e below (T48.setTop (mkF m 83 #[.val (.int p0), .val (.ref b10), .val (.int (p0 &&& (7 : Int32))), .val (.ref (u 2)), .val (.int (0 : Int32))] [(.ref (u 2))])) _
          refine st65.trans ?_
          show Steps p.tables e below (T65.setTop (mkF m 86 #[.val (.int p0), .val (.ref b10), .val (.int (p0 &&& (7 : Int32))), .val (.ref (u 2)), .val (.int (0 : Int32))] [(.int (0 : Int32))])) _
          refine XS.iload X65.here hx rfl (hb hby at_86) rfl ?_
          show Steps p.tables e below (T65.setTop (mkF m 88 #[.val (.int p0), .val (.ref b10), .val (.int (p0 &&& (7 : Int32))), .val (.ref (u 2)), .val (.int (0 : Int32))] [(.int (0 : Int32)), (.int (0 : Int32))])) _
          refine XS.icmpNo X65.here hx rfl (hb hby at_88) rfl (teq (by decide : (0 : Int32) = (0 : Int32))).2 ?_
          show Steps p.tables e below (T65.setTop (mkF m 91 #[.val (.int p0), .val (.ref b10), .val (.int (p0 &&& (7 : Int32))), .val (.ref (u 2)), .val (.int (0 : Int32))] [])) _
          refine XS.iconst X65.here hx rfl (hb hby at_91) ?_
          show Steps p.tables e below (T65.setTop (mkF m 92 #[.val (.int p0), .val (.ref b10), .val (.int (p0 &&& (7 : Int32))), .val (.ref (u 2)), .val (.int (0 : Int32))] [(.int (1 : Int32))])) _
          refine XS.goto X65.here hx rfl (pc0 := 92) (pc' := 96) rfl (hb hby at_92) (by decide) (by decide) ?_
          show Steps p.tables e below (T65.setTop (mkF m 96 #[.val (.int p0), .val (.ref b10), .val (.int (p0 &&& (7 : Int32))), .val (.ref (u 2)), .val (.int (0 : Int32))] [(.int (1 : Int32))])) _
          exact retN X65 hx (t := .boolean) Bd.returns (by simp) (hb hby at_96) hr
        · show own_Q0 Z u p0 h0 n0 _ T65.heap _
          rw [e65]
          exact ⟨rfl, N65, trivial⟩
      · --
        by_cases hc67 : (p0 &&& (7 : Int32)) = (3 : Int32)
        · --
          obtain ⟨cl68, Ar68, -, S68, N68, H68, -⟩ := V48
          have hin68 : ¬ ((p0 &&& (7 : Int32)) < 0 ∨ cl68.slots.size ≤ ((p0 &&& (7 : Int32))).toNatClampNeg) := by rw [hc67]; exact inb_of S68 ⟨by decide, by decide⟩
          have pre69 : ∀ t, Steps p.tables e below (T48.setTop (mkF m 83 #[.val (.int p0), .val (.ref b10), .val (.int (p0 &&& (7 : Int32))), .val (.ref (u 3)), .val (.int (0 : Int32))] [(.ref (u 3))])) t → Steps p.tables e below (s₁.setTop (entryFrame m #[(.int p0)] maxLocals)) t := fun t kt => pre51 t (by
            show Steps p.tables e below (T48.setTop (mkF m 63 #[.val (.int p0), .val (.ref b10), .val (.int (p0 &&& (7 : Int32))), .unset, .unset] [(.int (p0 &&& (7 : Int32))), (.ref b10)])) _
            refine X48.aaload hx (j := (p0 &&& (7 : Int32))) (v := (.ref (u 3))) (by rw [e48]; exact Ar68.1) (State.isArrayOf_alike hZ.alike Ar68.2.1) rfl Ar68.2.2 hin68 (H68.at hin68 (by rw [hc67]; rfl)) (g := (mkF m 63 #[.val (.int p0), .val (.ref b10), .val (.int (p0 &&& (7 : Int32))), .unset, .unset] [(.int (p0 &&& (7 : Int32))), (.ref b10)])) rfl rfl (hb hby at_63) _ ?_
            show Steps p.tables e below (T48.setTop (mkF m 64 #[.val (.int p0), .val (.ref b10), .val (.int (p0 &&& (7 : Int32))), .unset, .unset] [(.ref (u 3))])) _
            refine XS.astoreN X48.here hx rfl (hb hby at_64) rfl rfl (l' := #[.val (.int p0), .val (.ref b10), .val (.int (p0 &&& (7 : Int32))), .val (.ref (u 3)), .unset]) rfl ?_
            show Steps p.tables e below (T48.setTop (mkF m 65 #[.val (.int p0), .val (.ref b10), .val (.int (p0 &&& (7 : Int32))), .val (.ref (u 3)), .unset] [])) _
            refine XS.iloadN X48.here hx rfl (hb hby at_65) rfl ?_
            show Steps p.tables e below (T48.setTop (mkF m 66 #[.val (.int p0), .val (.ref b10), .val (.int (p0 &&& (7 : Int32))), .val (.ref (u 3)), .unset] [(.int (p0 &&& (7 : Int32)))])) _
            refine XS.iconst X48.here hx rfl (hb hby at_66) ?_
            show Steps p.tables e below (T48.setTop (mkF m 67 #[.val (.int p0), .val (.ref b10), .val (.int (p0 &&& (7 : Int32))), .val (.ref (u 3)), .unset] [(.int (4 : Int32)), (.int (p0 &&& (7 : Int32)))])) _
            refine XS.icmpNo X48.here hx rfl (hb hby at_67) rfl (feq (fun q => absurd (hc67.symm.trans q) (by decide))).1 ?_
            show Steps p.tables e below (T48.setTop (mkF m 70 #[.val (.int p0), .val (.ref b10), .val (.int (p0 &&& (7 : Int32))), .val (.ref (u 3)), .unset] [])) _
            refine XS.iloadN X48.here hx rfl (hb hby at_70) rfl ?_
            show Steps p.tables e below (T48.setTop (mkF m 71 #[.val (.int p0), .val (.ref b10), .val (.int (p0 &&& (7 : Int32))), .val (.ref (u 3)), .unset] [(.int (p0 &&& (7 : Int32)))])) _
            refine XS.iconst X48.here hx rfl (hb hby at_71) ?_
            show Steps p.tables e below (T48.setTop (mkF m 72 #[.val (.int p0), .val (.ref b10), .val (.int (p0 &&& (7 : Int32))), .val (.ref (u 3)), .unset] [(.int (5 : Int32)), (.int (p0 &&& (7 : Int32)))])) _
            refine XS.icmpYes X48.here hx rfl (pc0 := 72) (pc' := 79) rfl (hb hby at_72) rfl (feq (fun q => absurd (hc67.symm.trans q) (by decide))).2 (by decide) (by decide) ?_
            show Steps p.tables e below (T48.setTop (mkF m 79 #[.val (.int p0), .val (.ref b10), .val (.int (p0 &&& (7 : Int32))), .val (.ref (u 3)), .unset] [])) _
            refine XS.iconst X48.here hx rfl (hb hby at_79) ?_
            show Steps p.tables e below (T48.setTop (mkF m 80 #[.val (.int p0), .val (.ref b10), .val (.int (p0 &&& (7 : Int32))), .val (.ref (u 3)), .unset] [(.int (0 : Int32))])) _
            refine XS.istore X48.here hx rfl (hb hby at_80) rfl (l' := #[.val (.int p0), .val (.ref b10), .val (.int (p0 &&& (7 : Int32))), .val (.ref (u 3)), .val (.int (0 : Int32))]) rfl ?_
            show Steps p.tables e below (T48.setTop (mkF m 82 #[.val (.int p0), .val (.ref b10), .val (.int (p0 &&& (7 : Int32))), .val (.ref (u 3)), .val (.int (0 : Int32))] [])) _
            refine XS.aloadN X48.here hx rfl (hb hby at_82) rfl rfl ?_
            exact kt)
          obtain ⟨cq70, kq70, q70a, q70b, q70c⟩ := isOf hZ e48 (B.2.2.2.2.2.2.2.1.ext O48.2)
          obtain ⟨vr70, _, ⟨T70, L70, k70, n70⟩, -, X70, ⟨Lc70, hQ70, l70, y70, z70⟩, st70⟩ := X48.virtualBack hx (y := (⟨"com/example/vetted_ledger/vettedledger/engine/SubscriptionEventType", "changesTerms", "()Z"⟩ : MethodName)) (z := (⟨"com/example/vetted_ledger/vettedledger/engine/SubscriptionEventType", "changesTerms", "()Z"⟩ : MethodName)) hown (mvT hZ (hw _ (List.mem_of_getElem? (i := 20) rfl))) (mvT hZ (hw _ (List.mem_of_getElem? (i := 21) rfl))) (notFace_of_selects (args := #[]) (mvT hZ (hw _ (List.mem_of_getElem? (i := 23) rfl)))) (mvT hZ (hw _ (List.mem_of_getElem? (i := 23) rfl))) (mvT hZ (hw _ (List.mem_of_getElem? (i := 22) rfl))) (by decide) (backOf (W := 0) (rm1 l Z a0 hw [] u (u 3) B h48 n0 O48 ) hZ (hw _ (List.mem_of_getElem? (i := 24) rfl)) (hw _ (List.mem_of_getElem? (i := 3) rfl)) (by decide) (by decide)) q70a q70c (g := (mkF m 83 #[.val (.int p0), .val (.ref b10), .val (.int (p0 &&& (7 : Int32))), .val (.ref (u 3)), .val (.int (0 : Int32))] [(.ref (u 3))])) rfl (by rw [hml]; rfl) (Steps.refl _) (argsL := []) (rest := []) (lenOf own_pd0 rfl) rfl (by show 2 * 0 + _ ≤ _; exact Nat.le_of_eq rfl) (hb hby at_83) (fun _ _ => ⟨rfl, e48, (by decide : 1 + 0 ≤ _), (by decide : 8 + 0 ≤ _)⟩)
          dsimp only [Pt.U, Pt.locs, Pt.cells, Pt.slots] at X70 l70 y70 z70 st70 hQ70
          subst l70 y70 z70
          obtain ⟨hv70, N70q, e70⟩ := hQ70
          have N70 := Fr.app Nf48 N70q
          obtain rfl : vr70 = some (.int (0 : Int32)) := hv70.trans (by unfold own_r1; rw [if_neg ((Fld.ne B.2.2.2.2.2.2.2.2.2.2.2.2.2.2.2.2.2.2.2.1 B.2.2.2.2.2.2.2.2.2.2.2.2.2.2.2.2.2.2.2.2.1 (by decide)) : ¬ ((u 3) = (u 4))), if_neg ((Fld.ne B.2.2.2.2.2.2.2.2.2.2.2.2.2.2.2.2.2.2.2.1 B.2.2.2.2.2.2.2.2.2.2.2.2.2.2.2.2.2.2.2.2.2.1 (by decide)) : ¬ ((u 3) = (u 5)))])
          obtain ⟨fs, hr, hrun, hended, hW, hsame⟩ := X70.leave (v := some (.int (1 : Int32))) (fun h => by rw [Bd.returns] at h; cases h)
          refine ⟨_, _, pre69 _ ?_, hrun, hended, _, _, rfl, ?_, ⟨_, rfl⟩, hW, hsame.mono (by decide) (by decide)⟩
          · show Steps p.tables e below (T48.setTop (mkF m 83 #[.val (.int p0), .val (.ref b10), .val (.int (p0 &&& (7 : Int32))), .val (.ref (u 3)), .val (.int (0 : Int32))] [(.ref (u 3))])) _
            refine st70.trans ?_
            show Steps p.tables e below (T70.setTop (mkF m 86 #[.val (.int p0), .val (.ref b10), .val (.int (p0 &&& (7 : Int32))), .val (.ref (u 3)), .val (.int (0 : Int32))] [(.int (0 : Int32))])) _
            refine XS.iload X70.here hx rfl (hb hby at_86) rfl ?_
            show Steps p.tables e below (T70.setTop (mkF m 88 #[.val (.int p0), .val (.ref b10), .val (.int (p0 &&& (7 : Int32))), .val (.ref (u 3)), .val (.int (0 : Int32))] [(.int (0 : Int32)), (.int (0 : Int32))])) _
            refine XS.icmpNo X70.here hx rfl (hb hby at_88) rfl (teq (by decide : (0 : Int32) = (0 : Int32))).2 ?_
            show Steps p.tables e below (T70.setTop (mkF m 91 #[.val (.int p0), .val (.ref b10), .val (.int (p0 &&& (7 : Int32))), .val (.ref (u 3)), .val (.int (0 : Int32))] [])) _
            refine XS.iconst X70.here hx rfl (hb hby at_91) ?_
            show Steps p.tables e below (T70.setTop (mkF m 92 #[.val (.int p0), .val (.ref b10), .val (.int (p0 &&& (7 : Int32))), .val (.ref (u 3)), .val (.int (0 : Int32))] [(.int (1 : Int32))])) _
            refine XS.goto X70.here hx rfl (pc0 := 92) (pc' := 96) rfl (hb hby at_92) (by decide) (by decide) ?_
            show Steps p.tables e below (T70.setTop (mkF m 96 #[.val (.int p0), .val (.ref b10), .val (.int (p0 &&& (7 : Int32))), .val (.ref (u 3)), .val (.int (0 : Int32))] [(.int (1 : Int32))])) _
            exact retN X70 hx (t := .boolean) Bd.returns (by simp) (hb hby at_96) hr
          · show own_Q0 Z u p0 h0 n0 _ T70.heap _
            rw [e70]
            exact ⟨rfl, N70, trivial⟩
        · --
          by_cases hc72 : (p0 &&& (7 : Int32)) = (4 : Int32)
          · --
            obtain ⟨cl73, Ar73, -, S73, N73, H73, -⟩ := V48
            have hin73 : ¬ ((p0 &&& (7 : Int32)) < 0 ∨ cl73.slots.size ≤ ((p0 &&& (7 : Int32))).toNatClampNeg) := by rw [hc72]; exact inb_of S73 ⟨by decide, by decide⟩
            have pre74 : ∀ t, Steps p.tables e below (T48.setTop (mkF m 83 #[.val (.int p0), .val (.ref b10), .val (.int (p0 &&& (7 : Int32))), .val (.ref (u 4)), .val (.int (1 : Int32))] [(.ref (u 4))])) t → Steps p.tables e below (s₁.setTop (entryFrame m #[(.int p0)] maxLocals)) t := fun t kt => pre51 t (by
              show Steps p.tables e below (T48.setTop (mkF m 63 #[.val (.int p0), .val (.ref b10), .val (.int (p0 &&& (7 : Int32))), .unset, .unset] [(.int (p0 &&& (7 : Int32))), (.ref b10)])) _
              refine X48.aaload hx (j := (p0 &&& (7 : Int32))) (v := (.ref (u 4))) (by rw [e48]; exact Ar73.1) (State.isArrayOf_alike hZ.alike Ar73.2.1) rfl Ar73.2.2 hin73 (H73.at hin73 (by rw [hc72]; rfl)) (g := (mkF m 63 #[.val (.int p0), .val (.ref b10), .val (.int (p0 &&& (7 : Int32))), .unset, .unset] [(.int (p0 &&& (7 : Int32))), (.ref b10)])) rfl rfl (hb hby at_63) _ ?_
              show Steps p.tables e below (T48.setTop (mkF m 64 #[.val (.int p0), .val (.ref b10), .val (.int (p0 &&& (7 : Int32))), .unset, .unset] [(.ref (u 4))])) _
              refine XS.astoreN X48.here hx rfl (hb hby at_64) rfl rfl (l' := #[.val (.int p0), .val (.ref b10), .val (.int (p0 &&& (7 : Int32))), .val (.ref (u 4)), .unset]) rfl ?_
              show Steps p.tables e below (T48.setTop (mkF m 65 #[.val (.int p0), .val (.ref b10), .val (.int (p0 &&& (7 : Int32))), .val (.ref (u 4)), .unset] [])) _
              refine XS.iloadN X48.here hx rfl (hb hby at_65) rfl ?_
              show Steps p.tables e below (T48.setTop (mkF m 66 #[.val (.int p0), .val (.ref b10), .val (.int (p0 &&& (7 : Int32))), .val (.ref (u 4)), .unset] [(.int (p0 &&& (7 : Int32)))])) _
              refine XS.iconst X48.here hx rfl (hb hby at_66) ?_
              show Steps p.tables e below (T48.setTop (mkF m 67 #[.val (.int p0), .val (.ref b10), .val (.int (p0 &&& (7 : Int32))), .val (.ref (u 4)), .unset] [(.int (4 : Int32)), (.int (p0 &&& (7 : Int32)))])) _
              refine XS.icmpYes X48.here hx rfl (pc0 := 67) (pc' := 75) rfl (hb hby at_67) rfl (teq hc72).1 (by decide) (by decide) ?_
              show Steps p.tables e below (T48.setTop (mkF m 75 #[.val (.int p0), .val (.ref b10), .val (.int (p0 &&& (7 : Int32))), .val (.ref (u 4)), .unset] [])) _
              refine XS.iconst X48.here hx rfl (hb hby at_75) ?_
              show Steps p.tables e below (T48.setTop (mkF m 76 #[.val (.int p0), .val (.ref b10), .val (.int (p0 &&& (7 : Int32))), .val (.ref (u 4)), .unset] [(.int (1 : Int32))])) _
              refine XS.goto X48.here hx rfl (pc0 := 76) (pc' := 80) rfl (hb hby at_76) (by decide) (by decide) ?_
              show Steps p.tables e below (T48.setTop (mkF m 80 #[.val (.int p0), .val (.ref b10), .val (.int (p0 &&& (7 : Int32))), .val (.ref (u 4)), .unset] [(.int (1 : Int32))])) _
              refine XS.istore X48.here hx rfl (hb hby at_80) rfl (l' := #[.val (.int p0), .val (.ref b10), .val (.int (p0 &&& (7 : Int32))), .val (.ref (u 4)), .val (.int (1 : Int32))]) rfl ?_
              show Steps p.tables e below (T48.setTop (mkF m 82 #[.val (.int p0), .val (.ref b10), .val (.int (p0 &&& (7 : Int32))), .val (.ref (u 4)), .val (.int (1 : Int32))] [])) _
              refine XS.aloadN X48.here hx rfl (hb hby at_82) rfl rfl ?_
              exact kt)
            obtain ⟨cq75, kq75, q75a, q75b, q75c⟩ := isOf hZ e48 (B.2.2.2.2.2.2.2.2.2.1.ext O48.2)
            obtain ⟨vr75, _, ⟨T75, L75, k75, n75⟩, -, X75, ⟨Lc75, hQ75, l75, y75, z75⟩, st75⟩ := X48.virtualBack hx (y := (⟨"com/example/vetted_ledger/vettedledger/engine/SubscriptionEventType", "changesTerms", "()Z"⟩ : MethodName)) (z := (⟨"com/example/vetted_ledger/vettedledger/engine/SubscriptionEventType", "changesTerms", "()Z"⟩ : MethodName)) hown (mvT hZ (hw _ (List.mem_of_getElem? (i := 20) rfl))) (mvT hZ (hw _ (List.mem_of_getElem? (i := 21) rfl))) (notFace_of_selects (args := #[]) (mvT hZ (hw _ (List.mem_of_getElem? (i := 23) rfl)))) (mvT hZ (hw _ (List.mem_of_getElem? (i := 23) rfl))) (mvT hZ (hw _ (List.mem_of_getElem? (i := 22) rfl))) (by decide) (backOf (W := 0) (rm1 l Z a0 hw [] u (u 4) B h48 n0 O48 ) hZ (hw _ (List.mem_of_getElem? (i := 24) rfl)) (hw _ (List.mem_of_getElem? (i := 3) rfl)) (by decide) (by decide)) q75a q75c (g := (mkF m 83 #[.val (.int p0), .val (.ref b10), .val (.int (p0 &&& (7 : Int32))), .val (.ref (u 4)), .val (.int (1 : Int32))] [(.ref (u 4))])) rfl (by rw [hml]; rfl) (Steps.refl _) (argsL := []) (rest := []) (lenOf own_pd0 rfl) rfl (by show 2 * 0 + _ ≤ _; exact Nat.le_of_eq rfl) (hb hby at_83) (fun _ _ => ⟨rfl, e48, (by decide : 1 + 0 ≤ _), (by decide : 8 + 0 ≤ _)⟩)
            dsimp only [Pt.U, Pt.locs, Pt.cells, Pt.slots] at X75 l75 y75 z75 st75 hQ75
            subst l75 y75 z75
            obtain ⟨hv75, N75q, e75⟩ := hQ75
            have N75 := Fr.app Nf48 N75q
            obtain rfl : vr75 = some (.int (1 : Int32)) := hv75.trans (by unfold own_r1; rw [if_pos (rfl : (u 4) = (u 4))])
            obtain ⟨fs, hr, hrun, hended, hW, hsame⟩ := X75.leave (v := some (.int (1 : Int32))) (fun h => by rw [Bd.returns] at h; cases h)
            refine ⟨_, _, pre74 _ ?_, hrun, hended, _, _, rfl, ?_, ⟨_, rfl⟩, hW, hsame.mono (by decide) (by decide)⟩
            · show Steps p.tables e below (T48.setTop (mkF m 83 #[.val (.int p0), .val (.ref b10), .val (.int (p0 &&& (7 : Int32))), .val (.ref (u 4)), .val (.int (1 : Int32))] [(.ref (u 4))])) _
              refine st75.trans ?_
              show Steps p.tables e below (T75.setTop (mkF m 86 #[.val (.int p0), .val (.ref b10), .val (.int (p0 &&& (7 : Int32))), .val (.ref (u 4)), .val (.int (1 : Int32))] [(.int (1 : Int32))])) _
              refine XS.iload X75.here hx rfl (hb hby at_86) rfl ?_
              show Steps p.tables e below (T75.setTop (mkF m 88 #[.val (.int p0), .val (.ref b10), .val (.int (p0 &&& (7 : Int32))), .val (.ref (u 4)), .val (.int (1 : Int32))] [(.int (1 : Int32)), (.int (1 : Int32))])) _
              refine XS.icmpNo X75.here hx rfl (hb hby at_88) rfl (teq (by decide : (1 : Int32) = (1 : Int32))).2 ?_
              show Steps p.tables e below (T75.setTop (mkF m 91 #[.val (.int p0), .val (.ref b10), .val (.int (p0 &&& (7 : Int32))), .val (.ref (u 4)), .val (.int (1 : Int32))] [])) _
              refine XS.iconst X75.here hx rfl (hb hby at_91) ?_
              show Steps p.tables e below (T75.setTop (mkF m 92 #[.val (.int p0), .val (.ref b10), .val (.int (p0 &&& (7 : Int32))), .val (.ref (u 4)), .val (.int (1 : Int32))] [(.int (1 : Int32))])) _
              refine XS.goto X75.here hx rfl (pc0 := 92) (pc' := 96) rfl (hb hby at_92) (by decide) (by decide) ?_
              show Steps p.tables e below (T75.setTop (mkF m 96 #[.val (.int p0), .val (.ref b10), .val (.int (p0 &&& (7 : Int32))), .val (.ref (u 4)), .val (.int (1 : Int32))] [(.int (1 : Int32))])) _
              exact retN X75 hx (t := .boolean) Bd.returns (by simp) (hb hby at_96) hr
            · show own_Q0 Z u p0 h0 n0 _ T75.heap _
              rw [e75]
              exact ⟨rfl, N75, trivial⟩
          · --
            by_cases hc77 : (p0 &&& (7 : Int32)) = (5 : Int32)
            · --
              obtain ⟨cl78, Ar78, -, S78, N78, H78, -⟩ := V48
              have hin78 : ¬ ((p0 &&& (7 : Int32)) < 0 ∨ cl78.slots.size ≤ ((p0 &&& (7 : Int32))).toNatClampNeg) := by rw [hc77]; exact inb_of S78 ⟨by decide, by decide⟩
              have pre79 : ∀ t, Steps p.tables e below (T48.setTop (mkF m 83 #[.val (.int p0), .val (.ref b10), .val (.int (p0 &&& (7 : Int32))), .val (.ref (u 5)), .val (.int (1 : Int32))] [(.ref (u 5))])) t → Steps p.tables e below (s₁.setTop (entryFrame m #[(.int p0)] maxLocals)) t := fun t kt => pre51 t (by
                show Steps p.tables e below (T48.setTop (mkF m 63 #[.val (.int p0), .val (.ref b10), .val (.int (p0 &&& (7 : Int32))), .unset, .unset] [(.int (p0 &&& (7 : Int32))), (.ref b10)])) _
                refine X48.aaload hx (j := (p0 &&& (7 : Int32))) (v := (.ref (u 5))) (by rw [e48]; exact Ar78.1) (State.isArrayOf_alike hZ.alike Ar78.2.1) rfl Ar78.2.2 hin78 (H78.at hin78 (by rw [hc77]; rfl)) (g := (mkF m 63 #[.val (.int p0), .val (.ref b10), .val (.int (p0 &&& (7 : Int32))), .unset, .unset] [(.int (p0 &&& (7 : Int32))), (.ref b10)])) rfl rfl (hb hby at_63) _ ?_
                show Steps p.tables e below (T48.setTop (mkF m 64 #[.val (.int p0), .val (.ref b10), .val (.int (p0 &&& (7 : Int32))), .unset, .unset] [(.ref (u 5))])) _
                refine XS.astoreN X48.here hx rfl (hb hby at_64) rfl rfl (l' := #[.val (.int p0), .val (.ref b10), .val (.int (p0 &&& (7 : Int32))), .val (.ref (u 5)), .unset]) rfl ?_
                show Steps p.tables e below (T48.setTop (mkF m 65 #[.val (.int p0), .val (.ref b10), .val (.int (p0 &&& (7 : Int32))), .val (.ref (u 5)), .unset] [])) _
                refine XS.iloadN X48.here hx rfl (hb hby at_65) rfl ?_
                show Steps p.tables e below (T48.setTop (mkF m 66 #[.val (.int p0), .val (.ref b10), .val (.int (p0 &&& (7 : Int32))), .val (.ref (u 5)), .unset] [(.int (p0 &&& (7 : Int32)))])) _
                refine XS.iconst X48.here hx rfl (hb hby at_66) ?_
                show Steps p.tables e below (T48.setTop (mkF m 67 #[.val (.int p0), .val (.ref b10), .val (.int (p0 &&& (7 : Int32))), .val (.ref (u 5)), .unset] [(.int (4 : Int32)), (.int (p0 &&& (7 : Int32)))])) _
                refine XS.icmpNo X48.here hx rfl (hb hby at_67) rfl (feq hc72).1 ?_
                show Steps p.tables e below (T48.setTop (mkF m 70 #[.val (.int p0), .val (.ref b10), .val (.int (p0 &&& (7 : Int32))), .val (.ref (u 5)), .unset] [])) _
                refine XS.iloadN X48.here hx rfl (hb hby at_70) rfl ?_
                show Steps p.tables e below (T48.setTop (mkF m 71 #[.val (.int p0), .val (.ref b10), .val (.int (p0 &&& (7 : Int32))), .val (.ref (u 5)), .unset] [(.int (p0 &&& (7 : Int32)))])) _
                refine XS.iconst X48.here hx rfl (hb hby at_71) ?_
                show Steps p.tables e below (T48.setTop (mkF m 72 #[.val (.int p0), .val (.ref b10), .val (.int (p0 &&& (7 : Int32))), .val (.ref (u 5)), .unset] [(.int (5 : Int32)), (.int (p0 &&& (7 : Int32)))])) _
                refine XS.icmpNo X48.here hx rfl (hb hby at_72) rfl (teq hc77).2 ?_
                show Steps p.tables e below (T48.setTop (mkF m 75 #[.val (.int p0), .val (.ref b10), .val (.int (p0 &&& (7 : Int32))), .val (.ref (u 5)), .unset] [])) _
                refine XS.iconst X48.here hx rfl (hb hby at_75) ?_
                show Steps p.tables e below (T48.setTop (mkF m 76 #[.val (.int p0), .val (.ref b10), .val (.int (p0 &&& (7 : Int32))), .val (.ref (u 5)), .unset] [(.int (1 : Int32))])) _
                refine XS.goto X48.here hx rfl (pc0 := 76) (pc' := 80) rfl (hb hby at_76) (by decide) (by decide) ?_
                show Steps p.tables e below (T48.setTop (mkF m 80 #[.val (.int p0), .val (.ref b10), .val (.int (p0 &&& (7 : Int32))), .val (.ref (u 5)), .unset] [(.int (1 : Int32))])) _
                refine XS.istore X48.here hx rfl (hb hby at_80) rfl (l' := #[.val (.int p0), .val (.ref b10), .val (.int (p0 &&& (7 : Int32))), .val (.ref (u 5)), .val (.int (1 : Int32))]) rfl ?_
                show Steps p.tables e below (T48.setTop (mkF m 82 #[.val (.int p0), .val (.ref b10), .val (.int (p0 &&& (7 : Int32))), .val (.ref (u 5)), .val (.int (1 : Int32))] [])) _
                refine XS.aloadN X48.here hx rfl (hb hby at_82) rfl rfl ?_
                exact kt)
              obtain ⟨cq80, kq80, q80a, q80b, q80c⟩ := isOf hZ e48 (B.2.2.2.2.2.2.2.2.2.2.2.1.ext O48.2)
              obtain ⟨vr80, _, ⟨T80, L80, k80, n80⟩, -, X80, ⟨Lc80, hQ80, l80, y80, z80⟩, st80⟩ := X48.virtualBack hx (y := (⟨"com/example/vetted_ledger/vettedledger/engine/SubscriptionEventType", "changesTerms", "()Z"⟩ : MethodName)) (z := (⟨"com/example/vetted_ledger/vettedledger/engine/SubscriptionEventType", "changesTerms", "()Z"⟩ : MethodName)) hown (mvT hZ (hw _ (List.mem_of_getElem? (i := 20) rfl))) (mvT hZ (hw _ (List.mem_of_getElem? (i := 21) rfl))) (notFace_of_selects (args := #[]) (mvT hZ (hw _ (List.mem_of_getElem? (i := 23) rfl)))) (mvT hZ (hw _ (List.mem_of_getElem? (i := 23) rfl))) (mvT hZ (hw _ (List.mem_of_getElem? (i := 22) rfl))) (by decide) (backOf (W := 0) (rm1 l Z a0 hw [] u (u 5) B h48 n0 O48 ) hZ (hw _ (List.mem_of_getElem? (i := 24) rfl)) (hw _ (List.mem_of_getElem? (i := 3) rfl)) (by decide) (by decide)) q80a q80c (g := (mkF m 83 #[.val (.int p0), .val (.ref b10), .val (.int (p0 &&& (7 : Int32))), .val (.ref (u 5)), .val (.int (1 : Int32))] [(.ref (u 5))])) rfl (by rw [hml]; rfl) (Steps.refl _) (argsL := []) (rest := []) (lenOf own_pd0 rfl) rfl (by show 2 * 0 + _ ≤ _; exact Nat.le_of_eq rfl) (hb hby at_83) (fun _ _ => ⟨rfl, e48, (by decide : 1 + 0 ≤ _), (by decide : 8 + 0 ≤ _)⟩)
              dsimp only [Pt.U, Pt.locs, Pt.cells, Pt.slots] at X80 l80 y80 z80 st80 hQ80
              subst l80 y80 z80
              obtain ⟨hv80, N80q, e80⟩ := hQ80
              have N80 := Fr.app Nf48 N80q
              obtain rfl : vr80 = some (.int (1 : Int32)) := hv80.trans (by unfold own_r1; rw [if_neg ((Fld.ne B.2.2.2.2.2.2.2.2.2.2.2.2.2.2.2.2.2.2.2.2.2.1 B.2.2.2.2.2.2.2.2.2.2.2.2.2.2.2.2.2.2.2.2.1 (by decide)) : ¬ ((u 5) = (u 4))), if_pos (rfl : (u 5) = (u 5))])
              obtain ⟨fs, hr, hrun, hended, hW, hsame⟩ := X80.leave (v := some (.int (1 : Int32))) (fun h => by rw [Bd.returns] at h; cases h)
              refine ⟨_, _, pre79 _ ?_, hrun, hended, _, _, rfl, ?_, ⟨_, rfl⟩, hW, hsame.mono (by decide) (by decide)⟩
              · show Steps p.tables e below (T48.setTop (mkF m 83 #[.val (.int p0), .val (.ref b10), .val (.int (p0 &&& (7 : Int32))), .val (.ref (u 5)), .val (.int (1 : Int32))] [(.ref (u 5))])) _
                refine st80.trans ?_
                show Steps p.tables e below (T80.setTop (mkF m 86 #[.val (.int p0), .val (.ref b10), .val (.int (p0 &&& (7 : Int32))), .val (.ref (u 5)), .val (.int (1 : Int32))] [(.int (1 : Int32))])) _
                refine XS.iload X80.here hx rfl (hb hby at_86) rfl ?_
                show Steps p.tables e below (T80.setTop (mkF m 88 #[.val (.int p0), .val (.ref b10), .val (.int (p0 &&& (7 : Int32))), .val (.ref (u 5)), .val (.int (1 : Int32))] [(.int (1 : Int32)), (.int (1 : Int32))])) _
                refine XS.icmpNo X80.here hx rfl (hb hby at_88) rfl (teq (by decide : (1 : Int32) = (1 : Int32))).2 ?_
                show Steps p.tables e below (T80.setTop (mkF m 91 #[.val (.int p0), .val (.ref b10), .val (.int (p0 &&& (7 : Int32))), .val (.ref (u 5)), .val (.int (1 : Int32))] [])) _
                refine XS.iconst X80.here hx rfl (hb hby at_91) ?_
                show Steps p.tables e below (T80.setTop (mkF m 92 #[.val (.int p0), .val (.ref b10), .val (.int (p0 &&& (7 : Int32))), .val (.ref (u 5)), .val (.int (1 : Int32))] [(.int (1 : Int32))])) _
                refine XS.goto X80.here hx rfl (pc0 := 92) (pc' := 96) rfl (hb hby at_92) (by decide) (by decide) ?_
                show Steps p.tables e below (T80.setTop (mkF m 96 #[.val (.int p0), .val (.ref b10), .val (.int (p0 &&& (7 : Int32))), .val (.ref (u 5)), .val (.int (1 : Int32))] [(.int (1 : Int32))])) _
                exact retN X80 hx (t := .boolean) Bd.returns (by simp) (hb hby at_96) hr
              · show own_Q0 Z u p0 h0 n0 _ T80.heap _
                rw [e80]
                exact ⟨rfl, N80, trivial⟩
            · --
              by_cases hc82 : (p0 &&& (7 : Int32)) = (6 : Int32)
              · --
                obtain ⟨cl83, Ar83, -, S83, N83, H83, -⟩ := V48
                have hin83 : ¬ ((p0 &&& (7 : Int32)) < 0 ∨ cl83.slots.size ≤ ((p0 &&& (7 : Int32))).toNatClampNeg) := by rw [hc82]; exact inb_of S83 ⟨by decide, by decide⟩
                have pre84 : ∀ t, Steps p.tables e below (T48.setTop (mkF m 83 #[.val (.int p0), .val (.ref b10), .val (.int (p0 &&& (7 : Int32))), .val (.ref (u 6)), .val (.int (0 : Int32))] [(.ref (u 6))])) t → Steps p.tables e below (s₁.setTop (entryFrame m #[(.int p0)] maxLocals)) t := fun t kt => pre51 t (by
                  show Steps p.tables e below (T48.setTop (mkF m 63 #[.val (.int p0), .val (.ref b10), .val (.int (p0 &&& (7 : Int32))), .unset, .unset] [(.int (p0 &&& (7 : Int32))), (.ref b10)])) _
                  refine X48.aaload hx (j := (p0 &&& (7 : Int32))) (v := (.ref (u 6))) (by rw [e48]; exact Ar83.1) (State.isArrayOf_alike hZ.alike Ar83.2.1) rfl Ar83.2.2 hin83 (H83.at hin83 (by rw [hc82]; rfl)) (g := (mkF m 63 #[.val (.int p0), .val (.ref b10), .val (.int (p0 &&& (7 : Int32))), .unset, .unset] [(.int (p0 &&& (7 : Int32))), (.ref b10)])) rfl rfl (hb hby at_63) _ ?_
                  show Steps p.tables e below (T48.setTop (mkF m 64 #[.val (.int p0), .val (.ref b10), .val (.int (p0 &&& (7 : Int32))), .unset, .unset] [(.ref (u 6))])) _
                  refine XS.astoreN X48.here hx rfl (hb hby at_64) rfl rfl (l' := #[.val (.int p0), .val (.ref b10), .val (.int (p0 &&& (7 : Int32))), .val (.ref (u 6)), .unset]) rfl ?_
                  show Steps p.tables e below (T48.setTop (mkF m 65 #[.val (.int p0), .val (.ref b10), .val (.int (p0 &&& (7 : Int32))), .val (.ref (u 6)), .unset] [])) _
                  refine XS.iloadN X48.here hx rfl (hb hby at_65) rfl ?_
                  show Steps p.tables e below (T48.setTop (mkF m 66 #[.val (.int p0), .val (.ref b10), .val (.int (p0 &&& (7 : Int32))), .val (.ref (u 6)), .unset] [(.int (p0 &&& (7 : Int32)))])) _
                  refine XS.iconst X48.here hx rfl (hb hby at_66) ?_
                  show Steps p.tables e below (T48.setTop (mkF m 67 #[.val (.int p0), .val (.ref b10), .val (.int (p0 &&& (7 : Int32))), .val (.ref (u 6)), .unset] [(.int (4 : Int32)), (.int (p0 &&& (7 : Int32)))])) _
                  refine XS.icmpNo X48.here hx rfl (hb hby at_67) rfl (feq hc72).1 ?_
                  show Steps p.tables e below (T48.setTop (mkF m 70 #[.val (.int p0), .val (.ref b10), .val (.int (p0 &&& (7 : Int32))), .val (.ref (u 6)), .unset] [])) _
                  refine XS.iloadN X48.here hx rfl (hb hby at_70) rfl ?_
                  show Steps p.tables e below (T48.setTop (mkF m 71 #[.val (.int p0), .val (.ref b10), .val (.int (p0 &&& (7 : Int32))), .val (.ref (u 6)), .unset] [(.int (p0 &&& (7 : Int32)))])) _
                  refine XS.iconst X48.here hx rfl (hb hby at_71) ?_
                  show Steps p.tables e below (T48.setTop (mkF m 72 #[.val (.int p0), .val (.ref b10), .val (.int (p0 &&& (7 : Int32))), .val (.ref (u 6)), .unset] [(.int (5 : Int32)), (.int (p0 &&& (7 : Int32)))])) _
                  refine XS.icmpYes X48.here hx rfl (pc0 := 72) (pc' := 79) rfl (hb hby at_72) rfl (feq hc77).2 (by decide) (by decide) ?_
                  show Steps p.tables e below (T48.setTop (mkF m 79 #[.val (.int p0), .val (.ref b10), .val (.int (p0 &&& (7 : Int32))), .val (.ref (u 6)), .unset] [])) _
                  refine XS.iconst X48.here hx rfl (hb hby at_79) ?_
                  show Steps p.tables e below (T48.setTop (mkF m 80 #[.val (.int p0), .val (.ref b10), .val (.int (p0 &&& (7 : Int32))), .val (.ref (u 6)), .unset] [(.int (0 : Int32))])) _
                  refine XS.istore X48.here hx rfl (hb hby at_80) rfl (l' := #[.val (.int p0), .val (.ref b10), .val (.int (p0 &&& (7 : Int32))), .val (.ref (u 6)), .val (.int (0 : Int32))]) rfl ?_
                  show Steps p.tables e below (T48.setTop (mkF m 82 #[.val (.int p0), .val (.ref b10), .val (.int (p0 &&& (7 : Int32))), .val (.ref (u 6)), .val (.int (0 : Int32))] [])) _
                  refine XS.aloadN X48.here hx rfl (hb hby at_82) rfl rfl ?_
                  exact kt)
                obtain ⟨cq85, kq85, q85a, q85b, q85c⟩ := isOf hZ e48 (B.2.2.2.2.2.2.2.2.2.2.2.2.2.1.ext O48.2)
                obtain ⟨vr85, _, ⟨T85, L85, k85, n85⟩, -, X85, ⟨Lc85, hQ85, l85, y85, z85⟩, st85⟩ := X48.virtualBack hx (y := (⟨"com/example/vetted_ledger/vettedledger/engine/SubscriptionEventType", "changesTerms", "()Z"⟩ : MethodName)) (z := (⟨"com/example/vetted_ledger/vettedledger/engine/SubscriptionEventType", "changesTerms", "()Z"⟩ : MethodName)) hown (mvT hZ (hw _ (List.mem_of_getElem? (i := 20) rfl))) (mvT hZ (hw _ (List.mem_of_getElem? (i := 21) rfl))) (notFace_of_selects (args := #[]) (mvT hZ (hw _ (List.mem_of_getElem? (i := 23) rfl)))) (mvT hZ (hw _ (List.mem_of_getElem? (i := 23) rfl))) (mvT hZ (hw _ (List.mem_of_getElem? (i := 22) rfl))) (by decide) (backOf (W := 0) (rm1 l Z a0 hw [] u (u 6) B h48 n0 O48 ) hZ (hw _ (List.mem_of_getElem? (i := 24) rfl)) (hw _ (List.mem_of_getElem? (i := 3) rfl)) (by decide) (by decide)) q85a q85c (g := (mkF m 83 #[.val (.int p0), .val (.ref b10), .val (.int (p0 &&& (7 : Int32))), .val (.ref (u 6)), .val (.int (0 : Int32))] [(.ref (u 6))])) rfl (by rw [hml]; rfl) (Steps.refl _) (argsL := []) (rest := []) (lenOf own_pd0 rfl) rfl (by show 2 * 0 + _ ≤ _; exact Nat.le_of_eq rfl) (hb hby at_83) (fun _ _ => ⟨rfl, e48, (by decide : 1 + 0 ≤ _), (by decide : 8 + 0 ≤ _)⟩)
                dsimp only [Pt.U, Pt.locs, Pt.cells, Pt.slots] at X85 l85 y85 z85 st85 hQ85
                subst l85 y85 z85
                obtain ⟨hv85, N85q, e85⟩ := hQ85
                have N85 := Fr.app Nf48 N85q
                obtain rfl : vr85 = some (.int (0 : Int32)) := hv85.trans (by unfold own_r1; rw [if_neg ((Fld.ne B.2.2.2.2.2.2.2.2.2.2.2.2.2.2.2.2.2.2.2.2.2.2.1 B.2.2.2.2.2.2.2.2.2.2.2.2.2.2.2.2.2.2.2.2.1 (by decide)) : ¬ ((u 6) = (u 4))), if_neg ((Fld.ne B.2.2.2.2.2.2.2.2.2.2.2.2.2.2.2.2.2.2.2.2.2.2.1 B.2.2.2.2.2.2.2.2.2.2.2.2.2.2.2.2.2.2.2.2.2.1 (by decide)) : ¬ ((u 6) = (u 5)))])
                obtain ⟨fs, hr, hrun, hended, hW, hsame⟩ := X85.leave (v := some (.int (1 : Int32))) (fun h => by rw [Bd.returns] at h; cases h)
                refine ⟨_, _, pre84 _ ?_, hrun, hended, _, _, rfl, ?_, ⟨_, rfl⟩, hW, hsame.mono (by decide) (by decide)⟩
                · show Steps p.tables e below (T48.setTop (mkF m 83 #[.val (.int p0), .val (.ref b10), .val (.int (p0 &&& (7 : Int32))), .val (.ref (u 6)), .val (.int (0 : Int32))] [(.ref (u 6))])) _
                  refine st85.trans ?_
                  show Steps p.tables e below (T85.setTop (mkF m 86 #[.val (.int p0), .val (.ref b10), .val (.int (p0 &&& (7 : Int32))), .val (.ref (u 6)), .val (.int (0 : Int32))] [(.int (0 : Int32))])) _
                  refine XS.iload X85.here hx rfl (hb hby at_86) rfl ?_
                  show Steps p.tables e below (T85.setTop (mkF m 88 #[.val (.int p0), .val (.ref b10), .val (.int (p0 &&& (7 : Int32))), .val (.ref (u 6)), .val (.int (0 : Int32))] [(.int (0 : Int32)), (.int (0 : Int32))])) _
                  refine XS.icmpNo X85.here hx rfl (hb hby at_88) rfl (teq (by decide : (0 : Int32) = (0 : Int32))).2 ?_
                  show Steps p.tables e below (T85.setTop (mkF m 91 #[.val (.int p0), .val (.ref b10), .val (.int (p0 &&& (7 : Int32))), .val (.ref (u 6)), .val (.int (0 : Int32))] [])) _
                  refine XS.iconst X85.here hx rfl (hb hby at_91) ?_
                  show Steps p.tables e below (T85.setTop (mkF m 92 #[.val (.int p0), .val (.ref b10), .val (.int (p0 &&& (7 : Int32))), .val (.ref (u 6)), .val (.int (0 : Int32))] [(.int (1 : Int32))])) _
                  refine XS.goto X85.here hx rfl (pc0 := 92) (pc' := 96) rfl (hb hby at_92) (by decide) (by decide) ?_
                  show Steps p.tables e below (T85.setTop (mkF m 96 #[.val (.int p0), .val (.ref b10), .val (.int (p0 &&& (7 : Int32))), .val (.ref (u 6)), .val (.int (0 : Int32))] [(.int (1 : Int32))])) _
                  exact retN X85 hx (t := .boolean) Bd.returns (by simp) (hb hby at_96) hr
                · show own_Q0 Z u p0 h0 n0 _ T85.heap _
                  rw [e85]
                  exact ⟨rfl, N85, trivial⟩
              · --
                by_cases hc87 : (p0 &&& (7 : Int32)) = (7 : Int32)
                · --
                  obtain ⟨cl88, Ar88, -, S88, N88, H88, -⟩ := V48
                  have hin88 : ¬ ((p0 &&& (7 : Int32)) < 0 ∨ cl88.slots.size ≤ ((p0 &&& (7 : Int32))).toNatClampNeg) := by rw [hc87]; exact inb_of S88 ⟨by decide, by decide⟩
                  have pre89 : ∀ t, Steps p.tables e below (T48.setTop (mkF m 83 #[.val (.int p0), .val (.ref b10), .val (.int (p0 &&& (7 : Int32))), .val (.ref (u 7)), .val (.int (0 : Int32))] [(.ref (u 7))])) t → Steps p.tables e below (s₁.setTop (entryFrame m #[(.int p0)] maxLocals)) t := fun t kt => pre51 t (by
                    show Steps p.tables e below (T48.setTop (mkF m 63 #[.val (.int p0), .val (.ref b10), .val (.int (p0 &&& (7 : Int32))), .unset, .unset] [(.int (p0 &&& (7 : Int32))), (.ref b10)])) _
                    refine X48.aaload hx (j := (p0 &&& (7 : Int32))) (v := (.ref (u 7))) (by rw [e48]; exact Ar88.1) (State.isArrayOf_alike hZ.alike Ar88.2.1) rfl Ar88.2.2 hin88 (H88.at hin88 (by rw [hc87]; rfl)) (g := (mkF m 63 #[.val (.int p0), .val (.ref b10), .val (.int (p0 &&& (7 : Int32))), .unset, .unset] [(.int (p0 &&& (7 : Int32))), (.ref b10)])) rfl rfl (hb hby at_63) _ ?_
                    show Steps p.tables e below (T48.setTop (mkF m 64 #[.val (.int p0), .val (.ref b10), .val (.int (p0 &&& (7 : Int32))), .unset, .unset] [(.ref (u 7))])) _
                    refine XS.astoreN X48.here hx rfl (hb hby at_64) rfl rfl (l' := #[.val (.int p0), .val (.ref b10), .val (.int (p0 &&& (7 : Int32))), .val (.ref (u 7)), .unset]) rfl ?_
                    show Steps p.tables e below (T48.setTop (mkF m 65 #[.val (.int p0), .val (.ref b10), .val (.int (p0 &&& (7 : Int32))), .val (.ref (u 7)), .unset] [])) _
                    refine XS.iloadN X48.here hx rfl (hb hby at_65) rfl ?_
                    show Steps p.tables e below (T48.setTop (mkF m 66 #[.val (.int p0), .val (.ref b10), .val (.int (p0 &&& (7 : Int32))), .val (.ref (u 7)), .unset] [(.int (p0 &&& (7 : Int32)))])) _
                    refine XS.iconst X48.here hx rfl (hb hby at_66) ?_
                    show Steps p.tables e below (T48.setTop (mkF m 67 #[.val (.int p0), .val (.ref b10), .val (.int (p0 &&& (7 : Int32))), .val (.ref (u 7)), .unset] [(.int (4 : Int32)), (.int (p0 &&& (7 : Int32)))])) _
                    refine XS.icmpNo X48.here hx rfl (hb hby at_67) rfl (feq hc72).1 ?_
                    show Steps p.tables e below (T48.setTop (mkF m 70 #[.val (.int p0), .val (.ref b10), .val (.int (p0 &&& (7 : Int32))), .val (.ref (u 7)), .unset] [])) _
                    refine XS.iloadN X48.here hx rfl (hb hby at_70) rfl ?_
                    show Steps p.tables e below (T48.setTop (mkF m 71 #[.val (.int p0), .val (.ref b10), .val (.int (p0 &&& (7 : Int32))), .val (.ref (u 7)), .unset] [(.int (p0 &&& (7 : Int32)))])) _
                    refine XS.iconst X48.here hx rfl (hb hby at_71) ?_
                    show Steps p.tables e below (T48.setTop (mkF m 72 #[.val (.int p0), .val (.ref b10), .val (.int (p0 &&& (7 : Int32))), .val (.ref (u 7)), .unset] [(.int (5 : Int32)), (.int (p0 &&& (7 : Int32)))])) _
                    refine XS.icmpYes X48.here hx rfl (pc0 := 72) (pc' := 79) rfl (hb hby at_72) rfl (feq hc77).2 (by decide) (by decide) ?_
                    show Steps p.tables e below (T48.setTop (mkF m 79 #[.val (.int p0), .val (.ref b10), .val (.int (p0 &&& (7 : Int32))), .val (.ref (u 7)), .unset] [])) _
                    refine XS.iconst X48.here hx rfl (hb hby at_79) ?_
                    show Steps p.tables e below (T48.setTop (mkF m 80 #[.val (.int p0), .val (.ref b10), .val (.int (p0 &&& (7 : Int32))), .val (.ref (u 7)), .unset] [(.int (0 : Int32))])) _
                    refine XS.istore X48.here hx rfl (hb hby at_80) rfl (l' := #[.val (.int p0), .val (.ref b10), .val (.int (p0 &&& (7 : Int32))), .val (.ref (u 7)), .val (.int (0 : Int32))]) rfl ?_
                    show Steps p.tables e below (T48.setTop (mkF m 82 #[.val (.int p0), .val (.ref b10), .val (.int (p0 &&& (7 : Int32))), .val (.ref (u 7)), .val (.int (0 : Int32))] [])) _
                    refine XS.aloadN X48.here hx rfl (hb hby at_82) rfl rfl ?_
                    exact kt)
                  obtain ⟨cq90, kq90, q90a, q90b, q90c⟩ := isOf hZ e48 (B.2.2.2.2.2.2.2.2.2.2.2.2.2.2.2.1.ext O48.2)
                  obtain ⟨vr90, _, ⟨T90, L90, k90, n90⟩, -, X90, ⟨Lc90, hQ90, l90, y90, z90⟩, st90⟩ := X48.virtualBack hx (y := (⟨"com/example/vetted_ledger/vettedledger/engine/SubscriptionEventType", "changesTerms", "()Z"⟩ : MethodName)) (z := (⟨"com/example/vetted_ledger/vettedledger/engine/SubscriptionEventType", "changesTerms", "()Z"⟩ : MethodName)) hown (mvT hZ (hw _ (List.mem_of_getElem? (i := 20) rfl))) (mvT hZ (hw _ (List.mem_of_getElem? (i := 21) rfl))) (notFace_of_selects (args := #[]) (mvT hZ (hw _ (List.mem_of_getElem? (i := 23) rfl)))) (mvT hZ (hw _ (List.mem_of_getElem? (i := 23) rfl))) (mvT hZ (hw _ (List.mem_of_getElem? (i := 22) rfl))) (by decide) (backOf (W := 0) (rm1 l Z a0 hw [] u (u 7) B h48 n0 O48 ) hZ (hw _ (List.mem_of_getElem? (i := 24) rfl)) (hw _ (List.mem_of_getElem? (i := 3) rfl)) (by decide) (by decide)) q90a q90c (g := (mkF m 83 #[.val (.int p0), .val (.ref b10), .val (.int (p0 &&& (7 : Int32))), .val (.ref (u 7)), .val (.int (0 : Int32))] [(.ref (u 7))])) rfl (by rw [hml]; rfl) (Steps.refl _) (argsL := []) (rest := []) (lenOf own_pd0 rfl) rfl (by show 2 * 0 + _ ≤ _; exact Nat.le_of_eq rfl) (hb hby at_83) (fun _ _ => ⟨rfl, e48, (by decide : 1 + 0 ≤ _), (by decide : 8 + 0 ≤ _)⟩)
                  dsimp only [Pt.U, Pt.locs, Pt.cells, Pt.slots] at X90 l90 y90 z90 st90 hQ90
                  subst l90 y90 z90
                  obtain ⟨hv90, N90q, e90⟩ := hQ90
                  have N90 := Fr.app Nf48 N90q
                  obtain rfl : vr90 = some (.int (0 : Int32)) := hv90.trans (by unfold own_r1; rw [if_neg ((Fld.ne B.2.2.2.2.2.2.2.2.2.2.2.2.2.2.2.2.2.2.2.2.2.2.2 B.2.2.2.2.2.2.2.2.2.2.2.2.2.2.2.2.2.2.2.2.1 (by decide)) : ¬ ((u 7) = (u 4))), if_neg ((Fld.ne B.2.2.2.2.2.2.2.2.2.2.2.2.2.2.2.2.2.2.2.2.2.2.2 B.2.2.2.2.2.2.2.2.2.2.2.2.2.2.2.2.2.2.2.2.2.1 (by decide)) : ¬ ((u 7) = (u 5)))])
                  obtain ⟨fs, hr, hrun, hended, hW, hsame⟩ := X90.leave (v := some (.int (1 : Int32))) (fun h => by rw [Bd.returns] at h; cases h)
                  refine ⟨_, _, pre89 _ ?_, hrun, hended, _, _, rfl, ?_, ⟨_, rfl⟩, hW, hsame.mono (by decide) (by decide)⟩
                  · show Steps p.tables e below (T48.setTop (mkF m 83 #[.val (.int p0), .val (.ref b10), .val (.int (p0 &&& (7 : Int32))), .val (.ref (u 7)), .val (.int (0 : Int32))] [(.ref (u 7))])) _
                    refine st90.trans ?_
                    show Steps p.tables e below (T90.setTop (mkF m 86 #[.val (.int p0), .val (.ref b10), .val (.int (p0 &&& (7 : Int32))), .val (.ref (u 7)), .val (.int (0 : Int32))] [(.int (0 : Int32))])) _
                    refine XS.iload X90.here hx rfl (hb hby at_86) rfl ?_
                    show Steps p.tables e below (T90.setTop (mkF m 88 #[.val (.int p0), .val (.ref b10), .val (.int (p0 &&& (7 : Int32))), .val (.ref (u 7)), .val (.int (0 : Int32))] [(.int (0 : Int32)), (.int (0 : Int32))])) _
                    refine XS.icmpNo X90.here hx rfl (hb hby at_88) rfl (teq (by decide : (0 : Int32) = (0 : Int32))).2 ?_
                    show Steps p.tables e below (T90.setTop (mkF m 91 #[.val (.int p0), .val (.ref b10), .val (.int (p0 &&& (7 : Int32))), .val (.ref (u 7)), .val (.int (0 : Int32))] [])) _
                    refine XS.iconst X90.here hx rfl (hb hby at_91) ?_
                    show Steps p.tables e below (T90.setTop (mkF m 92 #[.val (.int p0), .val (.ref b10), .val (.int (p0 &&& (7 : Int32))), .val (.ref (u 7)), .val (.int (0 : Int32))] [(.int (1 : Int32))])) _
                    refine XS.goto X90.here hx rfl (pc0 := 92) (pc' := 96) rfl (hb hby at_92) (by decide) (by decide) ?_
                    show Steps p.tables e below (T90.setTop (mkF m 96 #[.val (.int p0), .val (.ref b10), .val (.int (p0 &&& (7 : Int32))), .val (.ref (u 7)), .val (.int (0 : Int32))] [(.int (1 : Int32))])) _
                    exact retN X90 hx (t := .boolean) Bd.returns (by simp) (hb hby at_96) hr
                  · show own_Q0 Z u p0 h0 n0 _ T90.heap _
                    rw [e90]
                    exact ⟨rfl, N90, trivial⟩
                · --
                  exact absurd (own_exh8 (j := (p0 &&& (7 : Int32))) (own_and7 p0).1 (own_and7 p0).2 hc52 hc57 hc62 hc67 hc72 hc77 hc82 hc87) id
set_option maxRecDepth 65536 in
set_option maxHeartbeats 40000000 in
theorem comes_1 {Post : Tables → Env → Array Value → State → Outcome → State → Prop} (hpost : ∀ tb e args s v u, (limb_1_1.after args s (.returned v) u = true ∧ limb_1_2.after args s (.returned v) u = true ∧ True) → FrameEnd s (.returned v) u (Jvm.fieldLocs frame_1_writes args s ++ Jvm.arrayLocs frame_1_arrays args s ++ Jvm.staticLocs frame_1_statics s) 16 128 → Post tb e args s (.returned v) u) :
    ArmFor flags0 classFile x code maxLocals ret World_1 tables_1 room_1 Calls_1 rest_1 Pre_1 Post := by
  intro l hfl _ _ p e ha hc hk s m args below hf hA hF happ hP
  obtain ⟨hcalls, hrest, hpre⟩ := hP
  obtain ⟨-, -, -, hnamed, -, -, -, hat⟩ := (Spec.applies_iff hf).mp happ
  obtain ⟨hg, hn⟩ := and_e (Cond.before_iff.mp (show (Jvm.Cond.and given_1 narrow_1).before args s = true from hpre))
  obtain ⟨g0, gr0⟩ := and_e hg
  have g1 := gr0
  obtain ⟨w0, rfl⟩ : ∃ w0 : Value, args = #[w0] := by
    have hs : args.size = 1 := by simpa [Cond.value, given_1] using g0
    obtain ⟨L⟩ := args
    match L, hs with
    | [w0], _ => exact ⟨w0, rfl⟩
  have hw := fun d (hd : d ∈ tables_1) => atoms_spec (ws := Jvm.Cond.code x code maxLocals ret :: tables_1) hat d (List.mem_cons_of_mem _ hd)
  have hfit : Fit s := fun {y c} hc i hi => by
    obtain ⟨ha, rfl⟩ := Array.getElem?_eq_some_iff.mp hc
    have q := List.all_eq_true.mp ((Array.all_eq_true_iff_forall_mem.mp hF) _ (Array.getElem_mem ha)) i (List.mem_range.mpr hi)
    simpa [Array.getElem?_eq_getElem hi] using q
  obtain ⟨i0, ei0⟩ := is_v g1
  obtain rfl : w0 = (.int i0) := Option.some.inj ei0
  obtain ⟨b0, hn0⟩ := and_e hn
  obtain ⟨b1, hn1⟩ := and_e hn0
  obtain ⟨b2, hn2⟩ := and_e hn1
  obtain ⟨b3, hn3⟩ := and_e hn2
  obtain ⟨b4, hn4⟩ := and_e hn3
  obtain ⟨b5, hn5⟩ := and_e hn4
  obtain ⟨b6, hn6⟩ := and_e hn5
  obtain ⟨b7, hn7⟩ := and_e hn6
  obtain ⟨b8, hn8⟩ := and_e hn7
  obtain ⟨b9, hn9⟩ := and_e hn8
  obtain ⟨b10, hn10⟩ := and_e hn9
  obtain ⟨b11, hn11⟩ := and_e hn10
  obtain ⟨b12, hn12⟩ := and_e hn11
  obtain ⟨b13, hn13⟩ := and_e hn12
  obtain ⟨b14, hn14⟩ := and_e hn13
  have b15 := hn14
  obtain ⟨x0, v0⟩ := exa_v b0
  obtain ⟨x1, v1⟩ := exa_v b1
  obtain ⟨x2, v2⟩ := exa_v b2
  obtain ⟨x3, v3⟩ := exa_v b3
  obtain ⟨x4, v4⟩ := exa_v b4
  obtain ⟨x5, v5⟩ := exa_v b5
  obtain ⟨x6, v6⟩ := exa_v b6
  obtain ⟨x7, v7⟩ := exa_v b7
  have B : own_Base s (fun i => ([x0, x1, x2, x3, x4, x5, x6, x7] : List Addr).getD i 0) := ⟨Sta.start v0 (Or.inr ⟨(hw _ (List.mem_of_getElem? (i := 3) rfl)), (hw _ (List.mem_of_getElem? (i := 4) rfl))⟩),
    Exa.start v0 b0,
    Sta.start v1 (Or.inr ⟨(hw _ (List.mem_of_getElem? (i := 3) rfl)), (hw _ (List.mem_of_getElem? (i := 7) rfl))⟩),
    Exa.start v1 b1,
    Sta.start v2 (Or.inr ⟨(hw _ (List.mem_of_getElem? (i := 3) rfl)), (hw _ (List.mem_of_getElem? (i := 9) rfl))⟩),
    Exa.start v2 b2,
    Sta.start v3 (Or.inr ⟨(hw _ (List.mem_of_getElem? (i := 3) rfl)), (hw _ (List.mem_of_getElem? (i := 11) rfl))⟩),
    Exa.start v3 b3,
    Sta.start v4 (Or.inr ⟨(hw _ (List.mem_of_getElem? (i := 3) rfl)), (hw _ (List.mem_of_getElem? (i := 13) rfl))⟩),
    Exa.start v4 b4,
    Sta.start v5 (Or.inr ⟨(hw _ (List.mem_of_getElem? (i := 3) rfl)), (hw _ (List.mem_of_getElem? (i := 15) rfl))⟩),
    Exa.start v5 b5,
    Sta.start v6 (Or.inr ⟨(hw _ (List.mem_of_getElem? (i := 3) rfl)), (hw _ (List.mem_of_getElem? (i := 17) rfl))⟩),
    Exa.start v6 b6,
    Sta.start v7 (Or.inr ⟨(hw _ (List.mem_of_getElem? (i := 3) rfl)), (hw _ (List.mem_of_getElem? (i := 19) rfl))⟩),
    Exa.start v7 b7,
    own_fld v0 b8 rfl,
    own_fld v1 b15 rfl,
    own_fld v2 b14 rfl,
    own_fld v3 b11 rfl,
    own_fld v4 b9 rfl,
    own_fld v5 b10 rfl,
    own_fld v6 b12 rfl,
    own_fld v7 b13 rfl⟩
  obtain ⟨n, o, h1, h2, h3, _, L, rfl, ⟨rfl, N, -⟩, hq⟩ := rm0 l s _ hw tables_1 (fun i => ([x0, x1, x2, x3, x4, x5, x6, x7] : List Addr).getD i 0) i0 B s.heap s.heap.size (Old.start s)  p e ha hc hk s m _ below hf ((Spec.applies_iff_loose hf).mp happ).1 ⟨rfl, State.Warmed39.refl s, rfl⟩ trivial
  refine ⟨n, _, h1, h2, h3, hpost _ _ _ _ _ _ ⟨Cond.after_iff.mpr rfl, Cond.after_iff.mpr (eq_i res_at (Term.int_eval (1)) rfl), trivial⟩ ⟨hq.1, hq.2.1, (hq.2.2.sift fun y hy => Or.inr (N y hy)).mono (by decide) (by decide)⟩⟩
theorem main_1_1 : Claimed_1_1 := comes_1 fun _ _ _ _ _ _ h hF => ⟨h.1, hF⟩
theorem main_1_2 : Claimed_1_2 := comes_1 fun _ _ _ _ _ _ h hF => ⟨h.2.1, hF⟩
end Jvm.Pilot.@@N@@
namespace Jvm.Pilot.@@N@@
open Jvm Jvm.ClassFile Sem Op Lib Jvm.Free Jvm.Stand Jvm.Pilot.@@N@@.Jvm.D
/-! MADE BY PROGRAM (witnessworld.py) out of the Statement's table words and the real class files: 13 classes; the members and pool entries that the words name. The judged class is class 1, her method 1. -/
namespace start1
open Jvm.ClassFile
def u (s : String) : CpInfo := .utf8 (stringToUtf16 s)
/-- a pool by its gaps: so many unusable entries, then the entry; so many at the end -/
def gap : Nat → List CpInfo → List CpInfo
  | 0, r => r
  | n + 1, r => .unusable :: gap n r
def poolList (es : List (Nat × CpInfo)) (last : Nat) : List CpInfo := es.foldr (fun e r => gap e.1 (e.2 :: r)) (gap last [])
def pool (es : List (Nat × CpInfo)) (last : Nat) : Array CpInfo := ⟨poolList es last⟩
def fileOf (pool : Array CpInfo) (this : Nat) (attrs : Array Attribute := #[]) (ms : Array MethodInfo := #[]) (fl : Nat := 33) (sup : Nat := 0) (ifs : Array Nat := #[]) (fds : Array FieldInfo := #[]) : ClassFile where
  minorVersion := 0
  majorVersion := 65
  constantPool := pool
  accessFlags := fl
  thisClass := this
  superClass := sup
  interfaces := ifs
  fields := fds
  methods := ms
  attributes := attrs
def plain (name : String) (sup : Option ClassId) : Class where
  name := name
  kind := .ordinary
  loader := none
  accessFlags := 33
  super := sup
  interfaces := #[]
  cf := none
  fields := #[]
  methods := #[]
  instanceTypes := #[]
  staticTypes := #[]
  resolved := #[]
  callSites := []
  init := .initialized
  statics := none
  mirror := none

def pool0 : Array CpInfo := pool [(5, u "<init>"), (0, u "()V"), (1, .class_ 10), (1, u "java/lang/Object")] 113

def k0m0 : Method := { name := "<init>", desc := "()V", sig := { parameters := [], returnType := none }, accessFlags := 1, code := none }
/-- java/lang/Object -/
def k0 : Class := { plain "java/lang/Object" none with
  accessFlags := 33
  interfaces := #[]
  cf := some (fileOf pool0 8 #[] #[{ accessFlags := 1, nameIndex := 5, descriptorIndex := 6, attributes := #[] }] 33 0 #[] #[])
  fields := #[]
  methods := #[k0m0]
  instanceTypes := #[]
  staticTypes := #[]
  resolved := Array.replicate 124 none
  statics := none }

def pool1 : Array CpInfo := pool [(2, .class_ 4), (1, u "java/lang/Object"), (0, u "<init>"), (0, u "()V"), (0, .class_ 8), (0, u "com/example/vetted_ledger/vettedledger/engine/SubscriptionEventType"), (0, .fieldref 7 10), (0, .nameAndType 11 12), (0, u "START_ENTITLEMENT"), (0, u "Lcom/example/vetted_ledger/vettedledger/engine/SubscriptionEventType;"), (0, .fieldref 7 14), (0, .nameAndType 15 12), (0, u "START_BILLING"), (0, .fieldref 7 17), (0, .nameAndType 18 12), (0, u "PHASE"), (0, .fieldref 7 20), (0, .nameAndType 21 12), (0, u "CHANGE"), (0, .fieldref 7 23), (0, .nameAndType 24 12), (0, u "QUANTITY_CHANGE"), (0, .fieldref 7 26), (0, .nameAndType 27 12), (0, u "BCD_CHANGE"), (0, .fieldref 7 29), (0, .nameAndType 30 12), (0, u "STOP_ENTITLEMENT"), (0, .fieldref 7 32), (0, .nameAndType 33 12), (0, u "STOP_BILLING"), (0, .methodref 7 35), (0, .nameAndType 36 37), (0, u "changesTerms"), (0, u "()Z"), (0, .class_ 39), (0, u "com/example/vetted_ledger/vettedledger/engine/SubscriptionEventTypeChangesTermsPinLaw"), (2, u "law"), (0, u "(I)Z")] 5

def k1m0 : Method := { name := "<init>", desc := "()V", sig := { parameters := [], returnType := none }, accessFlags := 1, code := none }
def k1c1 : Code := { maxStack := 4, maxLocals := 5, code := code, exceptionTable := #[], attributes := #[] }
def k1m1 : Method := { name := "law", desc := "(I)Z", sig := { parameters := [.int], returnType := some .boolean }, accessFlags := 9, code := some k1c1 }
/-- com/example/vetted_ledger/vettedledger/engine/SubscriptionEventTypeChangesTermsPinLaw -/
def k1 : Class := { plain "com/example/vetted_ledger/vettedledger/engine/SubscriptionEventTypeChangesTermsPinLaw" (some 0) with
  accessFlags := 49
  interfaces := #[]
  cf := some (fileOf pool1 38 #[] #[{ accessFlags := 1, nameIndex := 5, descriptorIndex := 6, attributes := #[] }, { accessFlags := 9, nameIndex := 42, descriptorIndex := 43, attributes := #[] }] 49 2 #[] #[])
  fields := #[]
  methods := #[k1m0, k1m1]
  instanceTypes := #[]
  staticTypes := #[]
  resolved := Array.replicate 49 none
  statics := none }

def pool2 : Array CpInfo := pool [(1, .class_ 2), (0, u "java/lang/constant/Constable"), (0, .class_ 4), (0, u "java/lang/Object")] 6

/-- java/lang/constant/Constable -/
def k2 : Class := { plain "java/lang/constant/Constable" (some 0) with
  accessFlags := 1537
  interfaces := #[]
  cf := some (fileOf pool2 1 #[] #[] 1537 3 #[] #[])
  fields := #[]
  methods := #[]
  instanceTypes := #[]
  staticTypes := #[]
  resolved := Array.replicate 11 none
  statics := none }

def pool3 : Array CpInfo := pool [(1, .class_ 2), (0, u "java/lang/Comparable"), (0, .class_ 4), (0, u "java/lang/Object")] 7

/-- java/lang/Comparable -/
def k3 : Class := { plain "java/lang/Comparable" (some 0) with
  accessFlags := 1537
  interfaces := #[]
  cf := some (fileOf pool3 1 #[] #[] 1537 3 #[] #[])
  fields := #[]
  methods := #[]
  instanceTypes := #[]
  staticTypes := #[]
  resolved := Array.replicate 12 none
  statics := none }

def pool4 : Array CpInfo := pool [(1, .class_ 2), (0, u "java/io/Serializable"), (0, .class_ 4), (0, u "java/lang/Object")] 2

/-- java/io/Serializable -/
def k4 : Class := { plain "java/io/Serializable" (some 0) with
  accessFlags := 1537
  interfaces := #[]
  cf := some (fileOf pool4 1 #[] #[] 1537 3 #[] #[])
  fields := #[]
  methods := #[]
  instanceTypes := #[]
  staticTypes := #[]
  resolved := Array.replicate 7 none
  statics := none }

def pool5 : Array CpInfo := pool [(2, .class_ 4), (1, u "java/lang/Enum"), (0, u "name"), (0, u "Ljava/lang/String;"), (2, u "ordinal"), (0, u "I"), (1, .class_ 14), (1, u "java/lang/Object"), (4, u "hash"), (86, .class_ 108), (1, u "java/lang/Enum$EnumDesc"), (2, .class_ 112), (0, u "java/lang/constant/Constable"), (0, .class_ 114), (0, u "java/lang/Comparable"), (0, .class_ 116), (0, u "java/io/Serializable")] 87

/-- java/lang/Enum -/
def k5 : Class := { plain "java/lang/Enum" (some 0) with
  accessFlags := 1057
  interfaces := #[2, 3, 4]
  cf := some (fileOf pool5 2 #[.nestMembers #[106]] #[] 1057 12 #[111, 113, 115] #[{ accessFlags := 18, nameIndex := 5, descriptorIndex := 6, attributes := #[] }, { accessFlags := 18, nameIndex := 9, descriptorIndex := 10, attributes := #[] }, { accessFlags := 2, nameIndex := 19, descriptorIndex := 10, attributes := #[] }])
  fields := #[{ name := "name", type := (.object "java/lang/String"), accessFlags := 18, slot := 0, constantValue := 0 }, { name := "ordinal", type := .int, accessFlags := 18, slot := 1, constantValue := 0 }, { name := "hash", type := .int, accessFlags := 2, slot := 2, constantValue := 0 }]
  methods := #[]
  instanceTypes := #[(.object "java/lang/String"), .int, .int]
  staticTypes := #[]
  resolved := Array.replicate 204 none
  statics := none }

def pool6 : Array CpInfo := pool [(1, .class_ 2), (0, u "com/example/vetted_ledger/vettedledger/engine/SubscriptionEventType"), (2, u "START_ENTITLEMENT"), (0, u "Lcom/example/vetted_ledger/vettedledger/engine/SubscriptionEventType;"), (2, u "START_BILLING"), (2, u "PHASE"), (2, u "CHANGE"), (0, .fieldref 1 17), (0, .nameAndType 18 6), (0, u "QUANTITY_CHANGE"), (0, .fieldref 1 20), (0, .nameAndType 21 6), (0, u "BCD_CHANGE"), (2, u "STOP_ENTITLEMENT"), (2, u "STOP_BILLING"), (2, u "$VALUES"), (0, u "[Lcom/example/vetted_ledger/vettedledger/engine/SubscriptionEventType;"), (6, .class_ 40), (1, u "java/lang/Enum"), (8, u "serviceName"), (0, u "Ljava/lang/String;"), (2, u "serviceStateName"), (35, u "changesTerms"), (0, u "()Z")] 6

def k6c0 : Code := { maxStack := 2, maxLocals := 1, code := prog_26_method_6_code, exceptionTable := #[], attributes := #[] }
def k6m0 : Method := { name := "changesTerms", desc := "()Z", sig := { parameters := [], returnType := some .boolean }, accessFlags := 1, code := some k6c0 }
/-- com/example/vetted_ledger/vettedledger/engine/SubscriptionEventType -/
def k6 : Class := { plain "com/example/vetted_ledger/vettedledger/engine/SubscriptionEventType" (some 5) with
  accessFlags := 16433
  interfaces := #[]
  cf := some (fileOf pool6 1 #[] #[{ accessFlags := 1, nameIndex := 89, descriptorIndex := 90, attributes := #[] }] 16433 38 #[] #[{ accessFlags := 16409, nameIndex := 5, descriptorIndex := 6, attributes := #[] }, { accessFlags := 16409, nameIndex := 9, descriptorIndex := 6, attributes := #[] }, { accessFlags := 16409, nameIndex := 12, descriptorIndex := 6, attributes := #[] }, { accessFlags := 16409, nameIndex := 15, descriptorIndex := 6, attributes := #[] }, { accessFlags := 16409, nameIndex := 18, descriptorIndex := 6, attributes := #[] }, { accessFlags := 16409, nameIndex := 21, descriptorIndex := 6, attributes := #[] }, { accessFlags := 16409, nameIndex := 24, descriptorIndex := 6, attributes := #[] }, { accessFlags := 16409, nameIndex := 27, descriptorIndex := 6, attributes := #[] }, { accessFlags := 18, nameIndex := 49, descriptorIndex := 50, attributes := #[] }, { accessFlags := 18, nameIndex := 53, descriptorIndex := 50, attributes := #[] }, { accessFlags := 4122, nameIndex := 30, descriptorIndex := 31, attributes := #[] }])
  fields := #[{ name := "START_ENTITLEMENT", type := (.object "com/example/vetted_ledger/vettedledger/engine/SubscriptionEventType"), accessFlags := 16409, slot := 0, constantValue := 0 }, { name := "START_BILLING", type := (.object "com/example/vetted_ledger/vettedledger/engine/SubscriptionEventType"), accessFlags := 16409, slot := 1, constantValue := 0 }, { name := "PHASE", type := (.object "com/example/vetted_ledger/vettedledger/engine/SubscriptionEventType"), accessFlags := 16409, slot := 2, constantValue := 0 }, { name := "CHANGE", type := (.object "com/example/vetted_ledger/vettedledger/engine/SubscriptionEventType"), accessFlags := 16409, slot := 3, constantValue := 0 }, { name := "QUANTITY_CHANGE", type := (.object "com/example/vetted_ledger/vettedledger/engine/SubscriptionEventType"), accessFlags := 16409, slot := 4, constantValue := 0 }, { name := "BCD_CHANGE", type := (.object "com/example/vetted_ledger/vettedledger/engine/SubscriptionEventType"), accessFlags := 16409, slot := 5, constantValue := 0 }, { name := "STOP_ENTITLEMENT", type := (.object "com/example/vetted_ledger/vettedledger/engine/SubscriptionEventType"), accessFlags := 16409, slot := 6, constantValue := 0 }, { name := "STOP_BILLING", type := (.object "com/example/vetted_ledger/vettedledger/engine/SubscriptionEventType"), accessFlags := 16409, slot := 7, constantValue := 0 }, { name := "serviceName", type := (.object "java/lang/String"), accessFlags := 18, slot := 3, constantValue := 0 }, { name := "serviceStateName", type := (.object "java/lang/String"), accessFlags := 18, slot := 4, constantValue := 0 }, { name := "$VALUES", type := (.array (.object "com/example/vetted_ledger/vettedledger/engine/SubscriptionEventType")), accessFlags := 4122, slot := 8, constantValue := 0 }]
  methods := #[k6m0]
  instanceTypes := #[(.object "java/lang/String"), .int, .int, (.object "java/lang/String"), (.object "java/lang/String")]
  staticTypes := #[(.object "com/example/vetted_ledger/vettedledger/engine/SubscriptionEventType"), (.object "com/example/vetted_ledger/vettedledger/engine/SubscriptionEventType"), (.object "com/example/vetted_ledger/vettedledger/engine/SubscriptionEventType"), (.object "com/example/vetted_ledger/vettedledger/engine/SubscriptionEventType"), (.object "com/example/vetted_ledger/vettedledger/engine/SubscriptionEventType"), (.object "com/example/vetted_ledger/vettedledger/engine/SubscriptionEventType"), (.object "com/example/vetted_ledger/vettedledger/engine/SubscriptionEventType"), (.object "com/example/vetted_ledger/vettedledger/engine/SubscriptionEventType"), (.array (.object "com/example/vetted_ledger/vettedledger/engine/SubscriptionEventType"))]
  resolved := Array.replicate 97 none
  statics := some 0 }

def pool7 : Array CpInfo := pool [(1, u "java/lang/Cloneable"), (0, .class_ 1), (0, u "java/lang/Object"), (0, .class_ 3)] 3

/-- java/lang/Cloneable -/
def k7 : Class := { plain "java/lang/Cloneable" (some 0) with
  accessFlags := 1537
  interfaces := #[]
  cf := some (fileOf pool7 2 #[] #[] 1537 4 #[] #[])
  fields := #[]
  methods := #[]
  instanceTypes := #[]
  staticTypes := #[]
  resolved := Array.replicate 8 none
  statics := none }

/-- the primitive byte -/
def k8 : Class := { plain "byte" none with kind := .primitive 'B', accessFlags := 0x411 }
/-- [B -/
def k9 : Class := { plain "[B" (some 0) with kind := .array 8 .byte, interfaces := #[7, 4], accessFlags := 1041 }

/-- the primitive int -/
def k10 : Class := { plain "int" none with kind := .primitive 'I', accessFlags := 0x411 }
/-- [I -/
def k11 : Class := { plain "[I" (some 0) with kind := .array 10 .int, interfaces := #[7, 4], accessFlags := 1041 }

/-- [Lcom/example/vetted_ledger/vettedledger/engine/SubscriptionEventType; -/
def k12 : Class := { plain "[Lcom/example/vetted_ledger/vettedledger/engine/SubscriptionEventType;" (some 0) with kind := .array 6 (.object "com/example/vetted_ledger/vettedledger/engine/SubscriptionEventType"), interfaces := #[7, 4], accessFlags := 1041 }

def heap : Heap := #[{ cls := 6, slots := #[.ref 1, .ref 2, .ref 3, .ref 4, .ref 5, .ref 6, .ref 7, .ref 8, .null], vm := .statics 6 },
  { cls := 6, slots := #[.null, .int (0), .int 0, .null, .null], vm := .none },
  { cls := 6, slots := #[.null, .int (1), .int 0, .null, .null], vm := .none },
  { cls := 6, slots := #[.null, .int (2), .int 0, .null, .null], vm := .none },
  { cls := 6, slots := #[.null, .int (3), .int 0, .null, .null], vm := .none },
  { cls := 6, slots := #[.null, .int (4), .int 0, .null, .null], vm := .none },
  { cls := 6, slots := #[.null, .int (5), .int 0, .null, .null], vm := .none },
  { cls := 6, slots := #[.null, .int (6), .int 0, .null, .null], vm := .none },
  { cls := 6, slots := #[.null, .int (7), .int 0, .null, .null], vm := .none }]
def classes : Array Class := #[k0, k1, k2, k3, k4, k5, k6, k7, k8, k9, k10, k11, k12]
def interned : List (Array UInt16 × Addr) := []
def slotsUsed : Nat := 49
def theMethod : MethodId := ⟨1, 1⟩
def args0 : Array Value := #[.int 5]
def aboutOver (below : List Frame) : State where
  vm := { classes := classes, interned := interned.toArray }
  heap := heap
  slotsUsed := slotsUsed
  threads := #[{ frames := .invoking theMethod args0 :: below }]
def below0 : List Frame := [.native { method := ⟨0, 0⟩, args := #[] }]
def about1 : State := aboutOver below0
def p0 : Program := .bare "" "" ""
def e0 : Env := launch0.env 0 0 0
theorem w_frames : about1.frames = Frame.invoking theMethod args0 :: below0 := rfl
set_option maxRecDepth 65536 in
theorem w_args : argsFit about1.vm theMethod args0 = true := by decide +kernel
set_option maxRecDepth 65536 in
theorem w_heap : heapFits about1 = true := by decide +kernel
set_option maxRecDepth 65536 in
theorem w_runnable : about1.curStatus? = some .runnable := by decide +kernel
set_option maxRecDepth 65536 in
theorem w_alone : about1.alone = true := by decide +kernel
set_option maxRecDepth 65536 in
theorem w_named : about1.methodNamed? x = some theMethod := by decide +kernel
set_option maxRecDepth 65536 in
theorem w_hears : about1.hears theMethod below0 = true := by decide +kernel
set_option maxRecDepth 65536 in
theorem w_ripe : about1.ripe theMethod args0 below0 = true := by decide +kernel
theorem w_running : about1.status = .running := rfl
set_option maxRecDepth 65536 in
theorem w_room : about1.hasRoom e0.platform room_1 = true :=
  launch0.hasRoom_least _ room_1 (by decide +kernel) (by decide +kernel) (by decide +kernel) (by decide +kernel) (by decide +kernel) (by decide +kernel)
theorem allAtoms_all (ts : List Jvm.Cond) (a : Array Jvm.Value) (st : Jvm.State) : (allAtoms ts).before a st = ts.all (fun c => c.before a st) := by
  induction ts with
  | nil => rfl
  | cons c t ih =>
    show (Jvm.Cond.and c (allAtoms t)).before a st = _
    rw [Jvm.Cond.before_and, ih, List.all_cons]
def words1 : List Jvm.Cond := Jvm.Cond.code x code maxLocals ret :: tables_1
/-- a 'code' word, met by the world's own term for the bytes: nothing is compared byte by byte -/
theorem code_word {y : MethodName} {bytes : ByteArray} {mx : Nat} {rt : Option FieldType} {a : Array Value} {s : State} {m : MethodId} {meth : Method} {c : Code} (h1 : s.methodNamed? y = some m) (h2 : s.vm.method? m = some meth) (h3 : meth.code = some c) (h4 : c.code = bytes)
    (h5 : (c.maxLocals == mx && c.exceptionTable.isEmpty && decide (c.maxStack ≤ mostOperands) && decide (meth.sig.returnType = rt) && !meth.locks && decide (parseMethodDescriptor y.desc = some meth.sig)) = true) : (Jvm.Cond.code y bytes mx rt).before a s = true := by
  simp only [Bool.and_eq_true, beq_iff_eq, Bool.not_eq_true', decide_eq_true_eq] at h5
  obtain ⟨⟨⟨⟨⟨g1, g2⟩, g3⟩, g4⟩, g5⟩, g6⟩ := h5
  simp [Cond.before, Cond.holds, Cond.value, h1, h2, h3, h4, g1, g2, g3, g4, g5, g6]
def isCode : Jvm.Cond → Bool
  | .code _ _ _ _ => true
  | _ => false
theorem all_split {L : List Jvm.Cond} {P : Jvm.Cond → Bool} (h1 : L.all (fun c => isCode c || P c) = true) (h2 : ∀ c ∈ L.filter isCode, P c = true) : L.all P = true := by
  refine List.all_eq_true.mpr fun c hc => ?_
  have h := List.all_eq_true.mp h1 c hc
  rcases Bool.eq_false_or_eq_true (isCode c) with hi | hi
  · exact h2 c (List.mem_filter.mpr ⟨hc, hi⟩)
  · simpa [hi] using h
set_option maxRecDepth 65536 in
theorem w_c0 : (Jvm.Cond.code x code maxLocals ret).before args0 about1 = true := code_word (m := ⟨1, 1⟩) (meth := k1m1) (c := k1c1) (by decide +kernel) rfl rfl rfl (by decide +kernel)
set_option maxRecDepth 65536 in
theorem w_c1 : (Jvm.Cond.code ({ cls := "com/example/vetted_ledger/vettedledger/engine/SubscriptionEventType", name := "changesTerms", desc := "()Z" } : Jvm.MethodName) prog_26_method_6_code (1 : Nat) (Option.some Jvm.ClassFile.FieldType.boolean)).before args0 about1 = true := code_word (m := ⟨6, 0⟩) (meth := k6m0) (c := k6c0) (by decide +kernel) rfl rfl rfl (by decide +kernel)
def codes1 : List Jvm.Cond := [Jvm.Cond.code x code maxLocals ret, Jvm.Cond.code ({ cls := "com/example/vetted_ledger/vettedledger/engine/SubscriptionEventType", name := "changesTerms", desc := "()Z" } : Jvm.MethodName) prog_26_method_6_code (1 : Nat) (Option.some Jvm.ClassFile.FieldType.boolean)]
set_option maxRecDepth 65536 in
theorem codes_eq : words1.filter isCode = codes1 := rfl
theorem w_codes : ∀ c ∈ words1.filter isCode, c.before args0 about1 = true := by
  rw [codes_eq]
  intro c hc
  simp only [codes1, List.mem_cons, List.not_mem_nil, or_false] at hc
  rcases hc with rfl | rfl
  · exact w_c0
  · exact w_c1
set_option maxRecDepth 65536 in
theorem w_t1 : (words1.take 24).all (fun c => isCode c || c.before args0 about1) = true := by decide +kernel
set_option maxRecDepth 65536 in
theorem w_t2 : (words1.drop 24).all (fun c => isCode c || c.before args0 about1) = true := by decide +kernel
theorem w_tables : (allAtoms (Jvm.Cond.code x code maxLocals ret :: tables_1)).before args0 about1 = true := by
  rw [allAtoms_all]
  show words1.all (fun c => c.before args0 about1) = true
  refine all_split ?_ w_codes
  rw [← List.take_append_drop 24 words1, List.all_append, w_t1, w_t2]
  rfl
set_option maxRecDepth 65536 in
theorem w_case : (Jvm.Cond.and given_1 narrow_1).before args0 about1 = true := by decide +kernel
theorem w_applies : (headSpec (Jvm.Cond.code x code maxLocals ret :: tables_1) room_1).applies x e0.platform about1 = true :=
  (Spec.applies_iff w_frames).mpr ⟨w_running, w_runnable, w_alone, w_named, w_hears, w_ripe, w_room, w_tables⟩
theorem atStart : AtStart classFile x code maxLocals ret World_1 tables_1 room_1 Calls_1 rest_1 Pre_1 launch0 p0 e0 about1 theMethod args0 below0 :=
  ⟨lists_1, trivial, launch0.admits_env _ _ _, launch0.least_env, fairChoices_fair.cas, fairChoices_fair.clock, w_frames, w_args, w_heap, w_applies, trivial, trivial, w_case⟩
end start1
theorem witness_1 : WitnessClaimed_1 := ⟨start1.p0, start1.e0, start1.about1, start1.theMethod, start1.args0, start1.below0, start1.atStart⟩
end Jvm.Pilot.@@N@@
