import JvmDerived
import JvmDerived.Pilot.@@N@@Statement
import JvmDerived.Pilot.@@N@@Code
set_option linter.unusedVariables false
set_option linter.unusedSimpArgs false
namespace Jvm.RoadKit
open Sem ClassFile Op Lib Jvm.Stand Jvm.Free Jvm.LawKit
section New
variable {p : Program} {l : Launch} {e : Env} {R : Room} {s : State} {m : MethodId} {args : Array Value} {below : List Frame} {meth : Method} {c : Code} {T : State} {locs : List Loc} {cells slots : Nat}
theorem retI (X : Stand p l e R s m args below meth c T locs cells slots) (hx : p.tables.exec = Jvm.exec) {pc : Nat} {Ls : Array Slot} {z : Int32} {rest : List Value} (hret : meth.sig.returnType = some .int) (hd : decode c.code pc = .ok (.ireturn, 1)) {fs : List Frame}
    (hl : ∀ (f : JFrame) (acts : List Action), f.method = m → f.locked = none → f.entered = [] → (doReturn e (T.setTop f) acts (some (.int z))).1 = T.setFrames fs) : Steps p.tables e below (T.setTop (mkF m pc Ls (.int z :: rest))) (T.setFrames fs) :=
  retOut X hx hret rfl (Or.inl ⟨rfl, Or.inl rfl, z, rfl⟩) hd hl
end New
end Jvm.RoadKit
namespace Jvm.Pilot.@@N@@
open Jvm Jvm.ClassFile Sem Op Lib Jvm.Free Jvm.Stand Jvm.LawKit Jvm.RoadKit Bundle Jvm.Pilot.@@N@@.Jvm.D
/-! small laws of this text's own -/
theorem own_eqv {args : Array Value} {first s : State} {o : Option Outcome} {idx : List Nat} {a b : Term} {v : Value} (h : (Jvm.Cond.eq a b).value args first o s idx = some true) (hb : b.eval args first o idx s = some v) : a.eval args first o idx s = some v := by
  cases ha : a.eval args first o idx s with
  | none => simp [Cond.value, ha] at h
  | some x => cases x <;> cases v <;> simp_all [Cond.value]
theorem own_fld {args : Array Value} {s : State} {t b : Term} {x : Addr} {C n d : String} {v : Value} (ht : t.eval args s none [] s = some (.ref x)) (h : (Jvm.Cond.eq (.field t C n d) b).value args s none s [] = some true) (hb : b.eval args s none [] s = some v) : Fld s s.heap x C n d v :=
  Fld.start ((fld_at ht).symm.trans (own_eqv h hb))
theorem own_len {args : Array Value} {s : State} {t : Term} {x : Addr} {c : Cell} {n : Int32} (ht : t.eval args s none [] s = some (.ref x)) (hc : s.heap[x]? = some c) (h : (Jvm.Cond.eq (.length t) (.int n)).value args s none s [] = some true) : c.slots.size < 2 ^ 31 ∧ c.slots.size.toInt32 = n := by
  have e := own_eqv h (v := .int n) rfl
  simp only [Term.eval, ht, Option.bind_eq_bind, Option.bind_some] at e
  cases hq : s.arrayAt? x with
  | none => simp [hq] at e
  | some c' =>
    have h1 := (State.arrayAt?_spec hq).1
    cases hc.symm.trans h1
    simp only [hq, Option.bind_some] at e
    split at e
    · rename_i hl; exact ⟨hl, by simpa using e⟩
    · cases e
theorem own_elem {args : Array Value} {s : State} {t b : Term} {x : Addr} {c : Cell} {j : Int32} {v : Value} (ht : t.eval args s none [] s = some (.ref x)) (hc : s.heap[x]? = some c) (h : (Jvm.Cond.eq (.elem t (.int j)) b).value args s none s [] = some true) (hb : b.eval args s none [] s = some v) : c.slots[j.toNatClampNeg]? = some v :=
  (elem_in (own_eqv h hb) ht rfl hc).2
theorem own_selpriv {y : MethodName} {s : State} {args : Array Value} {n : Nat} (hy : y.cls ≠ "java/lang/invoke/MethodHandle" ∧ y.cls ≠ "java/lang/invoke/VarHandle") (hins : (Jvm.Cond.instantiable y.cls n).before args s = true) (hpriv : (Jvm.Cond.privateMethod y).before args s = true) (hinst : (Jvm.Cond.instanceMethod y).before args s = true) : (Jvm.Cond.selects y.cls y y).before args s = true := by
  obtain ⟨c, k, hc, hk, -, hniab, -, -⟩ := Cond.instantiable_spec hins
  exact Stand.selects_self_of_private hc hk (Bool.or_eq_false_iff.mp hniab).1 (Cond.privateMethod_at hpriv) hinst hy
theorem own_ext {h0 h : Heap} (K : Keep h0 h []) : Ext h0 h := ⟨K.1, fun x c q => K.2.1 x c q (fun z => nomatch z)⟩
theorem own_cat1 {v : Value} (h : v.isRef = true) : v.category = 1 := by cases v <;> first | rfl | simp [Value.isRef] at h
theorem own_narref {t : FieldType} {v : Value} (h : t.isReference = true) (hv : v.isRef = true) : narrow t v = v := by
  cases v <;> first | (simp [Value.isRef] at hv; done) | (cases t <;> first | rfl | simp [FieldType.isReference] at h)
theorem own_store1 {l : Array Slot} {i : Nat} {v : Value} {o : Slot} (hold : l[i]? = some o) (ho : o = .unset ∨ ∃ w, o = .val w ∧ w.category = 1) (hv : v.category = 1) : storeLocals l i v = some (l.setIfInBounds i (.val v)) := XS.store1 hold ho hv
def own_Base (Z : State) (u : Nat → Addr) : Prop :=
  (Sta Z Z.heap "com/example/portcullis/portcullis/giop/GiopVersion" "VERSIONS" "[Lcom/example/portcullis/portcullis/giop/GiopVersion;" (.ref (u 0))) ∧
  (Sta Z Z.heap "com/example/portcullis/portcullis/giop/GiopVersion" "V1_0" "Lcom/example/portcullis/portcullis/giop/GiopVersion;" (.ref (u 1))) ∧
  (Exa Z Z.heap (u 1) "com/example/portcullis/portcullis/giop/GiopVersion") ∧
  (Sta Z Z.heap "com/example/portcullis/portcullis/giop/GiopVersion" "V1_1" "Lcom/example/portcullis/portcullis/giop/GiopVersion;" (.ref (u 2))) ∧
  (Exa Z Z.heap (u 2) "com/example/portcullis/portcullis/giop/GiopVersion") ∧
  (Sta Z Z.heap "com/example/portcullis/portcullis/giop/GiopVersion" "V1_2" "Lcom/example/portcullis/portcullis/giop/GiopVersion;" (.ref (u 3))) ∧
  (Exa Z Z.heap (u 3) "com/example/portcullis/portcullis/giop/GiopVersion") ∧
  (Sta Z Z.heap "com/example/portcullis/portcullis/giop/GiopVersion" "V1_3" "Lcom/example/portcullis/portcullis/giop/GiopVersion;" (.ref (u 4))) ∧
  (Exa Z Z.heap (u 4) "com/example/portcullis/portcullis/giop/GiopVersion") ∧
  (∃ k, Arv Z Z.heap (u 0) k (.object "com/example/portcullis/portcullis/giop/GiopVersion") (4 : Int32) [.ref (u 1), .ref (u 2), .ref (u 3), .ref (u 4)] .null) ∧
  (Fld Z Z.heap (u 1) "com/example/portcullis/portcullis/giop/GiopVersion" "major" "I" (.int (1 : Int32))) ∧
  (Fld Z Z.heap (u 1) "com/example/portcullis/portcullis/giop/GiopVersion" "minor" "I" (.int (0 : Int32))) ∧
  (Fld Z Z.heap (u 2) "com/example/portcullis/portcullis/giop/GiopVersion" "major" "I" (.int (1 : Int32))) ∧
  (Fld Z Z.heap (u 2) "com/example/portcullis/portcullis/giop/GiopVersion" "minor" "I" (.int (1 : Int32))) ∧
  (Fld Z Z.heap (u 3) "com/example/portcullis/portcullis/giop/GiopVersion" "major" "I" (.int (1 : Int32))) ∧
  (Fld Z Z.heap (u 3) "com/example/portcullis/portcullis/giop/GiopVersion" "minor" "I" (.int (2 : Int32))) ∧
  (Fld Z Z.heap (u 4) "com/example/portcullis/portcullis/giop/GiopVersion" "major" "I" (.int (1 : Int32))) ∧
  (Fld Z Z.heap (u 4) "com/example/portcullis/portcullis/giop/GiopVersion" "minor" "I" (.int (3 : Int32)))
theorem own_pd0 : parseMethodDescriptor "(II)Lcom/example/portcullis/portcullis/giop/GiopVersion;" = some ⟨[.int, .int], some (.object "com/example/portcullis/portcullis/giop/GiopVersion")⟩ := by decide +kernel
theorem d2_0 : decode method_2_code 0 = .ok (.iload_n 0, 1) := by decide +kernel
theorem d2_1 : decode method_2_code 1 = .ok (.iconst 1, 1) := by decide +kernel
theorem d2_2 : decode method_2_code 2 = .ok (.if_icmp .eq 5, 3) := by decide +kernel
theorem d2_5 : decode method_2_code 5 = .ok (.aconst_null, 1) := by decide +kernel
theorem d2_6 : decode method_2_code 6 = .ok (.areturn, 1) := by decide +kernel
theorem d2_7 : decode method_2_code 7 = .ok (.iload_n 1, 1) := by decide +kernel
theorem d2_8 : decode method_2_code 8 = .ok (.ifCond .ne 7, 3) := by decide +kernel
theorem d2_11 : decode method_2_code 11 = .ok (.getstatic 7, 3) := by decide +kernel
theorem d2_14 : decode method_2_code 14 = .ok (.areturn, 1) := by decide +kernel
theorem d2_15 : decode method_2_code 15 = .ok (.iload_n 1, 1) := by decide +kernel
theorem d2_16 : decode method_2_code 16 = .ok (.iconst 1, 1) := by decide +kernel
theorem d2_17 : decode method_2_code 17 = .ok (.if_icmp .ne 7, 3) := by decide +kernel
theorem d2_20 : decode method_2_code 20 = .ok (.getstatic 13, 3) := by decide +kernel
theorem d2_23 : decode method_2_code 23 = .ok (.areturn, 1) := by decide +kernel
theorem d2_24 : decode method_2_code 24 = .ok (.iload_n 1, 1) := by decide +kernel
theorem d2_25 : decode method_2_code 25 = .ok (.iconst 2, 1) := by decide +kernel
theorem d2_26 : decode method_2_code 26 = .ok (.if_icmp .ne 7, 3) := by decide +kernel
theorem d2_29 : decode method_2_code 29 = .ok (.getstatic 16, 3) := by decide +kernel
theorem d2_32 : decode method_2_code 32 = .ok (.areturn, 1) := by decide +kernel
theorem d2_33 : decode method_2_code 33 = .ok (.iload_n 1, 1) := by decide +kernel
theorem d2_34 : decode method_2_code 34 = .ok (.iconst 3, 1) := by decide +kernel
theorem d2_35 : decode method_2_code 35 = .ok (.if_icmp .ne 7, 3) := by decide +kernel
theorem d2_38 : decode method_2_code 38 = .ok (.getstatic 19, 3) := by decide +kernel
theorem d2_41 : decode method_2_code 41 = .ok (.areturn, 1) := by decide +kernel
theorem d2_42 : decode method_2_code 42 = .ok (.aconst_null, 1) := by decide +kernel
theorem d2_43 : decode method_2_code 43 = .ok (.areturn, 1) := by decide +kernel
theorem own_pn_2 : plainName "com/example/portcullis/portcullis/giop/GiopVersionOfPinLaw" = true := by first | (simp [plainName, overriddenIn]; done) | decide +kernel
theorem own_ef_2 (m : MethodId) (x0 : Int32) (x1 : Int32) : entryFrame m #[(.int x0), (.int x1)] 2 = mkF m 0 #[.val (.int x0), .val (.int x1)] [] := by first | (simp [entryFrame, mkF, argsToLocals, Value.category]; done) | rfl
def own_r2 (u : Nat → Addr) (p0 : Int32) (p1 : Int32) : Value :=
  if p0 = (1 : Int32) then
    if p1 = (0 : Int32) then
      (.ref (u 1))
    else
      if p1 = (1 : Int32) then
        (.ref (u 2))
      else
        if p1 = (2 : Int32) then
          (.ref (u 3))
        else
          if p1 = (3 : Int32) then
            (.ref (u 4))
          else
            .null
  else
    .null
theorem own_r2_ref {u : Nat → Addr} {p0 : Int32} {p1 : Int32} : (own_r2 u p0 p1).isRef = true := by
  unfold own_r2
  repeat' split
  all_goals rfl
def own_Q2 (Z : State) (u : Nat → Addr) (p0 : Int32) (p1 : Int32) (h0 : Heap) (n0 : Nat) (v : Option Value) (h : Heap) (L : List Loc) : Prop := v = some (own_r2 u p0 p1) ∧ Fr n0 L ∧ h = h0
set_option maxRecDepth 65536 in
set_option maxHeartbeats 40000000 in
theorem rm2 (l : Launch) (Z : State) (a0 : Array Value) (hw : ∀ d ∈ tables_1, d.before a0 Z = true) (ws : List Jvm.Cond) (u : Nat → Addr) (p0 : Int32) (p1 : Int32) (B : own_Base Z u) (h0 : Heap) (n0 : Nat) (O : Old Z n0 h0) :
    MetFree l (⟨"com/example/portcullis/portcullis/giop/GiopVersionOfPinLaw", "expected", "(II)Lcom/example/portcullis/portcullis/giop/GiopVersion;"⟩ : MethodName) (head1 (Jvm.Cond.code (⟨"com/example/portcullis/portcullis/giop/GiopVersionOfPinLaw", "expected", "(II)Lcom/example/portcullis/portcullis/giop/GiopVersion;"⟩ : MethodName) method_2_code 2 (some (.object "com/example/portcullis/portcullis/giop/GiopVersion")) :: ws) ({ frames := 0, cells := 0, slots := 0, locals := 0 } : Room)) (fun a U => a = #[(.int p0), (.int p1)] ∧ Z.Warmed39 U.vm ∧ U.heap = h0) (fun _ _ _ _ _ => True) (fun _ U o U' => ∃ v L, o = .returned v ∧ own_Q2 Z u p0 p1 h0 n0 v U'.heap L ∧ FrameEnd U o U' L ({ frames := 0, cells := 0, slots := 0, locals := 0 } : Room).cells ({ frames := 0, cells := 0, slots := 0, locals := 0 } : Room).slots) := by
  refine MetFree.of_bodySF (plainFor_of_name own_pn_2) hisR ?_
  intro p e s m args below meth c s₁ Bd hml0 hP hK
  obtain ⟨rfl, hZ, hh⟩ := hP
  have hx := Bd.exec
  have hby := Bd.bytes
  have hml : c.maxLocals = 2 := hml0
  have hown : s.vm.findClass "com/example/portcullis/portcullis/giop/GiopVersionOfPinLaw" = some m.cls := findClass_of_methodNamed Bd.named
  have hnm := (name_of_methodNamed Bd.named Bd.method).1
  have X0 : Stand p l e ({ frames := 0, cells := 0, slots := 0, locals := 0 } : Room) s m #[(.int p0), (.int p1)] below meth c s₁ [] 0 0 := Stand.of_body Bd
  have e0 : s₁.heap = h0 := by rw [← hh, Bd.state]; rfl
  have N0 := Fr.nil n0
  have K0 := Keep.refl h0 []
  have Z0 : n0 ≤ h0.size := O.1 ▸ O.2.1
  have pre0 : ∀ t, Steps p.tables e below (s₁.setTop (mkF m 0 #[.val (.int p0), .val (.int p1)] [])) t → Steps p.tables e below (s₁.setTop (entryFrame m #[(.int p0), (.int p1)] 2)) t := fun t k => castTop (own_ef_2 m p0 p1) k
  have pre1 : ∀ t, Steps p.tables e below (s₁.setTop (mkF m 2 #[.val (.int p0), .val (.int p1)] [(.int (1 : Int32)), (.int p0)])) t → Steps p.tables e below (s₁.setTop (entryFrame m #[(.int p0), (.int p1)] 2)) t := fun t kt => pre0 t (by
    show Steps p.tables e below (s₁.setTop (mkF m 0 #[.val (.int p0), .val (.int p1)] [])) _
    refine XS.iloadN X0.here hx rfl (hb hby d2_0) rfl ?_
    show Steps p.tables e below (s₁.setTop (mkF m 1 #[.val (.int p0), .val (.int p1)] [(.int p0)])) _
    refine XS.iconst X0.here hx rfl (hb hby d2_1) ?_
    exact kt)
  by_cases hc2 : p0 = (1 : Int32)
  · --
    have pre3 : ∀ t, Steps p.tables e below (s₁.setTop (mkF m 8 #[.val (.int p0), .val (.int p1)] [(.int p1)])) t → Steps p.tables e below (s₁.setTop (entryFrame m #[(.int p0), (.int p1)] 2)) t := fun t kt => pre1 t (by
      show Steps p.tables e below (s₁.setTop (mkF m 2 #[.val (.int p0), .val (.int p1)] [(.int (1 : Int32)), (.int p0)])) _
      refine XS.icmpYes X0.here hx rfl (pc0 := 2) (pc' := 7) rfl (hb hby d2_2) rfl (teq hc2).1 (by decide) (by decide) ?_
      show Steps p.tables e below (s₁.setTop (mkF m 7 #[.val (.int p0), .val (.int p1)] [])) _
      refine XS.iloadN X0.here hx rfl (hb hby d2_7) rfl ?_
      exact kt)
    by_cases hc4 : p1 = (0 : Int32)
    · --
      obtain ⟨T5, X5, e5, st5⟩ := getS2 X0 hx hZ hown (host := "") (Or.inl (hw _ (List.mem_of_getElem? (i := 21) rfl))) Via.refl e0 (B.2.1.ext O.2) (g := (mkF m 11 #[.val (.int p0), .val (.int p1)] [])) rfl (hb hby d2_11)
      obtain ⟨fs, hr, hrun, hended, hW, hsame⟩ := X5.leave (v := some (.ref (u 1))) (fun h => by rw [Bd.returns] at h; cases h)
      refine ⟨_, _, pre3 _ ?_, hrun, hended, _, _, rfl, ?_, ⟨_, rfl⟩, hW, hsame.mono (by decide) (by decide)⟩
      · show Steps p.tables e below (s₁.setTop (mkF m 8 #[.val (.int p0), .val (.int p1)] [(.int p1)])) _
        refine XS.ifNo X0.here hx rfl (hb hby d2_8) rfl ((if0 _ _).trans (teq hc4).2) ?_
        show Steps p.tables e below (s₁.setTop (mkF m 11 #[.val (.int p0), .val (.int p1)] [])) _
        refine st5 _ ?_
        show Steps p.tables e below (T5.setTop (mkF m 14 #[.val (.int p0), .val (.int p1)] [(.ref (u 1))])) _
        exact retOut X5 hx Bd.returns (own_narref rfl rfl) (Or.inr (Or.inr (Or.inr (Or.inr ⟨rfl, rfl, rfl⟩)))) (hb hby d2_14) hr
      · show own_Q2 Z u p0 p1 h0 n0 _ T5.heap _
        rw [e5]
        exact ⟨(by unfold own_r2; rw [if_pos hc2, if_pos hc4]), N0, rfl⟩
    · --
      have pre7 : ∀ t, Steps p.tables e below (s₁.setTop (mkF m 17 #[.val (.int p0), .val (.int p1)] [(.int (1 : Int32)), (.int p1)])) t → Steps p.tables e below (s₁.setTop (entryFrame m #[(.int p0), (.int p1)] 2)) t := fun t kt => pre3 t (by
        show Steps p.tables e below (s₁.setTop (mkF m 8 #[.val (.int p0), .val (.int p1)] [(.int p1)])) _
        refine XS.ifYes X0.here hx rfl (pc0 := 8) (pc' := 15) rfl (hb hby d2_8) rfl ((if0 _ _).trans (feq hc4).2) (by decide) (by decide) ?_
        show Steps p.tables e below (s₁.setTop (mkF m 15 #[.val (.int p0), .val (.int p1)] [])) _
        refine XS.iloadN X0.here hx rfl (hb hby d2_15) rfl ?_
        show Steps p.tables e below (s₁.setTop (mkF m 16 #[.val (.int p0), .val (.int p1)] [(.int p1)])) _
        refine XS.iconst X0.here hx rfl (hb hby d2_16) ?_
        exact kt)
      by_cases hc8 : p1 = (1 : Int32)
      · --
        obtain ⟨T9, X9, e9, st9⟩ := getS2 X0 hx hZ hown (host := "") (Or.inl (hw _ (List.mem_of_getElem? (i := 20) rfl))) Via.refl e0 (B.2.2.2.1.ext O.2) (g := (mkF m 20 #[.val (.int p0), .val (.int p1)] [])) rfl (hb hby d2_20)
        obtain ⟨fs, hr, hrun, hended, hW, hsame⟩ := X9.leave (v := some (.ref (u 2))) (fun h => by rw [Bd.returns] at h; cases h)
        refine ⟨_, _, pre7 _ ?_, hrun, hended, _, _, rfl, ?_, ⟨_, rfl⟩, hW, hsame.mono (by decide) (by decide)⟩
        · show Steps p.tables e below (s₁.setTop (mkF m 17 #[.val (.int p0), .val (.int p1)] [(.int (1 : Int32)), (.int p1)])) _
          refine XS.icmpNo X0.here hx rfl (hb hby d2_17) rfl (teq hc8).2 ?_
          show Steps p.tables e below (s₁.setTop (mkF m 20 #[.val (.int p0), .val (.int p1)] [])) _
          refine st9 _ ?_
          show Steps p.tables e below (T9.setTop (mkF m 23 #[.val (.int p0), .val (.int p1)] [(.ref (u 2))])) _
          exact retOut X9 hx Bd.returns (own_narref rfl rfl) (Or.inr (Or.inr (Or.inr (Or.inr ⟨rfl, rfl, rfl⟩)))) (hb hby d2_23) hr
        · show own_Q2 Z u p0 p1 h0 n0 _ T9.heap _
          rw [e9]
          exact ⟨(by unfold own_r2; rw [if_pos hc2, if_neg hc4, if_pos hc8]), N0, rfl⟩
      · --
        have pre11 : ∀ t, Steps p.tables e below (s₁.setTop (mkF m 26 #[.val (.int p0), .val (.int p1)] [(.int (2 : Int32)), (.int p1)])) t → Steps p.tables e below (s₁.setTop (entryFrame m #[(.int p0), (.int p1)] 2)) t := fun t kt => pre7 t (by
          show Steps p.tables e below (s₁.setTop (mkF m 17 #[.val (.int p0), .val (.int p1)] [(.int (1 : Int32)), (.int p1)])) _
          refine XS.icmpYes X0.here hx rfl (pc0 := 17) (pc' := 24) rfl (hb hby d2_17) rfl (feq hc8).2 (by decide) (by decide) ?_
          show Steps p.tables e below (s₁.setTop (mkF m 24 #[.val (.int p0), .val (.int p1)] [])) _
          refine XS.iloadN X0.here hx rfl (hb hby d2_24) rfl ?_
          show Steps p.tables e below (s₁.setTop (mkF m 25 #[.val (.int p0), .val (.int p1)] [(.int p1)])) _
          refine XS.iconst X0.here hx rfl (hb hby d2_25) ?_
          exact kt)
        by_cases hc12 : p1 = (2 : Int32)
        · --
          obtain ⟨T13, X13, e13, st13⟩ := getS2 X0 hx hZ hown (host := "") (Or.inl (hw _ (List.mem_of_getElem? (i := 18) rfl))) Via.refl e0 (B.2.2.2.2.2.1.ext O.2) (g := (mkF m 29 #[.val (.int p0), .val (.int p1)] [])) rfl (hb hby d2_29)
          obtain ⟨fs, hr, hrun, hended, hW, hsame⟩ := X13.leave (v := some (.ref (u 3))) (fun h => by rw [Bd.returns] at h; cases h)
          refine ⟨_, _, pre11 _ ?_, hrun, hended, _, _, rfl, ?_, ⟨_, rfl⟩, hW, hsame.mono (by decide) (by decide)⟩
          · show Steps p.tables e below (s₁.setTop (mkF m 26 #[.val (.int p0), .val (.int p1)] [(.int (2 : Int32)), (.int p1)])) _
            refine XS.icmpNo X0.here hx rfl (hb hby d2_26) rfl (teq hc12).2 ?_
            show Steps p.tables e below (s₁.setTop (mkF m 29 #[.val (.int p0), .val (.int p1)] [])) _
            refine st13 _ ?_
            show Steps p.tables e below (T13.setTop (mkF m 32 #[.val (.int p0), .val (.int p1)] [(.ref (u 3))])) _
            exact retOut X13 hx Bd.returns (own_narref rfl rfl) (Or.inr (Or.inr (Or.inr (Or.inr ⟨rfl, rfl, rfl⟩)))) (hb hby d2_32) hr
          · show own_Q2 Z u p0 p1 h0 n0 _ T13.heap _
            rw [e13]
            exact ⟨(by unfold own_r2; rw [if_pos hc2, if_neg hc4, if_neg hc8, if_pos hc12]), N0, rfl⟩
        · --
          have pre15 : ∀ t, Steps p.tables e below (s₁.setTop (mkF m 35 #[.val (.int p0), .val (.int p1)] [(.int (3 : Int32)), (.int p1)])) t → Steps p.tables e below (s₁.setTop (entryFrame m #[(.int p0), (.int p1)] 2)) t := fun t kt => pre11 t (by
            show Steps p.tables e below (s₁.setTop (mkF m 26 #[.val (.int p0), .val (.int p1)] [(.int (2 : Int32)), (.int p1)])) _
            refine XS.icmpYes X0.here hx rfl (pc0 := 26) (pc' := 33) rfl (hb hby d2_26) rfl (feq hc12).2 (by decide) (by decide) ?_
            show Steps p.tables e below (s₁.setTop (mkF m 33 #[.val (.int p0), .val (.int p1)] [])) _
            refine XS.iloadN X0.here hx rfl (hb hby d2_33) rfl ?_
            show Steps p.tables e below (s₁.setTop (mkF m 34 #[.val (.int p0), .val (.int p1)] [(.int p1)])) _
            refine XS.iconst X0.here hx rfl (hb hby d2_34) ?_
            exact kt)
          by_cases hc16 : p1 = (3 : Int32)
          · --
            obtain ⟨T17, X17, e17, st17⟩ := getS2 X0 hx hZ hown (host := "") (Or.inl (hw _ (List.mem_of_getElem? (i := 19) rfl))) Via.refl e0 (B.2.2.2.2.2.2.2.1.ext O.2) (g := (mkF m 38 #[.val (.int p0), .val (.int p1)] [])) rfl (hb hby d2_38)
            obtain ⟨fs, hr, hrun, hended, hW, hsame⟩ := X17.leave (v := some (.ref (u 4))) (fun h => by rw [Bd.returns] at h; cases h)
            refine ⟨_, _, pre15 _ ?_, hrun, hended, _, _, rfl, ?_, ⟨_, rfl⟩, hW, hsame.mono (by decide) (by decide)⟩
            · show Steps p.tables e below (s₁.setTop (mkF m 35 #[.val (.int p0), .val (.int p1)] [(.int (3 : Int32)), (.int p1)])) _
              refine XS.icmpNo X0.here hx rfl (hb hby d2_35) rfl (teq hc16).2 ?_
              show Steps p.tables e below (s₁.setTop (mkF m 38 #[.val (.int p0), .val (.int p1)] [])) _
              refine st17 _ ?_
              show Steps p.tables e below (T17.setTop (mkF m 41 #[.val (.int p0), .val (.int p1)] [(.ref (u 4))])) _
              exact retOut X17 hx Bd.returns (own_narref rfl rfl) (Or.inr (Or.inr (Or.inr (Or.inr ⟨rfl, rfl, rfl⟩)))) (hb hby d2_41) hr
            · show own_Q2 Z u p0 p1 h0 n0 _ T17.heap _
              rw [e17]
              exact ⟨(by unfold own_r2; rw [if_pos hc2, if_neg hc4, if_neg hc8, if_neg hc12, if_pos hc16]), N0, rfl⟩
          · --
            obtain ⟨fs, hr, hrun, hended, hW, hsame⟩ := X0.leave (v := some .null) (fun h => by rw [Bd.returns] at h; cases h)
            refine ⟨_, _, pre15 _ ?_, hrun, hended, _, _, rfl, ?_, ⟨_, rfl⟩, hW, hsame.mono (by decide) (by decide)⟩
            · show Steps p.tables e below (s₁.setTop (mkF m 35 #[.val (.int p0), .val (.int p1)] [(.int (3 : Int32)), (.int p1)])) _
              refine XS.icmpYes X0.here hx rfl (pc0 := 35) (pc' := 42) rfl (hb hby d2_35) rfl (feq hc16).2 (by decide) (by decide) ?_
              show Steps p.tables e below (s₁.setTop (mkF m 42 #[.val (.int p0), .val (.int p1)] [])) _
              refine XS.aconstNull X0.here hx rfl (hb hby d2_42) ?_
              show Steps p.tables e below (s₁.setTop (mkF m 43 #[.val (.int p0), .val (.int p1)] [.null])) _
              exact retOut X0 hx Bd.returns (own_narref rfl rfl) (Or.inr (Or.inr (Or.inr (Or.inr ⟨rfl, rfl, rfl⟩)))) (hb hby d2_43) hr
            · show own_Q2 Z u p0 p1 h0 n0 _ s₁.heap _
              rw [e0]
              exact ⟨(by unfold own_r2; rw [if_pos hc2, if_neg hc4, if_neg hc8, if_neg hc12, if_neg hc16]), N0, rfl⟩
  · --
    obtain ⟨fs, hr, hrun, hended, hW, hsame⟩ := X0.leave (v := some .null) (fun h => by rw [Bd.returns] at h; cases h)
    refine ⟨_, _, pre1 _ ?_, hrun, hended, _, _, rfl, ?_, ⟨_, rfl⟩, hW, hsame.mono (by decide) (by decide)⟩
    · show Steps p.tables e below (s₁.setTop (mkF m 2 #[.val (.int p0), .val (.int p1)] [(.int (1 : Int32)), (.int p0)])) _
      refine XS.icmpNo X0.here hx rfl (hb hby d2_2) rfl (feq hc2).1 ?_
      show Steps p.tables e below (s₁.setTop (mkF m 5 #[.val (.int p0), .val (.int p1)] [])) _
      refine XS.aconstNull X0.here hx rfl (hb hby d2_5) ?_
      show Steps p.tables e below (s₁.setTop (mkF m 6 #[.val (.int p0), .val (.int p1)] [.null])) _
      exact retOut X0 hx Bd.returns (own_narref rfl rfl) (Or.inr (Or.inr (Or.inr (Or.inr ⟨rfl, rfl, rfl⟩)))) (hb hby d2_6) hr
    · show own_Q2 Z u p0 p1 h0 n0 _ s₁.heap _
      rw [e0]
      exact ⟨(by unfold own_r2; rw [if_neg hc2]), N0, rfl⟩
theorem d1_0 : decode prog_12_method_7_code 0 = .ok (.getstatic 54, 3) := by decide +kernel
theorem d1_3 : decode prog_12_method_7_code 3 = .ok (.astore_n 2, 1) := by decide +kernel
theorem d1_4 : decode prog_12_method_7_code 4 = .ok (.aload_n 2, 1) := by decide +kernel
theorem d1_5 : decode prog_12_method_7_code 5 = .ok (.arraylength, 1) := by decide +kernel
theorem d1_6 : decode prog_12_method_7_code 6 = .ok (.istore_n 3, 1) := by decide +kernel
theorem d1_7 : decode prog_12_method_7_code 7 = .ok (.iconst 0, 1) := by decide +kernel
theorem d1_8 : decode prog_12_method_7_code 8 = .ok (.istore 4, 2) := by decide +kernel
theorem d1_10 : decode prog_12_method_7_code 10 = .ok (.iload 4, 2) := by decide +kernel
theorem d1_12 : decode prog_12_method_7_code 12 = .ok (.iload_n 3, 1) := by decide +kernel
theorem d1_13 : decode prog_12_method_7_code 13 = .ok (.if_icmp .ge 36, 3) := by decide +kernel
theorem d1_16 : decode prog_12_method_7_code 16 = .ok (.aload_n 2, 1) := by decide +kernel
theorem d1_17 : decode prog_12_method_7_code 17 = .ok (.iload 4, 2) := by decide +kernel
theorem d1_19 : decode prog_12_method_7_code 19 = .ok (.aaload, 1) := by decide +kernel
theorem d1_20 : decode prog_12_method_7_code 20 = .ok (.astore 5, 2) := by decide +kernel
theorem d1_22 : decode prog_12_method_7_code 22 = .ok (.aload 5, 2) := by decide +kernel
theorem d1_24 : decode prog_12_method_7_code 24 = .ok (.getfield 35, 3) := by decide +kernel
theorem d1_27 : decode prog_12_method_7_code 27 = .ok (.iload_n 0, 1) := by decide +kernel
theorem d1_28 : decode prog_12_method_7_code 28 = .ok (.if_icmp .ne 15, 3) := by decide +kernel
theorem d1_31 : decode prog_12_method_7_code 31 = .ok (.aload 5, 2) := by decide +kernel
theorem d1_33 : decode prog_12_method_7_code 33 = .ok (.getfield 39, 3) := by decide +kernel
theorem d1_36 : decode prog_12_method_7_code 36 = .ok (.iload_n 1, 1) := by decide +kernel
theorem d1_37 : decode prog_12_method_7_code 37 = .ok (.if_icmp .ne 6, 3) := by decide +kernel
theorem d1_40 : decode prog_12_method_7_code 40 = .ok (.aload 5, 2) := by decide +kernel
theorem d1_42 : decode prog_12_method_7_code 42 = .ok (.areturn, 1) := by decide +kernel
theorem d1_43 : decode prog_12_method_7_code 43 = .ok (.iinc 4 1, 3) := by decide +kernel
theorem d1_46 : decode prog_12_method_7_code 46 = .ok (.goto (-36), 3) := by decide +kernel
theorem d1_49 : decode prog_12_method_7_code 49 = .ok (.aconst_null, 1) := by decide +kernel
theorem d1_50 : decode prog_12_method_7_code 50 = .ok (.areturn, 1) := by decide +kernel
theorem own_pn_1 : plainName "com/example/portcullis/portcullis/giop/GiopVersion" = true := by first | (simp [plainName, overriddenIn]; done) | decide +kernel
theorem own_ef_1 (m : MethodId) (x0 : Int32) (x1 : Int32) : entryFrame m #[(.int x0), (.int x1)] 6 = mkF m 0 #[.val (.int x0), .val (.int x1), .unset, .unset, .unset, .unset] [] := by first | (simp [entryFrame, mkF, argsToLocals, Value.category]; done) | rfl
def own_r1 (u : Nat → Addr) (p0 : Int32) (p1 : Int32) : Value :=
  if (1 : Int32) = p0 then
    if (0 : Int32) = p1 then
      (.ref (u 1))
    else
      if (1 : Int32) = p1 then
        (.ref (u 2))
      else
        if (2 : Int32) = p1 then
          (.ref (u 3))
        else
          if (3 : Int32) = p1 then
            (.ref (u 4))
          else
            .null
  else
    .null
theorem own_r1_ref {u : Nat → Addr} {p0 : Int32} {p1 : Int32} : (own_r1 u p0 p1).isRef = true := by
  unfold own_r1
  repeat' split
  all_goals rfl
def own_Q1 (Z : State) (u : Nat → Addr) (p0 : Int32) (p1 : Int32) (h0 : Heap) (n0 : Nat) (v : Option Value) (h : Heap) (L : List Loc) : Prop := v = some (own_r1 u p0 p1) ∧ Fr n0 L ∧ h = h0
set_option maxRecDepth 65536 in
set_option maxHeartbeats 40000000 in
theorem rm1 (l : Launch) (Z : State) (a0 : Array Value) (hw : ∀ d ∈ tables_1, d.before a0 Z = true) (ws : List Jvm.Cond) (u : Nat → Addr) (p0 : Int32) (p1 : Int32) (B : own_Base Z u) (h0 : Heap) (n0 : Nat) (O : Old Z n0 h0) :
    MetFree l (⟨"com/example/portcullis/portcullis/giop/GiopVersion", "of", "(II)Lcom/example/portcullis/portcullis/giop/GiopVersion;"⟩ : MethodName) (head1 (Jvm.Cond.code (⟨"com/example/portcullis/portcullis/giop/GiopVersion", "of", "(II)Lcom/example/portcullis/portcullis/giop/GiopVersion;"⟩ : MethodName) prog_12_method_7_code 6 (some (.object "com/example/portcullis/portcullis/giop/GiopVersion")) :: ws) ({ frames := 0, cells := 0, slots := 0, locals := 0 } : Room)) (fun a U => a = #[(.int p0), (.int p1)] ∧ Z.Warmed39 U.vm ∧ U.heap = h0) (fun _ _ _ _ _ => True) (fun _ U o U' => ∃ v L, o = .returned v ∧ own_Q1 Z u p0 p1 h0 n0 v U'.heap L ∧ FrameEnd U o U' L ({ frames := 0, cells := 0, slots := 0, locals := 0 } : Room).cells ({ frames := 0, cells := 0, slots := 0, locals := 0 } : Room).slots) := by
  refine MetFree.of_bodySF (plainFor_of_name own_pn_1) hisR ?_
  intro p e s m args below meth c s₁ Bd hml0 hP hK
  obtain ⟨rfl, hZ, hh⟩ := hP
  have hx := Bd.exec
  have hby := Bd.bytes
  have hml : c.maxLocals = 6 := hml0
  have hown : s.vm.findClass "com/example/portcullis/portcullis/giop/GiopVersion" = some m.cls := findClass_of_methodNamed Bd.named
  have hnm := (name_of_methodNamed Bd.named Bd.method).1
  have X0 : Stand p l e ({ frames := 0, cells := 0, slots := 0, locals := 0 } : Room) s m #[(.int p0), (.int p1)] below meth c s₁ [] 0 0 := Stand.of_body Bd
  have e0 : s₁.heap = h0 := by rw [← hh, Bd.state]; rfl
  have N0 := Fr.nil n0
  have K0 := Keep.refl h0 []
  have Z0 : n0 ≤ h0.size := O.1 ▸ O.2.1
  have pre0 : ∀ t, Steps p.tables e below (s₁.setTop (mkF m 0 #[.val (.int p0), .val (.int p1), .unset, .unset, .unset, .unset] [])) t → Steps p.tables e below (s₁.setTop (entryFrame m #[(.int p0), (.int p1)] 6)) t := fun t k => castTop (own_ef_1 m p0 p1) k
  obtain ⟨T21, X21, e21, st21⟩ := getS2 X0 hx hZ hown (host := "") (Or.inl (hw _ (List.mem_of_getElem? (i := 4) rfl))) Via.refl e0 (B.1.ext O.2) (g := (mkF m 0 #[.val (.int p0), .val (.int p1), .unset, .unset, .unset, .unset] [])) rfl (hb hby d1_0)
  obtain ⟨kA0, VA0⟩ := id B.2.2.2.2.2.2.2.2.2.1
  obtain ⟨cl22, Ar22, -, S22, N22, -, -⟩ := id (VA0.ext O.2)
  obtain ⟨cl23, Ar23, -, S23, N23, H23, -⟩ := id (VA0.ext O.2)
  have hin23 : ¬ ((0 : Int32) < 0 ∨ cl23.slots.size ≤ ((0 : Int32)).toNatClampNeg) := inb_of S23 ⟨by decide, by decide⟩
  obtain ⟨T24, X24, e24, st24⟩ := getF X21 hx hZ hown (host := "") (Or.inl (hw _ (List.mem_of_getElem? (i := 7) rfl))) Via.refl e21 (B.2.2.2.2.2.2.2.2.2.2.1.ext O.2) (g := (mkF m 24 #[.val (.int p0), .val (.int p1), .val (.ref (u 0)), .val (.int (4 : Int32)), .val (.int (0 : Int32)), .val (.ref (u 1))] [(.ref (u 1))])) rfl rfl (hb hby d1_24)
  have pre25 : ∀ t, Steps p.tables e below (T24.setTop (mkF m 28 #[.val (.int p0), .val (.int p1), .val (.ref (u 0)), .val (.int (4 : Int32)), .val (.int (0 : Int32)), .val (.ref (u 1))] [(.int p0), (.int (1 : Int32))])) t → Steps p.tables e below (s₁.setTop (entryFrame m #[(.int p0), (.int p1)] 6)) t := fun t kt => pre0 t (by
    show Steps p.tables e below (s₁.setTop (mkF m 0 #[.val (.int p0), .val (.int p1), .unset, .unset, .unset, .unset] [])) _
    refine st21 _ ?_
    show Steps p.tables e below (T21.setTop (mkF m 3 #[.val (.int p0), .val (.int p1), .unset, .unset, .unset, .unset] [(.ref (u 0))])) _
    refine XS.astoreN X21.here hx rfl (hb hby d1_3) rfl rfl (l' := #[.val (.int p0), .val (.int p1), .val (.ref (u 0)), .unset, .unset, .unset]) rfl ?_
    show Steps p.tables e below (T21.setTop (mkF m 4 #[.val (.int p0), .val (.int p1), .val (.ref (u 0)), .unset, .unset, .unset] [])) _
    refine XS.aloadN X21.here hx rfl (hb hby d1_4) rfl rfl ?_
    show Steps p.tables e below (T21.setTop (mkF m 5 #[.val (.int p0), .val (.int p1), .val (.ref (u 0)), .unset, .unset, .unset] [(.ref (u 0))])) _
    refine X21.arraylength hx (by rw [e21]; exact Ar22.1) (State.isArrayOf_alike hZ.alike Ar22.2.1) (g := (mkF m 5 #[.val (.int p0), .val (.int p1), .val (.ref (u 0)), .unset, .unset, .unset] [(.ref (u 0))])) rfl rfl (hb hby d1_5) _ ?_
    rw [len_of S22 N22]
    show Steps p.tables e below (T21.setTop (mkF m 6 #[.val (.int p0), .val (.int p1), .val (.ref (u 0)), .unset, .unset, .unset] [(.int (4 : Int32))])) _
    refine XS.istoreN X21.here hx rfl (hb hby d1_6) rfl (l' := #[.val (.int p0), .val (.int p1), .val (.ref (u 0)), .val (.int (4 : Int32)), .unset, .unset]) rfl ?_
    show Steps p.tables e below (T21.setTop (mkF m 7 #[.val (.int p0), .val (.int p1), .val (.ref (u 0)), .val (.int (4 : Int32)), .unset, .unset] [])) _
    refine XS.iconst X21.here hx rfl (hb hby d1_7) ?_
    show Steps p.tables e below (T21.setTop (mkF m 8 #[.val (.int p0), .val (.int p1), .val (.ref (u 0)), .val (.int (4 : Int32)), .unset, .unset] [(.int (0 : Int32))])) _
    refine XS.istore X21.here hx rfl (hb hby d1_8) rfl (l' := #[.val (.int p0), .val (.int p1), .val (.ref (u 0)), .val (.int (4 : Int32)), .val (.int (0 : Int32)), .unset]) rfl ?_
    show Steps p.tables e below (T21.setTop (mkF m 10 #[.val (.int p0), .val (.int p1), .val (.ref (u 0)), .val (.int (4 : Int32)), .val (.int (0 : Int32)), .unset] [])) _
    refine XS.iload X21.here hx rfl (hb hby d1_10) rfl ?_
    show Steps p.tables e below (T21.setTop (mkF m 12 #[.val (.int p0), .val (.int p1), .val (.ref (u 0)), .val (.int (4 : Int32)), .val (.int (0 : Int32)), .unset] [(.int (0 : Int32))])) _
    refine XS.iloadN X21.here hx rfl (hb hby d1_12) rfl ?_
    show Steps p.tables e below (T21.setTop (mkF m 13 #[.val (.int p0), .val (.int p1), .val (.ref (u 0)), .val (.int (4 : Int32)), .val (.int (0 : Int32)), .unset] [(.int (4 : Int32)), (.int (0 : Int32))])) _
    refine XS.icmpNo X21.here hx rfl (hb hby d1_13) rfl (tlt (by decide : (0 : Int32) < (4 : Int32))).2.1 ?_
    show Steps p.tables e below (T21.setTop (mkF m 16 #[.val (.int p0), .val (.int p1), .val (.ref (u 0)), .val (.int (4 : Int32)), .val (.int (0 : Int32)), .unset] [])) _
    refine XS.aloadN X21.here hx rfl (hb hby d1_16) rfl rfl ?_
    show Steps p.tables e below (T21.setTop (mkF m 17 #[.val (.int p0), .val (.int p1), .val (.ref (u 0)), .val (.int (4 : Int32)), .val (.int (0 : Int32)), .unset] [(.ref (u 0))])) _
    refine XS.iload X21.here hx rfl (hb hby d1_17) rfl ?_
    show Steps p.tables e below (T21.setTop (mkF m 19 #[.val (.int p0), .val (.int p1), .val (.ref (u 0)), .val (.int (4 : Int32)), .val (.int (0 : Int32)), .unset] [(.int (0 : Int32)), (.ref (u 0))])) _
    refine X21.aaload hx (j := (0 : Int32)) (v := (.ref (u 1))) (by rw [e21]; exact Ar23.1) (State.isArrayOf_alike hZ.alike Ar23.2.1) rfl Ar23.2.2 hin23 (H23.at hin23 rfl) (g := (mkF m 19 #[.val (.int p0), .val (.int p1), .val (.ref (u 0)), .val (.int (4 : Int32)), .val (.int (0 : Int32)), .unset] [(.int (0 : Int32)), (.ref (u 0))])) rfl rfl (hb hby d1_19) _ ?_
    show Steps p.tables e below (T21.setTop (mkF m 20 #[.val (.int p0), .val (.int p1), .val (.ref (u 0)), .val (.int (4 : Int32)), .val (.int (0 : Int32)), .unset] [(.ref (u 1))])) _
    refine XS.astore X21.here hx rfl (hb hby d1_20) rfl rfl (l' := #[.val (.int p0), .val (.int p1), .val (.ref (u 0)), .val (.int (4 : Int32)), .val (.int (0 : Int32)), .val (.ref (u 1))]) rfl ?_
    show Steps p.tables e below (T21.setTop (mkF m 22 #[.val (.int p0), .val (.int p1), .val (.ref (u 0)), .val (.int (4 : Int32)), .val (.int (0 : Int32)), .val (.ref (u 1))] [])) _
    refine XS.aload X21.here hx rfl (hb hby d1_22) rfl rfl ?_
    show Steps p.tables e below (T21.setTop (mkF m 24 #[.val (.int p0), .val (.int p1), .val (.ref (u 0)), .val (.int (4 : Int32)), .val (.int (0 : Int32)), .val (.ref (u 1))] [(.ref (u 1))])) _
    refine st24 _ ?_
    show Steps p.tables e below (T24.setTop (mkF m 27 #[.val (.int p0), .val (.int p1), .val (.ref (u 0)), .val (.int (4 : Int32)), .val (.int (0 : Int32)), .val (.ref (u 1))] [(.int (1 : Int32))])) _
    refine XS.iloadN X24.here hx rfl (hb hby d1_27) rfl ?_
    exact kt)
  by_cases hc26 : (1 : Int32) = p0
  · --
    obtain ⟨T27, X27, e27, st27⟩ := getF X24 hx hZ hown (host := "") (Or.inl (hw _ (List.mem_of_getElem? (i := 16) rfl))) Via.refl e24 (B.2.2.2.2.2.2.2.2.2.2.2.1.ext O.2) (g := (mkF m 33 #[.val (.int p0), .val (.int p1), .val (.ref (u 0)), .val (.int (4 : Int32)), .val (.int (0 : Int32)), .val (.ref (u 1))] [(.ref (u 1))])) rfl rfl (hb hby d1_33)
    have pre28 : ∀ t, Steps p.tables e below (T27.setTop (mkF m 37 #[.val (.int p0), .val (.int p1), .val (.ref (u 0)), .val (.int (4 : Int32)), .val (.int (0 : Int32)), .val (.ref (u 1))] [(.int p1), (.int (0 : Int32))])) t → Steps p.tables e below (s₁.setTop (entryFrame m #[(.int p0), (.int p1)] 6)) t := fun t kt => pre25 t (by
      show Steps p.tables e below (T24.setTop (mkF m 28 #[.val (.int p0), .val (.int p1), .val (.ref (u 0)), .val (.int (4 : Int32)), .val (.int (0 : Int32)), .val (.ref (u 1))] [(.int p0), (.int (1 : Int32))])) _
      refine XS.icmpNo X24.here hx rfl (hb hby d1_28) rfl (teq hc26).2 ?_
      show Steps p.tables e below (T24.setTop (mkF m 31 #[.val (.int p0), .val (.int p1), .val (.ref (u 0)), .val (.int (4 : Int32)), .val (.int (0 : Int32)), .val (.ref (u 1))] [])) _
      refine XS.aload X24.here hx rfl (hb hby d1_31) rfl rfl ?_
      show Steps p.tables e below (T24.setTop (mkF m 33 #[.val (.int p0), .val (.int p1), .val (.ref (u 0)), .val (.int (4 : Int32)), .val (.int (0 : Int32)), .val (.ref (u 1))] [(.ref (u 1))])) _
      refine st27 _ ?_
      show Steps p.tables e below (T27.setTop (mkF m 36 #[.val (.int p0), .val (.int p1), .val (.ref (u 0)), .val (.int (4 : Int32)), .val (.int (0 : Int32)), .val (.ref (u 1))] [(.int (0 : Int32))])) _
      refine XS.iloadN X27.here hx rfl (hb hby d1_36) rfl ?_
      exact kt)
    by_cases hc29 : (0 : Int32) = p1
    · --
      obtain ⟨fs, hr, hrun, hended, hW, hsame⟩ := X27.leave (v := some (.ref (u 1))) (fun h => by rw [Bd.returns] at h; cases h)
      refine ⟨_, _, pre28 _ ?_, hrun, hended, _, _, rfl, ?_, ⟨_, rfl⟩, hW, hsame.mono (by decide) (by decide)⟩
      · show Steps p.tables e below (T27.setTop (mkF m 37 #[.val (.int p0), .val (.int p1), .val (.ref (u 0)), .val (.int (4 : Int32)), .val (.int (0 : Int32)), .val (.ref (u 1))] [(.int p1), (.int (0 : Int32))])) _
        refine XS.icmpNo X27.here hx rfl (hb hby d1_37) rfl (teq hc29).2 ?_
        show Steps p.tables e below (T27.setTop (mkF m 40 #[.val (.int p0), .val (.int p1), .val (.ref (u 0)), .val (.int (4 : Int32)), .val (.int (0 : Int32)), .val (.ref (u 1))] [])) _
        refine XS.aload X27.here hx rfl (hb hby d1_40) rfl rfl ?_
        show Steps p.tables e below (T27.setTop (mkF m 42 #[.val (.int p0), .val (.int p1), .val (.ref (u 0)), .val (.int (4 : Int32)), .val (.int (0 : Int32)), .val (.ref (u 1))] [(.ref (u 1))])) _
        exact retOut X27 hx Bd.returns (own_narref rfl rfl) (Or.inr (Or.inr (Or.inr (Or.inr ⟨rfl, rfl, rfl⟩)))) (hb hby d1_42) hr
      · show own_Q1 Z u p0 p1 h0 n0 _ T27.heap _
        rw [e27]
        exact ⟨(by unfold own_r1; rw [if_pos hc26, if_pos hc29]), N0, rfl⟩
    · --
      obtain ⟨cl31, Ar31, -, S31, N31, H31, -⟩ := id (VA0.ext O.2)
      have hin31 : ¬ ((1 : Int32) < 0 ∨ cl31.slots.size ≤ ((1 : Int32)).toNatClampNeg) := inb_of S31 ⟨by decide, by decide⟩
      obtain ⟨T32, X32, e32, st32⟩ := getF X27 hx hZ hown (host := "") (Or.inl (hw _ (List.mem_of_getElem? (i := 7) rfl))) Via.refl e27 (B.2.2.2.2.2.2.2.2.2.2.2.2.1.ext O.2) (g := (mkF m 24 #[.val (.int p0), .val (.int p1), .val (.ref (u 0)), .val (.int (4 : Int32)), .val (.int (1 : Int32)), .val (.ref (u 2))] [(.ref (u 2))])) rfl rfl (hb hby d1_24)
      obtain ⟨T33, X33, e33, st33⟩ := getF X32 hx hZ hown (host := "") (Or.inl (hw _ (List.mem_of_getElem? (i := 16) rfl))) Via.refl e32 (B.2.2.2.2.2.2.2.2.2.2.2.2.2.1.ext O.2) (g := (mkF m 33 #[.val (.int p0), .val (.int p1), .val (.ref (u 0)), .val (.int (4 : Int32)), .val (.int (1 : Int32)), .val (.ref (u 2))] [(.ref (u 2))])) rfl rfl (hb hby d1_33)
      have pre34 : ∀ t, Steps p.tables e below (T33.setTop (mkF m 37 #[.val (.int p0), .val (.int p1), .val (.ref (u 0)), .val (.int (4 : Int32)), .val (.int (1 : Int32)), .val (.ref (u 2))] [(.int p1), (.int (1 : Int32))])) t → Steps p.tables e below (s₁.setTop (entryFrame m #[(.int p0), (.int p1)] 6)) t := fun t kt => pre28 t (by
        show Steps p.tables e below (T27.setTop (mkF m 37 #[.val (.int p0), .val (.int p1), .val (.ref (u 0)), .val (.int (4 : Int32)), .val (.int (0 : Int32)), .val (.ref (u 1))] [(.int p1), (.int (0 : Int32))])) _
        refine XS.icmpYes X27.here hx rfl (pc0 := 37) (pc' := 43) rfl (hb hby d1_37) rfl (feq hc29).2 (by decide) (by decide) ?_
        show Steps p.tables e below (T27.setTop (mkF m 43 #[.val (.int p0), .val (.int p1), .val (.ref (u 0)), .val (.int (4 : Int32)), .val (.int (0 : Int32)), .val (.ref (u 1))] [])) _
        refine XS.iinc X27.here hx rfl (hb hby d1_43) rfl (l' := #[.val (.int p0), .val (.int p1), .val (.ref (u 0)), .val (.int (4 : Int32)), .val (.int (1 : Int32)), .val (.ref (u 1))]) rfl ?_
        show Steps p.tables e below (T27.setTop (mkF m 46 #[.val (.int p0), .val (.int p1), .val (.ref (u 0)), .val (.int (4 : Int32)), .val (.int (1 : Int32)), .val (.ref (u 1))] [])) _
        refine XS.goto X27.here hx rfl (pc0 := 46) (pc' := 10) rfl (hb hby d1_46) (by decide) (by decide) ?_
        show Steps p.tables e below (T27.setTop (mkF m 10 #[.val (.int p0), .val (.int p1), .val (.ref (u 0)), .val (.int (4 : Int32)), .val (.int (1 : Int32)), .val (.ref (u 1))] [])) _
        refine XS.iload X27.here hx rfl (hb hby d1_10) rfl ?_
        show Steps p.tables e below (T27.setTop (mkF m 12 #[.val (.int p0), .val (.int p1), .val (.ref (u 0)), .val (.int (4 : Int32)), .val (.int (1 : Int32)), .val (.ref (u 1))] [(.int (1 : Int32))])) _
        refine XS.iloadN X27.here hx rfl (hb hby d1_12) rfl ?_
        show Steps p.tables e below (T27.setTop (mkF m 13 #[.val (.int p0), .val (.int p1), .val (.ref (u 0)), .val (.int (4 : Int32)), .val (.int (1 : Int32)), .val (.ref (u 1))] [(.int (4 : Int32)), (.int (1 : Int32))])) _
        refine XS.icmpNo X27.here hx rfl (hb hby d1_13) rfl (tlt (by decide : (1 : Int32) < (4 : Int32))).2.1 ?_
        show Steps p.tables e below (T27.setTop (mkF m 16 #[.val (.int p0), .val (.int p1), .val (.ref (u 0)), .val (.int (4 : Int32)), .val (.int (1 : Int32)), .val (.ref (u 1))] [])) _
        refine XS.aloadN X27.here hx rfl (hb hby d1_16) rfl rfl ?_
        show Steps p.tables e below (T27.setTop (mkF m 17 #[.val (.int p0), .val (.int p1), .val (.ref (u 0)), .val (.int (4 : Int32)), .val (.int (1 : Int32)), .val (.ref (u 1))] [(.ref (u 0))])) _
        refine XS.iload X27.here hx rfl (hb hby d1_17) rfl ?_
        show Steps p.tables e below (T27.setTop (mkF m 19 #[.val (.int p0), .val (.int p1), .val (.ref (u 0)), .val (.int (4 : Int32)), .val (.int (1 : Int32)), .val (.ref (u 1))] [(.int (1 : Int32)), (.ref (u 0))])) _
        refine X27.aaload hx (j := (1 : Int32)) (v := (.ref (u 2))) (by rw [e27]; exact Ar31.1) (State.isArrayOf_alike hZ.alike Ar31.2.1) rfl Ar31.2.2 hin31 (H31.at hin31 rfl) (g := (mkF m 19 #[.val (.int p0), .val (.int p1), .val (.ref (u 0)), .val (.int (4 : Int32)), .val (.int (1 : Int32)), .val (.ref (u 1))] [(.int (1 : Int32)), (.ref (u 0))])) rfl rfl (hb hby d1_19) _ ?_
        show Steps p.tables e below (T27.setTop (mkF m 20 #[.val (.int p0), .val (.int p1), .val (.ref (u 0)), .val (.int (4 : Int32)), .val (.int (1 : Int32)), .val (.ref (u 1))] [(.ref (u 2))])) _
        refine XS.astore X27.here hx rfl (hb hby d1_20) rfl rfl (l' := #[.val (.int p0), .val (.int p1), .val (.ref (u 0)), .val (.int (4 : Int32)), .val (.int (1 : Int32)), .val (.ref (u 2))]) rfl ?_
        show Steps p.tables e below (T27.setTop (mkF m 22 #[.val (.int p0), .val (.int p1), .val (.ref (u 0)), .val (.int (4 : Int32)), .val (.int (1 : Int32)), .val (.ref (u 2))] [])) _
        refine XS.aload X27.here hx rfl (hb hby d1_22) rfl rfl ?_
        show Steps p.tables e below (T27.setTop (mkF m 24 #[.val (.int p0), .val (.int p1), .val (.ref (u 0)), .val (.int (4 : Int32)), .val (.int (1 : Int32)), .val (.ref (u 2))] [(.ref (u 2))])) _
        refine st32 _ ?_
        show Steps p.tables e below (T32.setTop (mkF m 27 #[.val (.int p0), .val (.int p1), .val (.ref (u 0)), .val (.int (4 : Int32)), .val (.int (1 : Int32)), .val (.ref (u 2))] [(.int (1 : Int32))])) _
        refine XS.iloadN X32.here hx rfl (hb hby d1_27) rfl ?_
        show Steps p.tables e below (T32.setTop (mkF m 28 #[.val (.int p0), .val (.int p1), .val (.ref (u 0)), .val (.int (4 : Int32)), .val (.int (1 : Int32)), .val (.ref (u 2))] [(.int p0), (.int (1 : Int32))])) _
        refine XS.icmpNo X32.here hx rfl (hb hby d1_28) rfl (teq hc26).2 ?_
        show Steps p.tables e below (T32.setTop (mkF m 31 #[.val (.int p0), .val (.int p1), .val (.ref (u 0)), .val (.int (4 : Int32)), .val (.int (1 : Int32)), .val (.ref (u 2))] [])) _
        refine XS.aload X32.here hx rfl (hb hby d1_31) rfl rfl ?_
        show Steps p.tables e below (T32.setTop (mkF m 33 #[.val (.int p0), .val (.int p1), .val (.ref (u 0)), .val (.int (4 : Int32)), .val (.int (1 : Int32)), .val (.ref (u 2))] [(.ref (u 2))])) _
        refine st33 _ ?_
        show Steps p.tables e below (T33.setTop (mkF m 36 #[.val (.int p0), .val (.int p1), .val (.ref (u 0)), .val (.int (4 : Int32)), .val (.int (1 : Int32)), .val (.ref (u 2))] [(.int (1 : Int32))])) _
        refine XS.iloadN X33.here hx rfl (hb hby d1_36) rfl ?_
        exact kt)
      by_cases hc35 : (1 : Int32) = p1
      · --
        obtain ⟨fs, hr, hrun, hended, hW, hsame⟩ := X33.leave (v := some (.ref (u 2))) (fun h => by rw [Bd.returns] at h; cases h)
        refine ⟨_, _, pre34 _ ?_, hrun, hended, _, _, rfl, ?_, ⟨_, rfl⟩, hW, hsame.mono (by decide) (by decide)⟩
        · show Steps p.tables e below (T33.setTop (mkF m 37 #[.val (.int p0), .val (.int p1), .val (.ref (u 0)), .val (.int (4 : Int32)), .val (.int (1 : Int32)), .val (.ref (u 2))] [(.int p1), (.int (1 : Int32))])) _
          refine XS.icmpNo X33.here hx rfl (hb hby d1_37) rfl (teq hc35).2 ?_
          show Steps p.tables e below (T33.setTop (mkF m 40 #[.val (.int p0), .val (.int p1), .val (.ref (u 0)), .val (.int (4 : Int32)), .val (.int (1 : Int32)), .val (.ref (u 2))] [])) _
          refine XS.aload X33.here hx rfl (hb hby d1_40) rfl rfl ?_
          show Steps p.tables e below (T33.setTop (mkF m 42 #[.val (.int p0), .val (.int p1), .val (.ref (u 0)), .val (.int (4 : Int32)), .val (.int (1 : Int32)), .val (.ref (u 2))] [(.ref (u 2))])) _
          exact retOut X33 hx Bd.returns (own_narref rfl rfl) (Or.inr (Or.inr (Or.inr (Or.inr ⟨rfl, rfl, rfl⟩)))) (hb hby d1_42) hr
        · show own_Q1 Z u p0 p1 h0 n0 _ T33.heap _
          rw [e33]
          exact ⟨(by unfold own_r1; rw [if_pos hc26, if_neg hc29, if_pos hc35]), N0, rfl⟩
      · --
        obtain ⟨cl37, Ar37, -, S37, N37, H37, -⟩ := id (VA0.ext O.2)
        have hin37 : ¬ ((2 : Int32) < 0 ∨ cl37.slots.size ≤ ((2 : Int32)).toNatClampNeg) := inb_of S37 ⟨by decide, by decide⟩
        obtain ⟨T38, X38, e38, st38⟩ := getF X33 hx hZ hown (host := "") (Or.inl (hw _ (List.mem_of_getElem? (i := 7) rfl))) Via.refl e33 (B.2.2.2.2.2.2.2.2.2.2.2.2.2.2.1.ext O.2) (g := (mkF m 24 #[.val (.int p0), .val (.int p1), .val (.ref (u 0)), .val (.int (4 : Int32)), .val (.int (2 : Int32)), .val (.ref (u 3))] [(.ref (u 3))])) rfl rfl (hb hby d1_24)
        obtain ⟨T39, X39, e39, st39⟩ := getF X38 hx hZ hown (host := "") (Or.inl (hw _ (List.mem_of_getElem? (i := 16) rfl))) Via.refl e38 (B.2.2.2.2.2.2.2.2.2.2.2.2.2.2.2.1.ext O.2) (g := (mkF m 33 #[.val (.int p0), .val (.int p1), .val (.ref (u 0)), .val (.int (4 : Int32)), .val (.int (2 : Int32)), .val (.ref (u 3))] [(.ref (u 3))])) rfl rfl (hb hby d1_33)
        have pre40 : ∀ t, Steps p.tables e below (T39.setTop (mkF m 37 #[.val (.int p0), .val (.int p1), .val (.ref (u 0)), .val (.int (4 : Int32)), .val (.int (2 : Int32)), .val (.ref (u 3))] [(.int p1), (.int (2 : Int32))])) t → Steps p.tables e below (s₁.setTop (entryFrame m #[(.int p0), (.int p1)] 6)) t := fun t kt => pre34 t (by
          show Steps p.tables e below (T33.setTop (mkF m 37 #[.val (.int p0), .val (.int p1), .val (.ref (u 0)), .val (.int (4 : Int32)), .val (.int (1 : Int32)), .val (.ref (u 2))] [(.int p1), (.int (1 : Int32))])) _
          refine XS.icmpYes X33.here hx rfl (pc0 := 37) (pc' := 43) rfl (hb hby d1_37) rfl (feq hc35).2 (by decide) (by decide) ?_
          show Steps p.tables e below (T33.setTop (mkF m 43 #[.val (.int p0), .val (.int p1), .val (.ref (u 0)), .val (.int (4 : Int32)), .val (.int (1 : Int32)), .val (.ref (u 2))] [])) _
          refine XS.iinc X33.here hx rfl (hb hby d1_43) rfl (l' := #[.val (.int p0), .val (.int p1), .val (.ref (u 0)), .val (.int (4 : Int32)), .val (.int (2 : Int32)), .val (.ref (u 2))]) rfl ?_
          show Steps p.tables e below (T33.setTop (mkF m 46 #[.val (.int p0), .val (.int p1), .val (.ref (u 0)), .val (.int (4 : Int32)), .val (.int (2 : Int32)), .val (.ref (u 2))] [])) _
          refine XS.goto X33.here hx rfl (pc0 := 46) (pc' := 10) rfl (hb hby d1_46) (by decide) (by decide) ?_
          show Steps p.tables e below (T33.setTop (mkF m 10 #[.val (.int p0), .val (.int p1), .val (.ref (u 0)), .val (.int (4 : Int32)), .val (.int (2 : Int32)), .val (.ref (u 2))] [])) _
          refine XS.iload X33.here hx rfl (hb hby d1_10) rfl ?_
          show Steps p.tables e below (T33.setTop (mkF m 12 #[.val (.int p0), .val (.int p1), .val (.ref (u 0)), .val (.int (4 : Int32)), .val (.int (2 : Int32)), .val (.ref (u 2))] [(.int (2 : Int32))])) _
          refine XS.iloadN X33.here hx rfl (hb hby d1_12) rfl ?_
          show Steps p.tables e below (T33.setTop (mkF m 13 #[.val (.int p0), .val (.int p1), .val (.ref (u 0)), .val (.int (4 : Int32)), .val (.int (2 : Int32)), .val (.ref (u 2))] [(.int (4 : Int32)), (.int (2 : Int32))])) _
          refine XS.icmpNo X33.here hx rfl (hb hby d1_13) rfl (tlt (by decide : (2 : Int32) < (4 : Int32))).2.1 ?_
          show Steps p.tables e below (T33.setTop (mkF m 16 #[.val (.int p0), .val (.int p1), .val (.ref (u 0)), .val (.int (4 : Int32)), .val (.int (2 : Int32)), .val (.ref (u 2))] [])) _
          refine XS.aloadN X33.here hx rfl (hb hby d1_16) rfl rfl ?_
          show Steps p.tables e below (T33.setTop (mkF m 17 #[.val (.int p0), .val (.int p1), .val (.ref (u 0)), .val (.int (4 : Int32)), .val (.int (2 : Int32)), .val (.ref (u 2))] [(.ref (u 0))])) _
          refine XS.iload X33.here hx rfl (hb hby d1_17) rfl ?_
          show Steps p.tables e below (T33.setTop (mkF m 19 #[.val (.int p0), .val (.int p1), .val (.ref (u 0)), .val (.int (4 : Int32)), .val (.int (2 : Int32)), .val (.ref (u 2))] [(.int (2 : Int32)), (.ref (u 0))])) _
          refine X33.aaload hx (j := (2 : Int32)) (v := (.ref (u 3))) (by rw [e33]; exact Ar37.1) (State.isArrayOf_alike hZ.alike Ar37.2.1) rfl Ar37.2.2 hin37 (H37.at hin37 rfl) (g := (mkF m 19 #[.val (.int p0), .val (.int p1), .val (.ref (u 0)), .val (.int (4 : Int32)), .val (.int (2 : Int32)), .val (.ref (u 2))] [(.int (2 : Int32)), (.ref (u 0))])) rfl rfl (hb hby d1_19) _ ?_
          show Steps p.tables e below (T33.setTop (mkF m 20 #[.val (.int p0), .val (.int p1), .val (.ref (u 0)), .val (.int (4 : Int32)), .val (.int (2 : Int32)), .val (.ref (u 2))] [(.ref (u 3))])) _
          refine XS.astore X33.here hx rfl (hb hby d1_20) rfl rfl (l' := #[.val (.int p0), .val (.int p1), .val (.ref (u 0)), .val (.int (4 : Int32)), .val (.int (2 : Int32)), .val (.ref (u 3))]) rfl ?_
          show Steps p.tables e below (T33.setTop (mkF m 22 #[.val (.int p0), .val (.int p1), .val (.ref (u 0)), .val (.int (4 : Int32)), .val (.int (2 : Int32)), .val (.ref (u 3))] [])) _
          refine XS.aload X33.here hx rfl (hb hby d1_22) rfl rfl ?_
          show Steps p.tables e below (T33.setTop (mkF m 24 #[.val (.int p0), .val (.int p1), .val (.ref (u 0)), .val (.int (4 : Int32)), .val (.int (2 : Int32)), .val (.ref (u 3))] [(.ref (u 3))])) _
          refine st38 _ ?_
          show Steps p.tables e below (T38.setTop (mkF m 27 #[.val (.int p0), .val (.int p1), .val (.ref (u 0)), .val (.int (4 : Int32)), .val (.int (2 : Int32)), .val (.ref (u 3))] [(.int (1 : Int32))])) _
          refine XS.iloadN X38.here hx rfl (hb hby d1_27) rfl ?_
          show Steps p.tables e below (T38.setTop (mkF m 28 #[.val (.int p0), .val (.int p1), .val (.ref (u 0)), .val (.int (4 : Int32)), .val (.int (2 : Int32)), .val (.ref (u 3))] [(.int p0), (.int (1 : Int32))])) _
          refine XS.icmpNo X38.here hx rfl (hb hby d1_28) rfl (teq hc26).2 ?_
          show Steps p.tables e below (T38.setTop (mkF m 31 #[.val (.int p0), .val (.int p1), .val (.ref (u 0)), .val (.int (4 : Int32)), .val (.int (2 : Int32)), .val (.ref (u 3))] [])) _
          refine XS.aload X38.here hx rfl (hb hby d1_31) rfl rfl ?_
          show Steps p.tables e below (T38.setTop (mkF m 33 #[.val (.int p0), .val (.int p1), .val (.ref (u 0)), .val (.int (4 : Int32)), .val (.int (2 : Int32)), .val (.ref (u 3))] [(.ref (u 3))])) _
          refine st39 _ ?_
          show Steps p.tables e below (T39.setTop (mkF m 36 #[.val (.int p0), .val (.int p1), .val (.ref (u 0)), .val (.int (4 : Int32)), .val (.int (2 : Int32)), .val (.ref (u 3))] [(.int (2 : Int32))])) _
          refine XS.iloadN X39.here hx rfl (hb hby d1_36) rfl ?_
          exact kt)
        by_cases hc41 : (2 : Int32) = p1
        · --
          obtain ⟨fs, hr, hrun, hended, hW, hsame⟩ := X39.leave (v := some (.ref (u 3))) (fun h => by rw [Bd.returns] at h; cases h)
          refine ⟨_, _, pre40 _ ?_, hrun, hended, _, _, rfl, ?_, ⟨_, rfl⟩, hW, hsame.mono (by decide) (by decide)⟩
          · show Steps p.tables e below (T39.setTop (mkF m 37 #[.val (.int p0), .val (.int p1), .val (.ref (u 0)), .val (.int (4 : Int32)), .val (.int (2 : Int32)), .val (.ref (u 3))] [(.int p1), (.int (2 : Int32))])) _
            refine XS.icmpNo X39.here hx rfl (hb hby d1_37) rfl (teq hc41).2 ?_
            show Steps p.tables e below (T39.setTop (mkF m 40 #[.val (.int p0), .val (.int p1), .val (.ref (u 0)), .val (.int (4 : Int32)), .val (.int (2 : Int32)), .val (.ref (u 3))] [])) _
            refine XS.aload X39.here hx rfl (hb hby d1_40) rfl rfl ?_
            show Steps p.tables e below (T39.setTop (mkF m 42 #[.val (.int p0), .val (.int p1), .val (.ref (u 0)), .val (.int (4 : Int32)), .val (.int (2 : Int32)), .val (.ref (u 3))] [(.ref (u 3))])) _
            exact retOut X39 hx Bd.returns (own_narref rfl rfl) (Or.inr (Or.inr (Or.inr (Or.inr ⟨rfl, rfl, rfl⟩)))) (hb hby d1_42) hr
          · show own_Q1 Z u p0 p1 h0 n0 _ T39.heap _
            rw [e39]
            exact ⟨(by unfold own_r1; rw [if_pos hc26, if_neg hc29, if_neg hc35, if_pos hc41]), N0, rfl⟩
        · --
          obtain ⟨cl43, Ar43, -, S43, N43, H43, -⟩ := id (VA0.ext O.2)
          have hin43 : ¬ ((3 : Int32) < 0 ∨ cl43.slots.size ≤ ((3 : Int32)).toNatClampNeg) := inb_of S43 ⟨by decide, by decide⟩
          obtain ⟨T44, X44, e44, st44⟩ := getF X39 hx hZ hown (host := "") (Or.inl (hw _ (List.mem_of_getElem? (i := 7) rfl))) Via.refl e39 (B.2.2.2.2.2.2.2.2.2.2.2.2.2.2.2.2.1.ext O.2) (g := (mkF m 24 #[.val (.int p0), .val (.int p1), .val (.ref (u 0)), .val (.int (4 : Int32)), .val (.int (3 : Int32)), .val (.ref (u 4))] [(.ref (u 4))])) rfl rfl (hb hby d1_24)
          obtain ⟨T45, X45, e45, st45⟩ := getF X44 hx hZ hown (host := "") (Or.inl (hw _ (List.mem_of_getElem? (i := 16) rfl))) Via.refl e44 (B.2.2.2.2.2.2.2.2.2.2.2.2.2.2.2.2.2.ext O.2) (g := (mkF m 33 #[.val (.int p0), .val (.int p1), .val (.ref (u 0)), .val (.int (4 : Int32)), .val (.int (3 : Int32)), .val (.ref (u 4))] [(.ref (u 4))])) rfl rfl (hb hby d1_33)
          have pre46 : ∀ t, Steps p.tables e below (T45.setTop (mkF m 37 #[.val (.int p0), .val (.int p1), .val (.ref (u 0)), .val (.int (4 : Int32)), .val (.int (3 : Int32)), .val (.ref (u 4))] [(.int p1), (.int (3 : Int32))])) t → Steps p.tables e below (s₁.setTop (entryFrame m #[(.int p0), (.int p1)] 6)) t := fun t kt => pre40 t (by
            show Steps p.tables e below (T39.setTop (mkF m 37 #[.val (.int p0), .val (.int p1), .val (.ref (u 0)), .val (.int (4 : Int32)), .val (.int (2 : Int32)), .val (.ref (u 3))] [(.int p1), (.int (2 : Int32))])) _
            refine XS.icmpYes X39.here hx rfl (pc0 := 37) (pc' := 43) rfl (hb hby d1_37) rfl (feq hc41).2 (by decide) (by decide) ?_
            show Steps p.tables e below (T39.setTop (mkF m 43 #[.val (.int p0), .val (.int p1), .val (.ref (u 0)), .val (.int (4 : Int32)), .val (.int (2 : Int32)), .val (.ref (u 3))] [])) _
            refine XS.iinc X39.here hx rfl (hb hby d1_43) rfl (l' := #[.val (.int p0), .val (.int p1), .val (.ref (u 0)), .val (.int (4 : Int32)), .val (.int (3 : Int32)), .val (.ref (u 3))]) rfl ?_
            show Steps p.tables e below (T39.setTop (mkF m 46 #[.val (.int p0), .val (.int p1), .val (.ref (u 0)), .val (.int (4 : Int32)), .val (.int (3 : Int32)), .val (.ref (u 3))] [])) _
            refine XS.goto X39.here hx rfl (pc0 := 46) (pc' := 10) rfl (hb hby d1_46) (by decide) (by decide) ?_
            show Steps p.tables e below (T39.setTop (mkF m 10 #[.val (.int p0), .val (.int p1), .val (.ref (u 0)), .val (.int (4 : Int32)), .val (.int (3 : Int32)), .val (.ref (u 3))] [])) _
            refine XS.iload X39.here hx rfl (hb hby d1_10) rfl ?_
            show Steps p.tables e below (T39.setTop (mkF m 12 #[.val (.int p0), .val (.int p1), .val (.ref (u 0)), .val (.int (4 : Int32)), .val (.int (3 : Int32)), .val (.ref (u 3))] [(.int (3 : Int32))])) _
            refine XS.iloadN X39.here hx rfl (hb hby d1_12) rfl ?_
            show Steps p.tables e below (T39.setTop (mkF m 13 #[.val (.int p0), .val (.int p1), .val (.ref (u 0)), .val (.int (4 : Int32)), .val (.int (3 : Int32)), .val (.ref (u 3))] [(.int (4 : Int32)), (.int (3 : Int32))])) _
            refine XS.icmpNo X39.here hx rfl (hb hby d1_13) rfl (tlt (by decide : (3 : Int32) < (4 : Int32))).2.1 ?_
            show Steps p.tables e below (T39.setTop (mkF m 16 #[.val (.int p0), .val (.int p1), .val (.ref (u 0)), .val (.int (4 : Int32)), .val (.int (3 : Int32)), .val (.ref (u 3))] [])) _
            refine XS.aloadN X39.here hx rfl (hb hby d1_16) rfl rfl ?_
            show Steps p.tables e below (T39.setTop (mkF m 17 #[.val (.int p0), .val (.int p1), .val (.ref (u 0)), .val (.int (4 : Int32)), .val (.int (3 : Int32)), .val (.ref (u 3))] [(.ref (u 0))])) _
            refine XS.iload X39.here hx rfl (hb hby d1_17) rfl ?_
            show Steps p.tables e below (T39.setTop (mkF m 19 #[.val (.int p0), .val (.int p1), .val (.ref (u 0)), .val (.int (4 : Int32)), .val (.int (3 : Int32)), .val (.ref (u 3))] [(.int (3 : Int32)), (.ref (u 0))])) _
            refine X39.aaload hx (j := (3 : Int32)) (v := (.ref (u 4))) (by rw [e39]; exact Ar43.1) (State.isArrayOf_alike hZ.alike Ar43.2.1) rfl Ar43.2.2 hin43 (H43.at hin43 rfl) (g := (mkF m 19 #[.val (.int p0), .val (.int p1), .val (.ref (u 0)), .val (.int (4 : Int32)), .val (.int (3 : Int32)), .val (.ref (u 3))] [(.int (3 : Int32)), (.ref (u 0))])) rfl rfl (hb hby d1_19) _ ?_
            show Steps p.tables e below (T39.setTop (mkF m 20 #[.val (.int p0), .val (.int p1), .val (.ref (u 0)), .val (.int (4 : Int32)), .val (.int (3 : Int32)), .val (.ref (u 3))] [(.ref (u 4))])) _
            refine XS.astore X39.here hx rfl (hb hby d1_20) rfl rfl (l' := #[.val (.int p0), .val (.int p1), .val (.ref (u 0)), .val (.int (4 : Int32)), .val (.int (3 : Int32)), .val (.ref (u 4))]) rfl ?_
            show Steps p.tables e below (T39.setTop (mkF m 22 #[.val (.int p0), .val (.int p1), .val (.ref (u 0)), .val (.int (4 : Int32)), .val (.int (3 : Int32)), .val (.ref (u 4))] [])) _
            refine XS.aload X39.here hx rfl (hb hby d1_22) rfl rfl ?_
            show Steps p.tables e below (T39.setTop (mkF m 24 #[.val (.int p0), .val (.int p1), .val (.ref (u 0)), .val (.int (4 : Int32)), .val (.int (3 : Int32)), .val (.ref (u 4))] [(.ref (u 4))])) _
            refine st44 _ ?_
            show Steps p.tables e below (T44.setTop (mkF m 27 #[.val (.int p0), .val (.int p1), .val (.ref (u 0)), .val (.int (4 : Int32)), .val (.int (3 : Int32)), .val (.ref (u 4))] [(.int (1 : Int32))])) _
            refine XS.iloadN X44.here hx rfl (hb hby d1_27) rfl ?_
            show Steps p.tables e below (T44.setTop (mkF m 28 #[.val (.int p0), .val (.int p1), .val (.ref (u 0)), .val (.int (4 : Int32)), .val (.int (3 : Int32)), .val (.ref (u 4))] [(.int p0), (.int (1 : Int32))])) _
            refine XS.icmpNo X44.here hx rfl (hb hby d1_28) rfl (teq hc26).2 ?_
            show Steps p.tables e below (T44.setTop (mkF m 31 #[.val (.int p0), .val (.int p1), .val (.ref (u 0)), .val (.int (4 : Int32)), .val (.int (3 : Int32)), .val (.ref (u 4))] [])) _
            refine XS.aload X44.here hx rfl (hb hby d1_31) rfl rfl ?_
            show Steps p.tables e below (T44.setTop (mkF m 33 #[.val (.int p0), .val (.int p1), .val (.ref (u 0)), .val (.int (4 : Int32)), .val (.int (3 : Int32)), .val (.ref (u 4))] [(.ref (u 4))])) _
            refine st45 _ ?_
            show Steps p.tables e below (T45.setTop (mkF m 36 #[.val (.int p0), .val (.int p1), .val (.ref (u 0)), .val (.int (4 : Int32)), .val (.int (3 : Int32)), .val (.ref (u 4))] [(.int (3 : Int32))])) _
            refine XS.iloadN X45.here hx rfl (hb hby d1_36) rfl ?_
            exact kt)
          by_cases hc47 : (3 : Int32) = p1
          · --
            obtain ⟨fs, hr, hrun, hended, hW, hsame⟩ := X45.leave (v := some (.ref (u 4))) (fun h => by rw [Bd.returns] at h; cases h)
            refine ⟨_, _, pre46 _ ?_, hrun, hended, _, _, rfl, ?_, ⟨_, rfl⟩, hW, hsame.mono (by decide) (by decide)⟩
            · show Steps p.tables e below (T45.setTop (mkF m 37 #[.val (.int p0), .val (.int p1), .val (.ref (u 0)), .val (.int (4 : Int32)), .val (.int (3 : Int32)), .val (.ref (u 4))] [(.int p1), (.int (3 : Int32))])) _
              refine XS.icmpNo X45.here hx rfl (hb hby d1_37) rfl (teq hc47).2 ?_
              show Steps p.tables e below (T45.setTop (mkF m 40 #[.val (.int p0), .val (.int p1), .val (.ref (u 0)), .val (.int (4 : Int32)), .val (.int (3 : Int32)), .val (.ref (u 4))] [])) _
              refine XS.aload X45.here hx rfl (hb hby d1_40) rfl rfl ?_
              show Steps p.tables e below (T45.setTop (mkF m 42 #[.val (.int p0), .val (.int p1), .val (.ref (u 0)), .val (.int (4 : Int32)), .val (.int (3 : Int32)), .val (.ref (u 4))] [(.ref (u 4))])) _
              exact retOut X45 hx Bd.returns (own_narref rfl rfl) (Or.inr (Or.inr (Or.inr (Or.inr ⟨rfl, rfl, rfl⟩)))) (hb hby d1_42) hr
            · show own_Q1 Z u p0 p1 h0 n0 _ T45.heap _
              rw [e45]
              exact ⟨(by unfold own_r1; rw [if_pos hc26, if_neg hc29, if_neg hc35, if_neg hc41, if_pos hc47]), N0, rfl⟩
          · --
            obtain ⟨fs, hr, hrun, hended, hW, hsame⟩ := X45.leave (v := some .null) (fun h => by rw [Bd.returns] at h; cases h)
            refine ⟨_, _, pre46 _ ?_, hrun, hended, _, _, rfl, ?_, ⟨_, rfl⟩, hW, hsame.mono (by decide) (by decide)⟩
            · show Steps p.tables e below (T45.setTop (mkF m 37 #[.val (.int p0), .val (.int p1), .val (.ref (u 0)), .val (.int (4 : Int32)), .val (.int (3 : Int32)), .val (.ref (u 4))] [(.int p1), (.int (3 : Int32))])) _
              refine XS.icmpYes X45.here hx rfl (pc0 := 37) (pc' := 43) rfl (hb hby d1_37) rfl (feq hc47).2 (by decide) (by decide) ?_
              show Steps p.tables e below (T45.setTop (mkF m 43 #[.val (.int p0), .val (.int p1), .val (.ref (u 0)), .val (.int (4 : Int32)), .val (.int (3 : Int32)), .val (.ref (u 4))] [])) _
              refine XS.iinc X45.here hx rfl (hb hby d1_43) rfl (l' := #[.val (.int p0), .val (.int p1), .val (.ref (u 0)), .val (.int (4 : Int32)), .val (.int (4 : Int32)), .val (.ref (u 4))]) rfl ?_
              show Steps p.tables e below (T45.setTop (mkF m 46 #[.val (.int p0), .val (.int p1), .val (.ref (u 0)), .val (.int (4 : Int32)), .val (.int (4 : Int32)), .val (.ref (u 4))] [])) _
              refine XS.goto X45.here hx rfl (pc0 := 46) (pc' := 10) rfl (hb hby d1_46) (by decide) (by decide) ?_
              show Steps p.tables e below (T45.setTop (mkF m 10 #[.val (.int p0), .val (.int p1), .val (.ref (u 0)), .val (.int (4 : Int32)), .val (.int (4 : Int32)), .val (.ref (u 4))] [])) _
              refine XS.iload X45.here hx rfl (hb hby d1_10) rfl ?_
              show Steps p.tables e below (T45.setTop (mkF m 12 #[.val (.int p0), .val (.int p1), .val (.ref (u 0)), .val (.int (4 : Int32)), .val (.int (4 : Int32)), .val (.ref (u 4))] [(.int (4 : Int32))])) _
              refine XS.iloadN X45.here hx rfl (hb hby d1_12) rfl ?_
              show Steps p.tables e below (T45.setTop (mkF m 13 #[.val (.int p0), .val (.int p1), .val (.ref (u 0)), .val (.int (4 : Int32)), .val (.int (4 : Int32)), .val (.ref (u 4))] [(.int (4 : Int32)), (.int (4 : Int32))])) _
              refine XS.icmpYes X45.here hx rfl (pc0 := 13) (pc' := 49) rfl (hb hby d1_13) rfl (flt (by decide : ¬ ((4 : Int32) < (4 : Int32)))).2.1 (by decide) (by decide) ?_
              show Steps p.tables e below (T45.setTop (mkF m 49 #[.val (.int p0), .val (.int p1), .val (.ref (u 0)), .val (.int (4 : Int32)), .val (.int (4 : Int32)), .val (.ref (u 4))] [])) _
              refine XS.aconstNull X45.here hx rfl (hb hby d1_49) ?_
              show Steps p.tables e below (T45.setTop (mkF m 50 #[.val (.int p0), .val (.int p1), .val (.ref (u 0)), .val (.int (4 : Int32)), .val (.int (4 : Int32)), .val (.ref (u 4))] [.null])) _
              exact retOut X45 hx Bd.returns (own_narref rfl rfl) (Or.inr (Or.inr (Or.inr (Or.inr ⟨rfl, rfl, rfl⟩)))) (hb hby d1_50) hr
            · show own_Q1 Z u p0 p1 h0 n0 _ T45.heap _
              rw [e45]
              exact ⟨(by unfold own_r1; rw [if_pos hc26, if_neg hc29, if_neg hc35, if_neg hc41, if_neg hc47]), N0, rfl⟩
  · --
    obtain ⟨cl50, Ar50, -, S50, N50, H50, -⟩ := id (VA0.ext O.2)
    have hin50 : ¬ ((1 : Int32) < 0 ∨ cl50.slots.size ≤ ((1 : Int32)).toNatClampNeg) := inb_of S50 ⟨by decide, by decide⟩
    obtain ⟨T51, X51, e51, st51⟩ := getF X24 hx hZ hown (host := "") (Or.inl (hw _ (List.mem_of_getElem? (i := 7) rfl))) Via.refl e24 (B.2.2.2.2.2.2.2.2.2.2.2.2.1.ext O.2) (g := (mkF m 24 #[.val (.int p0), .val (.int p1), .val (.ref (u 0)), .val (.int (4 : Int32)), .val (.int (1 : Int32)), .val (.ref (u 2))] [(.ref (u 2))])) rfl rfl (hb hby d1_24)
    obtain ⟨cl52, Ar52, -, S52, N52, H52, -⟩ := id (VA0.ext O.2)
    have hin52 : ¬ ((2 : Int32) < 0 ∨ cl52.slots.size ≤ ((2 : Int32)).toNatClampNeg) := inb_of S52 ⟨by decide, by decide⟩
    obtain ⟨T53, X53, e53, st53⟩ := getF X51 hx hZ hown (host := "") (Or.inl (hw _ (List.mem_of_getElem? (i := 7) rfl))) Via.refl e51 (B.2.2.2.2.2.2.2.2.2.2.2.2.2.2.1.ext O.2) (g := (mkF m 24 #[.val (.int p0), .val (.int p1), .val (.ref (u 0)), .val (.int (4 : Int32)), .val (.int (2 : Int32)), .val (.ref (u 3))] [(.ref (u 3))])) rfl rfl (hb hby d1_24)
    obtain ⟨cl54, Ar54, -, S54, N54, H54, -⟩ := id (VA0.ext O.2)
    have hin54 : ¬ ((3 : Int32) < 0 ∨ cl54.slots.size ≤ ((3 : Int32)).toNatClampNeg) := inb_of S54 ⟨by decide, by decide⟩
    obtain ⟨T55, X55, e55, st55⟩ := getF X53 hx hZ hown (host := "") (Or.inl (hw _ (List.mem_of_getElem? (i := 7) rfl))) Via.refl e53 (B.2.2.2.2.2.2.2.2.2.2.2.2.2.2.2.2.1.ext O.2) (g := (mkF m 24 #[.val (.int p0), .val (.int p1), .val (.ref (u 0)), .val (.int (4 : Int32)), .val (.int (3 : Int32)), .val (.ref (u 4))] [(.ref (u 4))])) rfl rfl (hb hby d1_24)
    obtain ⟨fs, hr, hrun, hended, hW, hsame⟩ := X55.leave (v := some .null) (fun h => by rw [Bd.returns] at h; cases h)
    refine ⟨_, _, pre25 _ ?_, hrun, hended, _, _, rfl, ?_, ⟨_, rfl⟩, hW, hsame.mono (by decide) (by decide)⟩
    · show Steps p.tables e below (T24.setTop (mkF m 28 #[.val (.int p0), .val (.int p1), .val (.ref (u 0)), .val (.int (4 : Int32)), .val (.int (0 : Int32)), .val (.ref (u 1))] [(.int p0), (.int (1 : Int32))])) _
      refine XS.icmpYes X24.here hx rfl (pc0 := 28) (pc' := 43) rfl (hb hby d1_28) rfl (feq hc26).2 (by decide) (by decide) ?_
      show Steps p.tables e below (T24.setTop (mkF m 43 #[.val (.int p0), .val (.int p1), .val (.ref (u 0)), .val (.int (4 : Int32)), .val (.int (0 : Int32)), .val (.ref (u 1))] [])) _
      refine XS.iinc X24.here hx rfl (hb hby d1_43) rfl (l' := #[.val (.int p0), .val (.int p1), .val (.ref (u 0)), .val (.int (4 : Int32)), .val (.int (1 : Int32)), .val (.ref (u 1))]) rfl ?_
      show Steps p.tables e below (T24.setTop (mkF m 46 #[.val (.int p0), .val (.int p1), .val (.ref (u 0)), .val (.int (4 : Int32)), .val (.int (1 : Int32)), .val (.ref (u 1))] [])) _
      refine XS.goto X24.here hx rfl (pc0 := 46) (pc' := 10) rfl (hb hby d1_46) (by decide) (by decide) ?_
      show Steps p.tables e below (T24.setTop (mkF m 10 #[.val (.int p0), .val (.int p1), .val (.ref (u 0)), .val (.int (4 : Int32)), .val (.int (1 : Int32)), .val (.ref (u 1))] [])) _
      refine XS.iload X24.here hx rfl (hb hby d1_10) rfl ?_
      show Steps p.tables e below (T24.setTop (mkF m 12 #[.val (.int p0), .val (.int p1), .val (.ref (u 0)), .val (.int (4 : Int32)), .val (.int (1 : Int32)), .val (.ref (u 1))] [(.int (1 : Int32))])) _
      refine XS.iloadN X24.here hx rfl (hb hby d1_12) rfl ?_
      show Steps p.tables e below (T24.setTop (mkF m 13 #[.val (.int p0), .val (.int p1), .val (.ref (u 0)), .val (.int (4 : Int32)), .val (.int (1 : Int32)), .val (.ref (u 1))] [(.int (4 : Int32)), (.int (1 : Int32))])) _
      refine XS.icmpNo X24.here hx rfl (hb hby d1_13) rfl (tlt (by decide : (1 : Int32) < (4 : Int32))).2.1 ?_
      show Steps p.tables e below (T24.setTop (mkF m 16 #[.val (.int p0), .val (.int p1), .val (.ref (u 0)), .val (.int (4 : Int32)), .val (.int (1 : Int32)), .val (.ref (u 1))] [])) _
      refine XS.aloadN X24.here hx rfl (hb hby d1_16) rfl rfl ?_
      show Steps p.tables e below (T24.setTop (mkF m 17 #[.val (.int p0), .val (.int p1), .val (.ref (u 0)), .val (.int (4 : Int32)), .val (.int (1 : Int32)), .val (.ref (u 1))] [(.ref (u 0))])) _
      refine XS.iload X24.here hx rfl (hb hby d1_17) rfl ?_
      show Steps p.tables e below (T24.setTop (mkF m 19 #[.val (.int p0), .val (.int p1), .val (.ref (u 0)), .val (.int (4 : Int32)), .val (.int (1 : Int32)), .val (.ref (u 1))] [(.int (1 : Int32)), (.ref (u 0))])) _
      refine X24.aaload hx (j := (1 : Int32)) (v := (.ref (u 2))) (by rw [e24]; exact Ar50.1) (State.isArrayOf_alike hZ.alike Ar50.2.1) rfl Ar50.2.2 hin50 (H50.at hin50 rfl) (g := (mkF m 19 #[.val (.int p0), .val (.int p1), .val (.ref (u 0)), .val (.int (4 : Int32)), .val (.int (1 : Int32)), .val (.ref (u 1))] [(.int (1 : Int32)), (.ref (u 0))])) rfl rfl (hb hby d1_19) _ ?_
      show Steps p.tables e below (T24.setTop (mkF m 20 #[.val (.int p0), .val (.int p1), .val (.ref (u 0)), .val (.int (4 : Int32)), .val (.int (1 : Int32)), .val (.ref (u 1))] [(.ref (u 2))])) _
      refine XS.astore X24.here hx rfl (hb hby d1_20) rfl rfl (l' := #[.val (.int p0), .val (.int p1), .val (.ref (u 0)), .val (.int (4 : Int32)), .val (.int (1 : Int32)), .val (.ref (u 2))]) rfl ?_
      show Steps p.tables e below (T24.setTop (mkF m 22 #[.val (.int p0), .val (.int p1), .val (.ref (u 0)), .val (.int (4 : Int32)), .val (.int (1 : Int32)), .val (.ref (u 2))] [])) _
      refine XS.aload X24.here hx rfl (hb hby d1_22) rfl rfl ?_
      show Steps p.tables e below (T24.setTop (mkF m 24 #[.val (.int p0), .val (.int p1), .val (.ref (u 0)), .val (.int (4 : Int32)), .val (.int (1 : Int32)), .val (.ref (u 2))] [(.ref (u 2))])) _
      refine st51 _ ?_
      show Steps p.tables e below (T51.setTop (mkF m 27 #[.val (.int p0), .val (.int p1), .val (.ref (u 0)), .val (.int (4 : Int32)), .val (.int (1 : Int32)), .val (.ref (u 2))] [(.int (1 : Int32))])) _
      refine XS.iloadN X51.here hx rfl (hb hby d1_27) rfl ?_
      show Steps p.tables e below (T51.setTop (mkF m 28 #[.val (.int p0), .val (.int p1), .val (.ref (u 0)), .val (.int (4 : Int32)), .val (.int (1 : Int32)), .val (.ref (u 2))] [(.int p0), (.int (1 : Int32))])) _
      refine XS.icmpYes X51.here hx rfl (pc0 := 28) (pc' := 43) rfl (hb hby d1_28) rfl (feq hc26).2 (by decide) (by decide) ?_
      show Steps p.tables e below (T51.setTop (mkF m 43 #[.val (.int p0), .val (.int p1), .val (.ref (u 0)), .val (.int (4 : Int32)), .val (.int (1 : Int32)), .val (.ref (u 2))] [])) _
      refine XS.iinc X51.here hx rfl (hb hby d1_43) rfl (l' := #[.val (.int p0), .val (.int p1), .val (.ref (u 0)), .val (.int (4 : Int32)), .val (.int (2 : Int32)), .val (.ref (u 2))]) rfl ?_
      show Steps p.tables e below (T51.setTop (mkF m 46 #[.val (.int p0), .val (.int p1), .val (.ref (u 0)), .val (.int (4 : Int32)), .val (.int (2 : Int32)), .val (.ref (u 2))] [])) _
      refine XS.goto X51.here hx rfl (pc0 := 46) (pc' := 10) rfl (hb hby d1_46) (by decide) (by decide) ?_
      show Steps p.tables e below (T51.setTop (mkF m 10 #[.val (.int p0), .val (.int p1), .val (.ref (u 0)), .val (.int (4 : Int32)), .val (.int (2 : Int32)), .val (.ref (u 2))] [])) _
      refine XS.iload X51.here hx rfl (hb hby d1_10) rfl ?_
      show Steps p.tables e below (T51.setTop (mkF m 12 #[.val (.int p0), .val (.int p1), .val (.ref (u 0)), .val (.int (4 : Int32)), .val (.int (2 : Int32)), .val (.ref (u 2))] [(.int (2 : Int32))])) _
      refine XS.iloadN X51.here hx rfl (hb hby d1_12) rfl ?_
      show Steps p.tables e below (T51.setTop (mkF m 13 #[.val (.int p0), .val (.int p1), .val (.ref (u 0)), .val (.int (4 : Int32)), .val (.int (2 : Int32)), .val (.ref (u 2))] [(.int (4 : Int32)), (.int (2 : Int32))])) _
      refine XS.icmpNo X51.here hx rfl (hb hby d1_13) rfl (tlt (by decide : (2 : Int32) < (4 : Int32))).2.1 ?_
      show Steps p.tables e below (T51.setTop (mkF m 16 #[.val (.int p0), .val (.int p1), .val (.ref (u 0)), .val (.int (4 : Int32)), .val (.int (2 : Int32)), .val (.ref (u 2))] [])) _
      refine XS.aloadN X51.here hx rfl (hb hby d1_16) rfl rfl ?_
      show Steps p.tables e below (T51.setTop (mkF m 17 #[.val (.int p0), .val (.int p1), .val (.ref (u 0)), .val (.int (4 : Int32)), .val (.int (2 : Int32)), .val (.ref (u 2))] [(.ref (u 0))])) _
      refine XS.iload X51.here hx rfl (hb hby d1_17) rfl ?_
      show Steps p.tables e below (T51.setTop (mkF m 19 #[.val (.int p0), .val (.int p1), .val (.ref (u 0)), .val (.int (4 : Int32)), .val (.int (2 : Int32)), .val (.ref (u 2))] [(.int (2 : Int32)), (.ref (u 0))])) _
      refine X51.aaload hx (j := (2 : Int32)) (v := (.ref (u 3))) (by rw [e51]; exact Ar52.1) (State.isArrayOf_alike hZ.alike Ar52.2.1) rfl Ar52.2.2 hin52 (H52.at hin52 rfl) (g := (mkF m 19 #[.val (.int p0), .val (.int p1), .val (.ref (u 0)), .val (.int (4 : Int32)), .val (.int (2 : Int32)), .val (.ref (u 2))] [(.int (2 : Int32)), (.ref (u 0))])) rfl rfl (hb hby d1_19) _ ?_
      show Steps p.tables e below (T51.setTop (mkF m 20 #[.val (.int p0), .val (.int p1), .val (.ref (u 0)), .val (.int (4 : Int32)), .val (.int (2 : Int32)), .val (.ref (u 2))] [(.ref (u 3))])) _
      refine XS.astore X51.here hx rfl (hb hby d1_20) rfl rfl (l' := #[.val (.int p0), .val (.int p1), .val (.ref (u 0)), .val (.int (4 : Int32)), .val (.int (2 : Int32)), .val (.ref (u 3))]) rfl ?_
      show Steps p.tables e below (T51.setTop (mkF m 22 #[.val (.int p0), .val (.int p1), .val (.ref (u 0)), .val (.int (4 : Int32)), .val (.int (2 : Int32)), .val (.ref (u 3))] [])) _
      refine XS.aload X51.here hx rfl (hb hby d1_22) rfl rfl ?_
      show Steps p.tables e below (T51.setTop (mkF m 24 #[.val (.int p0), .val (.int p1), .val (.ref (u 0)), .val (.int (4 : Int32)), .val (.int (2 : Int32)), .val (.ref (u 3))] [(.ref (u 3))])) _
      refine st53 _ ?_
      show Steps p.tables e below (T53.setTop (mkF m 27 #[.val (.int p0), .val (.int p1), .val (.ref (u 0)), .val (.int (4 : Int32)), .val (.int (2 : Int32)), .val (.ref (u 3))] [(.int (1 : Int32))])) _
      refine XS.iloadN X53.here hx rfl (hb hby d1_27) rfl ?_
      show Steps p.tables e below (T53.setTop (mkF m 28 #[.val (.int p0), .val (.int p1), .val (.ref (u 0)), .val (.int (4 : Int32)), .val (.int (2 : Int32)), .val (.ref (u 3))] [(.int p0), (.int (1 : Int32))])) _
      refine XS.icmpYes X53.here hx rfl (pc0 := 28) (pc' := 43) rfl (hb hby d1_28) rfl (feq hc26).2 (by decide) (by decide) ?_
      show Steps p.tables e below (T53.setTop (mkF m 43 #[.val (.int p0), .val (.int p1), .val (.ref (u 0)), .val (.int (4 : Int32)), .val (.int (2 : Int32)), .val (.ref (u 3))] [])) _
      refine XS.iinc X53.here hx rfl (hb hby d1_43) rfl (l' := #[.val (.int p0), .val (.int p1), .val (.ref (u 0)), .val (.int (4 : Int32)), .val (.int (3 : Int32)), .val (.ref (u 3))]) rfl ?_
      show Steps p.tables e below (T53.setTop (mkF m 46 #[.val (.int p0), .val (.int p1), .val (.ref (u 0)), .val (.int (4 : Int32)), .val (.int (3 : Int32)), .val (.ref (u 3))] [])) _
      refine XS.goto X53.here hx rfl (pc0 := 46) (pc' := 10) rfl (hb hby d1_46) (by decide) (by decide) ?_
      show Steps p.tables e below (T53.setTop (mkF m 10 #[.val (.int p0), .val (.int p1), .val (.ref (u 0)), .val (.int (4 : Int32)), .val (.int (3 : Int32)), .val (.ref (u 3))] [])) _
      refine XS.iload X53.here hx rfl (hb hby d1_10) rfl ?_
      show Steps p.tables e below (T53.setTop (mkF m 12 #[.val (.int p0), .val (.int p1), .val (.ref (u 0)), .val (.int (4 : Int32)), .val (.int (3 : Int32)), .val (.ref (u 3))] [(.int (3 : Int32))])) _
      refine XS.iloadN X53.here hx rfl (hb hby d1_12) rfl ?_
      show Steps p.tables e below (T53.setTop (mkF m 13 #[.val (.int p0), .val (.int p1), .val (.ref (u 0)), .val (.int (4 : Int32)), .val (.int (3 : Int32)), .val (.ref (u 3))] [(.int (4 : Int32)), (.int (3 : Int32))])) _
      refine XS.icmpNo X53.here hx rfl (hb hby d1_13) rfl (tlt (by decide : (3 : Int32) < (4 : Int32))).2.1 ?_
      show Steps p.tables e below (T53.setTop (mkF m 16 #[.val (.int p0), .val (.int p1), .val (.ref (u 0)), .val (.int (4 : Int32)), .val (.int (3 : Int32)), .val (.ref (u 3))] [])) _
      refine XS.aloadN X53.here hx rfl (hb hby d1_16) rfl rfl ?_
      show Steps p.tables e below (T53.setTop (mkF m 17 #[.val (.int p0), .val (.int p1), .val (.ref (u 0)), .val (.int (4 : Int32)), .val (.int (3 : Int32)), .val (.ref (u 3))] [(.ref (u 0))])) _
      refine XS.iload X53.here hx rfl (hb hby d1_17) rfl ?_
      show Steps p.tables e below (T53.setTop (mkF m 19 #[.val (.int p0), .val (.int p1), .val (.ref (u 0)), .val (.int (4 : Int32)), .val (.int (3 : Int32)), .val (.ref (u 3))] [(.int (3 : Int32)), (.ref (u 0))])) _
      refine X53.aaload hx (j := (3 : Int32)) (v := (.ref (u 4))) (by rw [e53]; exact Ar54.1) (State.isArrayOf_alike hZ.alike Ar54.2.1) rfl Ar54.2.2 hin54 (H54.at hin54 rfl) (g := (mkF m 19 #[.val (.int p0), .val (.int p1), .val (.ref (u 0)), .val (.int (4 : Int32)), .val (.int (3 : Int32)), .val (.ref (u 3))] [(.int (3 : Int32)), (.ref (u 0))])) rfl rfl (hb hby d1_19) _ ?_
      show Steps p.tables e below (T53.setTop (mkF m 20 #[.val (.int p0), .val (.int p1), .val (.ref (u 0)), .val (.int (4 : Int32)), .val (.int (3 : Int32)), .val (.ref (u 3))] [(.ref (u 4))])) _
      refine XS.astore X53.here hx rfl (hb hby d1_20) rfl rfl (l' := #[.val (.int p0), .val (.int p1), .val (.ref (u 0)), .val (.int (4 : Int32)), .val (.int (3 : Int32)), .val (.ref (u 4))]) rfl ?_
      show Steps p.tables e below (T53.setTop (mkF m 22 #[.val (.int p0), .val (.int p1), .val (.ref (u 0)), .val (.int (4 : Int32)), .val (.int (3 : Int32)), .val (.ref (u 4))] [])) _
      refine XS.aload X53.here hx rfl (hb hby d1_22) rfl rfl ?_
      show Steps p.tables e below (T53.setTop (mkF m 24 #[.val (.int p0), .val (.int p1), .val (.ref (u 0)), .val (.int (4 : Int32)), .val (.int (3 : Int32)), .val (.ref (u 4))] [(.ref (u 4))])) _
      refine st55 _ ?_
      show Steps p.tables e below (T55.setTop (mkF m 27 #[.val (.int p0), .val (.int p1), .val (.ref (u 0)), .val (.int (4 : Int32)), .val (.int (3 : Int32)), .val (.ref (u 4))] [(.int (1 : Int32))])) _
      refine XS.iloadN X55.here hx rfl (hb hby d1_27) rfl ?_
      show Steps p.tables e below (T55.setTop (mkF m 28 #[.val (.int p0), .val (.int p1), .val (.ref (u 0)), .val (.int (4 : Int32)), .val (.int (3 : Int32)), .val (.ref (u 4))] [(.int p0), (.int (1 : Int32))])) _
      refine XS.icmpYes X55.here hx rfl (pc0 := 28) (pc' := 43) rfl (hb hby d1_28) rfl (feq hc26).2 (by decide) (by decide) ?_
      show Steps p.tables e below (T55.setTop (mkF m 43 #[.val (.int p0), .val (.int p1), .val (.ref (u 0)), .val (.int (4 : Int32)), .val (.int (3 : Int32)), .val (.ref (u 4))] [])) _
      refine XS.iinc X55.here hx rfl (hb hby d1_43) rfl (l' := #[.val (.int p0), .val (.int p1), .val (.ref (u 0)), .val (.int (4 : Int32)), .val (.int (4 : Int32)), .val (.ref (u 4))]) rfl ?_
      show Steps p.tables e below (T55.setTop (mkF m 46 #[.val (.int p0), .val (.int p1), .val (.ref (u 0)), .val (.int (4 : Int32)), .val (.int (4 : Int32)), .val (.ref (u 4))] [])) _
      refine XS.goto X55.here hx rfl (pc0 := 46) (pc' := 10) rfl (hb hby d1_46) (by decide) (by decide) ?_
      show Steps p.tables e below (T55.setTop (mkF m 10 #[.val (.int p0), .val (.int p1), .val (.ref (u 0)), .val (.int (4 : Int32)), .val (.int (4 : Int32)), .val (.ref (u 4))] [])) _
      refine XS.iload X55.here hx rfl (hb hby d1_10) rfl ?_
      show Steps p.tables e below (T55.setTop (mkF m 12 #[.val (.int p0), .val (.int p1), .val (.ref (u 0)), .val (.int (4 : Int32)), .val (.int (4 : Int32)), .val (.ref (u 4))] [(.int (4 : Int32))])) _
      refine XS.iloadN X55.here hx rfl (hb hby d1_12) rfl ?_
      show Steps p.tables e below (T55.setTop (mkF m 13 #[.val (.int p0), .val (.int p1), .val (.ref (u 0)), .val (.int (4 : Int32)), .val (.int (4 : Int32)), .val (.ref (u 4))] [(.int (4 : Int32)), (.int (4 : Int32))])) _
      refine XS.icmpYes X55.here hx rfl (pc0 := 13) (pc' := 49) rfl (hb hby d1_13) rfl (flt (by decide : ¬ ((4 : Int32) < (4 : Int32)))).2.1 (by decide) (by decide) ?_
      show Steps p.tables e below (T55.setTop (mkF m 49 #[.val (.int p0), .val (.int p1), .val (.ref (u 0)), .val (.int (4 : Int32)), .val (.int (4 : Int32)), .val (.ref (u 4))] [])) _
      refine XS.aconstNull X55.here hx rfl (hb hby d1_49) ?_
      show Steps p.tables e below (T55.setTop (mkF m 50 #[.val (.int p0), .val (.int p1), .val (.ref (u 0)), .val (.int (4 : Int32)), .val (.int (4 : Int32)), .val (.ref (u 4))] [.null])) _
      exact retOut X55 hx Bd.returns (own_narref rfl rfl) (Or.inr (Or.inr (Or.inr (Or.inr ⟨rfl, rfl, rfl⟩)))) (hb hby d1_50) hr
    · show own_Q1 Z u p0 p1 h0 n0 _ T55.heap _
      rw [e55]
      exact ⟨(by unfold own_r1; rw [if_neg hc26]), N0, rfl⟩
theorem own_pn_0 : plainName "com/example/portcullis/portcullis/giop/GiopVersionOfPinLaw" = true := by first | (simp [plainName, overriddenIn]; done) | decide +kernel
theorem own_ef_0 (m : MethodId) (x0 : Int32) (x1 : Int32) (x2 : Int32) : entryFrame m #[(.int x0), (.int x1), (.int x2)] maxLocals = mkF m 0 #[.val (.int x0), .val (.int x1), .val (.int x2), .unset, .unset, .unset] [] := by first | (simp [entryFrame, mkF, argsToLocals, Value.category, maxLocals]; done) | rfl
def own_Q0 (Z : State) (u : Nat → Addr) (p0 : Int32) (p1 : Int32) (p2 : Int32) (h0 : Heap) (n0 : Nat) (v : Option Value) (h : Heap) (L : List Loc) : Prop := v = some (.int (1 : Int32)) ∧ Fr n0 L ∧ True
set_option maxRecDepth 65536 in
set_option maxHeartbeats 40000000 in
theorem rm0 (l : Launch) (Z : State) (a0 : Array Value) (hw : ∀ d ∈ tables_1, d.before a0 Z = true) (ws : List Jvm.Cond) (u : Nat → Addr) (p0 : Int32) (p1 : Int32) (p2 : Int32) (B : own_Base Z u) (h0 : Heap) (n0 : Nat) (O : Old Z n0 h0) :
    MetFree l x (head1 (Jvm.Cond.code x code maxLocals ret :: ws) room_1) (fun a U => a = #[(.int p0), (.int p1), (.int p2)] ∧ Z.Warmed39 U.vm ∧ U.heap = h0) (fun _ _ _ _ _ => True) (fun _ U o U' => ∃ v L, o = .returned v ∧ own_Q0 Z u p0 p1 p2 h0 n0 v U'.heap L ∧ FrameEnd U o U' L room_1.cells room_1.slots) := by
  refine MetFree.of_bodySF (plainFor_of_name own_pn_0) hisR ?_
  intro p e s m args below meth c s₁ Bd hml0 hP hK
  obtain ⟨rfl, hZ, hh⟩ := hP
  have hx := Bd.exec
  have hby := Bd.bytes
  have hml : c.maxLocals = 6 := hml0
  have hown : s.vm.findClass "com/example/portcullis/portcullis/giop/GiopVersionOfPinLaw" = some m.cls := findClass_of_methodNamed Bd.named
  have hnm := (name_of_methodNamed Bd.named Bd.method).1
  have X0 : Stand p l e room_1 s m #[(.int p0), (.int p1), (.int p2)] below meth c s₁ [] 0 0 := Stand.of_body Bd
  have e0 : s₁.heap = h0 := by rw [← hh, Bd.state]; rfl
  have N0 := Fr.nil n0
  have K0 := Keep.refl h0 []
  have Z0 : n0 ≤ h0.size := O.1 ▸ O.2.1
  have pre0 : ∀ t, Steps p.tables e below (s₁.setTop (mkF m 0 #[.val (.int p0), .val (.int p1), .val (.int p2), .unset, .unset, .unset] [])) t → Steps p.tables e below (s₁.setTop (entryFrame m #[(.int p0), (.int p1), (.int p2)] maxLocals)) t := fun t k => castTop (own_ef_0 m p0 p1 p2) k
  have pre57 : ∀ t, Steps p.tables e below (s₁.setTop (mkF m 3 #[.val (.int p0), .val (.int p1), .val (.int p2), .unset, .unset, .unset] [(.int (p2 &&& (1 : Int32)))])) t → Steps p.tables e below (s₁.setTop (entryFrame m #[(.int p0), (.int p1), (.int p2)] maxLocals)) t := fun t kt => pre0 t (by
    show Steps p.tables e below (s₁.setTop (mkF m 0 #[.val (.int p0), .val (.int p1), .val (.int p2), .unset, .unset, .unset] [])) _
    refine XS.iloadN X0.here hx rfl (hb hby at_0) rfl ?_
    show Steps p.tables e below (s₁.setTop (mkF m 1 #[.val (.int p0), .val (.int p1), .val (.int p2), .unset, .unset, .unset] [(.int p2)])) _
    refine XS.iconst X0.here hx rfl (hb hby at_1) ?_
    show Steps p.tables e below (s₁.setTop (mkF m 2 #[.val (.int p0), .val (.int p1), .val (.int p2), .unset, .unset, .unset] [(.int (1 : Int32)), (.int p2)])) _
    refine XS.iand X0.here hx rfl (hb hby at_2) rfl ?_
    exact kt)
  by_cases hc58 : (p2 &&& (1 : Int32)) = (0 : Int32)
  · --
    have pre59 : ∀ t, Steps p.tables e below (s₁.setTop (mkF m 17 #[.val (.int p0), .val (.int p1), .val (.int p2), .val (.int p0), .unset, .unset] [(.int (p2 &&& (2 : Int32)))])) t → Steps p.tables e below (s₁.setTop (entryFrame m #[(.int p0), (.int p1), (.int p2)] maxLocals)) t := fun t kt => pre57 t (by
      show Steps p.tables e below (s₁.setTop (mkF m 3 #[.val (.int p0), .val (.int p1), .val (.int p2), .unset, .unset, .unset] [(.int (p2 &&& (1 : Int32)))])) _
      refine XS.ifYes X0.here hx rfl (pc0 := 3) (pc' := 12) rfl (hb hby at_3) rfl ((if0 _ _).trans (teq hc58).1) (by decide) (by decide) ?_
      show Steps p.tables e below (s₁.setTop (mkF m 12 #[.val (.int p0), .val (.int p1), .val (.int p2), .unset, .unset, .unset] [])) _
      refine XS.iloadN X0.here hx rfl (hb hby at_12) rfl ?_
      show Steps p.tables e below (s₁.setTop (mkF m 13 #[.val (.int p0), .val (.int p1), .val (.int p2), .unset, .unset, .unset] [(.int p0)])) _
      refine XS.istoreN X0.here hx rfl (hb hby at_13) rfl (l' := #[.val (.int p0), .val (.int p1), .val (.int p2), .val (.int p0), .unset, .unset]) rfl ?_
      show Steps p.tables e below (s₁.setTop (mkF m 14 #[.val (.int p0), .val (.int p1), .val (.int p2), .val (.int p0), .unset, .unset] [])) _
      refine XS.iloadN X0.here hx rfl (hb hby at_14) rfl ?_
      show Steps p.tables e below (s₁.setTop (mkF m 15 #[.val (.int p0), .val (.int p1), .val (.int p2), .val (.int p0), .unset, .unset] [(.int p2)])) _
      refine XS.iconst X0.here hx rfl (hb hby at_15) ?_
      show Steps p.tables e below (s₁.setTop (mkF m 16 #[.val (.int p0), .val (.int p1), .val (.int p2), .val (.int p0), .unset, .unset] [(.int (2 : Int32)), (.int p2)])) _
      refine XS.iand X0.here hx rfl (hb hby at_16) rfl ?_
      exact kt)
    by_cases hc60 : (p2 &&& (2 : Int32)) = (0 : Int32)
    · --
      have pre61 : ∀ t, Steps p.tables e below (s₁.setTop (mkF m 35 #[.val (.int p0), .val (.int p1), .val (.int p2), .val (.int p0), .val (.int p1), .unset] [(.int p1), (.int p0)])) t → Steps p.tables e below (s₁.setTop (entryFrame m #[(.int p0), (.int p1), (.int p2)] maxLocals)) t := fun t kt => pre59 t (by
        show Steps p.tables e below (s₁.setTop (mkF m 17 #[.val (.int p0), .val (.int p1), .val (.int p2), .val (.int p0), .unset, .unset] [(.int (p2 &&& (2 : Int32)))])) _
        refine XS.ifYes X0.here hx rfl (pc0 := 17) (pc' := 29) rfl (hb hby at_17) rfl ((if0 _ _).trans (teq hc60).1) (by decide) (by decide) ?_
        show Steps p.tables e below (s₁.setTop (mkF m 29 #[.val (.int p0), .val (.int p1), .val (.int p2), .val (.int p0), .unset, .unset] [])) _
        refine XS.iloadN X0.here hx rfl (hb hby at_29) rfl ?_
        show Steps p.tables e below (s₁.setTop (mkF m 30 #[.val (.int p0), .val (.int p1), .val (.int p2), .val (.int p0), .unset, .unset] [(.int p1)])) _
        refine XS.istore X0.here hx rfl (hb hby at_30) rfl (l' := #[.val (.int p0), .val (.int p1), .val (.int p2), .val (.int p0), .val (.int p1), .unset]) rfl ?_
        show Steps p.tables e below (s₁.setTop (mkF m 32 #[.val (.int p0), .val (.int p1), .val (.int p2), .val (.int p0), .val (.int p1), .unset] [])) _
        refine XS.iloadN X0.here hx rfl (hb hby at_32) rfl ?_
        show Steps p.tables e below (s₁.setTop (mkF m 33 #[.val (.int p0), .val (.int p1), .val (.int p2), .val (.int p0), .val (.int p1), .unset] [(.int p0)])) _
        refine XS.iload X0.here hx rfl (hb hby at_33) rfl ?_
        exact kt)
      obtain ⟨vr62, _, ⟨T62, L62, k62, n62⟩, -, X62, ⟨Lc62, hQ62, l62, y62, z62⟩, st62⟩ := Jvm.LawKit.callS X0 hx (y := (⟨"com/example/portcullis/portcullis/giop/GiopVersion", "of", "(II)Lcom/example/portcullis/portcullis/giop/GiopVersion;"⟩ : MethodName)) hown (mvT hZ (hw _ (List.mem_of_getElem? (i := 0) rfl))) (mvT hZ (hw _ (List.mem_of_getElem? (i := 1) rfl))) (mvT hZ (hw _ (List.mem_of_getElem? (i := 2) rfl))) (mvT hZ (hw _ (List.mem_of_getElem? (i := 3) rfl))) (by decide) (backOf (W := 0) (rm1 l Z a0 hw [] u p0 p1 B h0 n0 O ) hZ (hw _ (List.mem_of_getElem? (i := 3) rfl)) (hw _ (List.mem_of_getElem? (i := 2) rfl)) (by decide) (by decide)) (g := (mkF m 35 #[.val (.int p0), .val (.int p1), .val (.int p2), .val (.int p0), .val (.int p1), .unset] [(.int p1), (.int p0)])) rfl (by rw [hml]; rfl) (argsL := [(.int p0), (.int p1)]) (rest := []) (lenOf own_pd0 rfl) rfl (by show 2 * 0 + _ ≤ _; exact Nat.le_of_eq rfl) (hb hby at_35) (fun _ _ => ⟨rfl, e0, (by decide : 0 + 0 ≤ _), (by decide : 0 + 0 ≤ _)⟩)
      dsimp only [Pt.U, Pt.locs, Pt.cells, Pt.slots] at X62 l62 y62 z62 st62 hQ62
      subst l62 y62 z62
      obtain ⟨hv62, N62q, e62⟩ := hQ62
      have N62 := Fr.app N0 N62q
      by_cases hc63 : (1 : Int32) = p0
      · --
        by_cases hc64 : (0 : Int32) = p1
        · --
          obtain rfl : vr62 = some (.ref (u 1)) := hv62.trans (by unfold own_r1; rw [if_pos hc63, if_pos hc64])
          have pre65 : ∀ t, Steps p.tables e below (T62.setTop (mkF m 45 #[.val (.int p0), .val (.int p1), .val (.int p2), .val (.int p0), .val (.int p1), .val (.ref (u 1))] [(.int p1), (.int p0), (.ref (u 1))])) t → Steps p.tables e below (s₁.setTop (entryFrame m #[(.int p0), (.int p1), (.int p2)] maxLocals)) t := fun t kt => pre61 t (by
            show Steps p.tables e below (s₁.setTop (mkF m 35 #[.val (.int p0), .val (.int p1), .val (.int p2), .val (.int p0), .val (.int p1), .unset] [(.int p1), (.int p0)])) _
            refine st62 _ ?_
            show Steps p.tables e below (T62.setTop (mkF m 38 #[.val (.int p0), .val (.int p1), .val (.int p2), .val (.int p0), .val (.int p1), .unset] [(.ref (u 1))])) _
            refine XS.astore X62.here hx rfl (hb hby at_38) rfl rfl (l' := #[.val (.int p0), .val (.int p1), .val (.int p2), .val (.int p0), .val (.int p1), .val (.ref (u 1))]) rfl ?_
            show Steps p.tables e below (T62.setTop (mkF m 40 #[.val (.int p0), .val (.int p1), .val (.int p2), .val (.int p0), .val (.int p1), .val (.ref (u 1))] [])) _
            refine XS.aload X62.here hx rfl (hb hby at_40) rfl rfl ?_
            show Steps p.tables e below (T62.setTop (mkF m 42 #[.val (.int p0), .val (.int p1), .val (.int p2), .val (.int p0), .val (.int p1), .val (.ref (u 1))] [(.ref (u 1))])) _
            refine XS.iloadN X62.here hx rfl (hb hby at_42) rfl ?_
            show Steps p.tables e below (T62.setTop (mkF m 43 #[.val (.int p0), .val (.int p1), .val (.int p2), .val (.int p0), .val (.int p1), .val (.ref (u 1))] [(.int p0), (.ref (u 1))])) _
            refine XS.iload X62.here hx rfl (hb hby at_43) rfl ?_
            exact kt)
          obtain ⟨vr66, _, ⟨T66, L66, k66, n66⟩, -, X66, ⟨Lc66, hQ66, l66, y66, z66⟩, st66⟩ := Jvm.LawKit.callS X62 hx (y := (⟨"com/example/portcullis/portcullis/giop/GiopVersionOfPinLaw", "expected", "(II)Lcom/example/portcullis/portcullis/giop/GiopVersion;"⟩ : MethodName)) hown (mvT hZ (hw _ (List.mem_of_getElem? (i := 12) rfl))) (mvT hZ (hw _ (List.mem_of_getElem? (i := 13) rfl))) (mvT hZ (hw _ (List.mem_of_getElem? (i := 14) rfl))) (mvT hZ (hw _ (List.mem_of_getElem? (i := 15) rfl))) (by decide) (backOf (W := 1) (rm2 l Z a0 hw [] u p0 p1 B h0 n0 O ) hZ (hw _ (List.mem_of_getElem? (i := 15) rfl)) (hw _ (List.mem_of_getElem? (i := 14) rfl)) (by decide) (by decide)) (g := (mkF m 45 #[.val (.int p0), .val (.int p1), .val (.int p2), .val (.int p0), .val (.int p1), .val (.ref (u 1))] [(.int p1), (.int p0), (.ref (u 1))])) rfl (by rw [hml]; rfl) (argsL := [(.int p0), (.int p1)]) (rest := [(.ref (u 1))]) (lenOf own_pd0 rfl) rfl (by show 2 * 0 + _ ≤ _; exact Nat.le_of_eq rfl) (hb hby at_45) (fun _ _ => ⟨rfl, e62, (by decide : 0 + 0 ≤ _), (by decide : 0 + 0 ≤ _)⟩)
          dsimp only [Pt.U, Pt.locs, Pt.cells, Pt.slots] at X66 l66 y66 z66 st66 hQ66
          subst l66 y66 z66
          obtain ⟨hv66, N66q, e66⟩ := hQ66
          have N66 := Fr.app N62 N66q
          obtain rfl : vr66 = some (.ref (u 1)) := hv66.trans (by unfold own_r2; rw [if_pos (Eq.symm hc63), if_pos (Eq.symm hc64)])
          obtain ⟨fs, hr, hrun, hended, hW, hsame⟩ := X66.leave (v := some (.int (1 : Int32))) (fun h => by rw [Bd.returns] at h; cases h)
          refine ⟨_, _, pre65 _ ?_, hrun, hended, _, _, rfl, ?_, ⟨_, rfl⟩, hW, hsame.mono (by decide) (by decide)⟩
          · show Steps p.tables e below (T62.setTop (mkF m 45 #[.val (.int p0), .val (.int p1), .val (.int p2), .val (.int p0), .val (.int p1), .val (.ref (u 1))] [(.int p1), (.int p0), (.ref (u 1))])) _
            refine st66 _ ?_
            show Steps p.tables e below (T66.setTop (mkF m 48 #[.val (.int p0), .val (.int p1), .val (.int p2), .val (.int p0), .val (.int p1), .val (.ref (u 1))] [(.ref (u 1)), (.ref (u 1))])) _
            refine Jvm.RoadKit.acmp (g := (mkF m 48 #[.val (.int p0), .val (.int p1), .val (.int p2), .val (.int p0), .val (.int p1), .val (.ref (u 1))] [(.ref (u 1)), (.ref (u 1))])) X66 hx rfl rfl rfl (pc0 := 48) (pc' := 51) (same := true) rfl (hb hby at_48) rfl (decide_eq_true rfl) (by decide) (by decide) ?_
            show Steps p.tables e below (T66.setTop (mkF m 51 #[.val (.int p0), .val (.int p1), .val (.int p2), .val (.int p0), .val (.int p1), .val (.ref (u 1))] [])) _
            refine XS.iconst X66.here hx rfl (hb hby at_51) ?_
            show Steps p.tables e below (T66.setTop (mkF m 52 #[.val (.int p0), .val (.int p1), .val (.int p2), .val (.int p0), .val (.int p1), .val (.ref (u 1))] [(.int (1 : Int32))])) _
            refine XS.goto X66.here hx rfl (pc0 := 52) (pc' := 56) rfl (hb hby at_52) (by decide) (by decide) ?_
            show Steps p.tables e below (T66.setTop (mkF m 56 #[.val (.int p0), .val (.int p1), .val (.int p2), .val (.int p0), .val (.int p1), .val (.ref (u 1))] [(.int (1 : Int32))])) _
            exact retN X66 hx (t := .boolean) Bd.returns (by simp) (hb hby at_56) hr
          · show own_Q0 Z u p0 p1 p2 h0 n0 _ T66.heap _
            rw [e66]
            exact ⟨rfl, N66, trivial⟩
        · --
          by_cases hc68 : (1 : Int32) = p1
          · --
            obtain rfl : vr62 = some (.ref (u 2)) := hv62.trans (by unfold own_r1; rw [if_pos hc63, if_neg hc64, if_pos hc68])
            have pre69 : ∀ t, Steps p.tables e below (T62.setTop (mkF m 45 #[.val (.int p0), .val (.int p1), .val (.int p2), .val (.int p0), .val (.int p1), .val (.ref (u 2))] [(.int p1), (.int p0), (.ref (u 2))])) t → Steps p.tables e below (s₁.setTop (entryFrame m #[(.int p0), (.int p1), (.int p2)] maxLocals)) t := fun t kt => pre61 t (by
              show Steps p.tables e below (s₁.setTop (mkF m 35 #[.val (.int p0), .val (.int p1), .val (.int p2), .val (.int p0), .val (.int p1), .unset] [(.int p1), (.int p0)])) _
              refine st62 _ ?_
              show Steps p.tables e below (T62.setTop (mkF m 38 #[.val (.int p0), .val (.int p1), .val (.int p2), .val (.int p0), .val (.int p1), .unset] [(.ref (u 2))])) _
              refine XS.astore X62.here hx rfl (hb hby at_38) rfl rfl (l' := #[.val (.int p0), .val (.int p1), .val (.int p2), .val (.int p0), .val (.int p1), .val (.ref (u 2))]) rfl ?_
              show Steps p.tables e below (T62.setTop (mkF m 40 #[.val (.int p0), .val (.int p1), .val (.int p2), .val (.int p0), .val (.int p1), .val (.ref (u 2))] [])) _
              refine XS.aload X62.here hx rfl (hb hby at_40) rfl rfl ?_
              show Steps p.tables e below (T62.setTop (mkF m 42 #[.val (.int p0), .val (.int p1), .val (.int p2), .val (.int p0), .val (.int p1), .val (.ref (u 2))] [(.ref (u 2))])) _
              refine XS.iloadN X62.here hx rfl (hb hby at_42) rfl ?_
              show Steps p.tables e below (T62.setTop (mkF m 43 #[.val (.int p0), .val (.int p1), .val (.int p2), .val (.int p0), .val (.int p1), .val (.ref (u 2))] [(.int p0), (.ref (u 2))])) _
              refine XS.iload X62.here hx rfl (hb hby at_43) rfl ?_
              exact kt)
            obtain ⟨vr70, _, ⟨T70, L70, k70, n70⟩, -, X70, ⟨Lc70, hQ70, l70, y70, z70⟩, st70⟩ := Jvm.LawKit.callS X62 hx (y := (⟨"com/example/portcullis/portcullis/giop/GiopVersionOfPinLaw", "expected", "(II)Lcom/example/portcullis/portcullis/giop/GiopVersion;"⟩ : MethodName)) hown (mvT hZ (hw _ (List.mem_of_getElem? (i := 12) rfl))) (mvT hZ (hw _ (List.mem_of_getElem? (i := 13) rfl))) (mvT hZ (hw _ (List.mem_of_getElem? (i := 14) rfl))) (mvT hZ (hw _ (List.mem_of_getElem? (i := 15) rfl))) (by decide) (backOf (W := 1) (rm2 l Z a0 hw [] u p0 p1 B h0 n0 O ) hZ (hw _ (List.mem_of_getElem? (i := 15) rfl)) (hw _ (List.mem_of_getElem? (i := 14) rfl)) (by decide) (by decide)) (g := (mkF m 45 #[.val (.int p0), .val (.int p1), .val (.int p2), .val (.int p0), .val (.int p1), .val (.ref (u 2))] [(.int p1), (.int p0), (.ref (u 2))])) rfl (by rw [hml]; rfl) (argsL := [(.int p0), (.int p1)]) (rest := [(.ref (u 2))]) (lenOf own_pd0 rfl) rfl (by show 2 * 0 + _ ≤ _; exact Nat.le_of_eq rfl) (hb hby at_45) (fun _ _ => ⟨rfl, e62, (by decide : 0 + 0 ≤ _), (by decide : 0 + 0 ≤ _)⟩)
            dsimp only [Pt.U, Pt.locs, Pt.cells, Pt.slots] at X70 l70 y70 z70 st70 hQ70
            subst l70 y70 z70
            obtain ⟨hv70, N70q, e70⟩ := hQ70
            have N70 := Fr.app N62 N70q
            obtain rfl : vr70 = some (.ref (u 2)) := hv70.trans (by unfold own_r2; rw [if_pos (Eq.symm hc63), if_neg (fun q => hc64 (Eq.symm q)), if_pos (Eq.symm hc68)])
            obtain ⟨fs, hr, hrun, hended, hW, hsame⟩ := X70.leave (v := some (.int (1 : Int32))) (fun h => by rw [Bd.returns] at h; cases h)
            refine ⟨_, _, pre69 _ ?_, hrun, hended, _, _, rfl, ?_, ⟨_, rfl⟩, hW, hsame.mono (by decide) (by decide)⟩
            · show Steps p.tables e below (T62.setTop (mkF m 45 #[.val (.int p0), .val (.int p1), .val (.int p2), .val (.int p0), .val (.int p1), .val (.ref (u 2))] [(.int p1), (.int p0), (.ref (u 2))])) _
              refine st70 _ ?_
              show Steps p.tables e below (T70.setTop (mkF m 48 #[.val (.int p0), .val (.int p1), .val (.int p2), .val (.int p0), .val (.int p1), .val (.ref (u 2))] [(.ref (u 2)), (.ref (u 2))])) _
              refine Jvm.RoadKit.acmp (g := (mkF m 48 #[.val (.int p0), .val (.int p1), .val (.int p2), .val (.int p0), .val (.int p1), .val (.ref (u 2))] [(.ref (u 2)), (.ref (u 2))])) X70 hx rfl rfl rfl (pc0 := 48) (pc' := 51) (same := true) rfl (hb hby at_48) rfl (decide_eq_true rfl) (by decide) (by decide) ?_
              show Steps p.tables e below (T70.setTop (mkF m 51 #[.val (.int p0), .val (.int p1), .val (.int p2), .val (.int p0), .val (.int p1), .val (.ref (u 2))] [])) _
              refine XS.iconst X70.here hx rfl (hb hby at_51) ?_
              show Steps p.tables e below (T70.setTop (mkF m 52 #[.val (.int p0), .val (.int p1), .val (.int p2), .val (.int p0), .val (.int p1), .val (.ref (u 2))] [(.int (1 : Int32))])) _
              refine XS.goto X70.here hx rfl (pc0 := 52) (pc' := 56) rfl (hb hby at_52) (by decide) (by decide) ?_
              show Steps p.tables e below (T70.setTop (mkF m 56 #[.val (.int p0), .val (.int p1), .val (.int p2), .val (.int p0), .val (.int p1), .val (.ref (u 2))] [(.int (1 : Int32))])) _
              exact retN X70 hx (t := .boolean) Bd.returns (by simp) (hb hby at_56) hr
            · show own_Q0 Z u p0 p1 p2 h0 n0 _ T70.heap _
              rw [e70]
              exact ⟨rfl, N70, trivial⟩
          · --
            by_cases hc72 : (2 : Int32) = p1
            · --
              obtain rfl : vr62 = some (.ref (u 3)) := hv62.trans (by unfold own_r1; rw [if_pos hc63, if_neg hc64, if_neg hc68, if_pos hc72])
              have pre73 : ∀ t, Steps p.tables e below (T62.setTop (mkF m 45 #[.val (.int p0), .val (.int p1), .val (.int p2), .val (.int p0), .val (.int p1), .val (.ref (u 3))] [(.int p1), (.int p0), (.ref (u 3))])) t → Steps p.tables e below (s₁.setTop (entryFrame m #[(.int p0), (.int p1), (.int p2)] maxLocals)) t := fun t kt => pre61 t (by
                show Steps p.tables e below (s₁.setTop (mkF m 35 #[.val (.int p0), .val (.int p1), .val (.int p2), .val (.int p0), .val (.int p1), .unset] [(.int p1), (.int p0)])) _
                refine st62 _ ?_
                show Steps p.tables e below (T62.setTop (mkF m 38 #[.val (.int p0), .val (.int p1), .val (.int p2), .val (.int p0), .val (.int p1), .unset] [(.ref (u 3))])) _
                refine XS.astore X62.here hx rfl (hb hby at_38) rfl rfl (l' := #[.val (.int p0), .val (.int p1), .val (.int p2), .val (.int p0), .val (.int p1), .val (.ref (u 3))]) rfl ?_
                show Steps p.tables e below (T62.setTop (mkF m 40 #[.val (.int p0), .val (.int p1), .val (.int p2), .val (.int p0), .val (.int p1), .val (.ref (u 3))] [])) _
                refine XS.aload X62.here hx rfl (hb hby at_40) rfl rfl ?_
                show Steps p.tables e below (T62.setTop (mkF m 42 #[.val (.int p0), .val (.int p1), .val (.int p2), .val (.int p0), .val (.int p1), .val (.ref (u 3))] [(.ref (u 3))])) _
                refine XS.iloadN X62.here hx rfl (hb hby at_42) rfl ?_
                show Steps p.tables e below (T62.setTop (mkF m 43 #[.val (.int p0), .val (.int p1), .val (.int p2), .val (.int p0), .val (.int p1), .val (.ref (u 3))] [(.int p0), (.ref (u 3))])) _
                refine XS.iload X62.here hx rfl (hb hby at_43) rfl ?_
                exact kt)
              obtain ⟨vr74, _, ⟨T74, L74, k74, n74⟩, -, X74, ⟨Lc74, hQ74, l74, y74, z74⟩, st74⟩ := Jvm.LawKit.callS X62 hx (y := (⟨"com/example/portcullis/portcullis/giop/GiopVersionOfPinLaw", "expected", "(II)Lcom/example/portcullis/portcullis/giop/GiopVersion;"⟩ : MethodName)) hown (mvT hZ (hw _ (List.mem_of_getElem? (i := 12) rfl))) (mvT hZ (hw _ (List.mem_of_getElem? (i := 13) rfl))) (mvT hZ (hw _ (List.mem_of_getElem? (i := 14) rfl))) (mvT hZ (hw _ (List.mem_of_getElem? (i := 15) rfl))) (by decide) (backOf (W := 1) (rm2 l Z a0 hw [] u p0 p1 B h0 n0 O ) hZ (hw _ (List.mem_of_getElem? (i := 15) rfl)) (hw _ (List.mem_of_getElem? (i := 14) rfl)) (by decide) (by decide)) (g := (mkF m 45 #[.val (.int p0), .val (.int p1), .val (.int p2), .val (.int p0), .val (.int p1), .val (.ref (u 3))] [(.int p1), (.int p0), (.ref (u 3))])) rfl (by rw [hml]; rfl) (argsL := [(.int p0), (.int p1)]) (rest := [(.ref (u 3))]) (lenOf own_pd0 rfl) rfl (by show 2 * 0 + _ ≤ _; exact Nat.le_of_eq rfl) (hb hby at_45) (fun _ _ => ⟨rfl, e62, (by decide : 0 + 0 ≤ _), (by decide : 0 + 0 ≤ _)⟩)
              dsimp only [Pt.U, Pt.locs, Pt.cells, Pt.slots] at X74 l74 y74 z74 st74 hQ74
              subst l74 y74 z74
              obtain ⟨hv74, N74q, e74⟩ := hQ74
              have N74 := Fr.app N62 N74q
              obtain rfl : vr74 = some (.ref (u 3)) := hv74.trans (by unfold own_r2; rw [if_pos (Eq.symm hc63), if_neg (fun q => hc64 (Eq.symm q)), if_neg (fun q => hc68 (Eq.symm q)), if_pos (Eq.symm hc72)])
              obtain ⟨fs, hr, hrun, hended, hW, hsame⟩ := X74.leave (v := some (.int (1 : Int32))) (fun h => by rw [Bd.returns] at h; cases h)
              refine ⟨_, _, pre73 _ ?_, hrun, hended, _, _, rfl, ?_, ⟨_, rfl⟩, hW, hsame.mono (by decide) (by decide)⟩
              · show Steps p.tables e below (T62.setTop (mkF m 45 #[.val (.int p0), .val (.int p1), .val (.int p2), .val (.int p0), .val (.int p1), .val (.ref (u 3))] [(.int p1), (.int p0), (.ref (u 3))])) _
                refine st74 _ ?_
                show Steps p.tables e below (T74.setTop (mkF m 48 #[.val (.int p0), .val (.int p1), .val (.int p2), .val (.int p0), .val (.int p1), .val (.ref (u 3))] [(.ref (u 3)), (.ref (u 3))])) _
                refine Jvm.RoadKit.acmp (g := (mkF m 48 #[.val (.int p0), .val (.int p1), .val (.int p2), .val (.int p0), .val (.int p1), .val (.ref (u 3))] [(.ref (u 3)), (.ref (u 3))])) X74 hx rfl rfl rfl (pc0 := 48) (pc' := 51) (same := true) rfl (hb hby at_48) rfl (decide_eq_true rfl) (by decide) (by decide) ?_
                show Steps p.tables e below (T74.setTop (mkF m 51 #[.val (.int p0), .val (.int p1), .val (.int p2), .val (.int p0), .val (.int p1), .val (.ref (u 3))] [])) _
                refine XS.iconst X74.here hx rfl (hb hby at_51) ?_
                show Steps p.tables e below (T74.setTop (mkF m 52 #[.val (.int p0), .val (.int p1), .val (.int p2), .val (.int p0), .val (.int p1), .val (.ref (u 3))] [(.int (1 : Int32))])) _
                refine XS.goto X74.here hx rfl (pc0 := 52) (pc' := 56) rfl (hb hby at_52) (by decide) (by decide) ?_
                show Steps p.tables e below (T74.setTop (mkF m 56 #[.val (.int p0), .val (.int p1), .val (.int p2), .val (.int p0), .val (.int p1), .val (.ref (u 3))] [(.int (1 : Int32))])) _
                exact retN X74 hx (t := .boolean) Bd.returns (by simp) (hb hby at_56) hr
              · show own_Q0 Z u p0 p1 p2 h0 n0 _ T74.heap _
                rw [e74]
                exact ⟨rfl, N74, trivial⟩
            · --
              by_cases hc76 : (3 : Int32) = p1
              · --
                obtain rfl : vr62 = some (.ref (u 4)) := hv62.trans (by unfold own_r1; rw [if_pos hc63, if_neg hc64, if_neg hc68, if_neg hc72, if_pos hc76])
                have pre77 : ∀ t, Steps p.tables e below (T62.setTop (mkF m 45 #[.val (.int p0), .val (.int p1), .val (.int p2), .val (.int p0), .val (.int p1), .val (.ref (u 4))] [(.int p1), (.int p0), (.ref (u 4))])) t → Steps p.tables e below (s₁.setTop (entryFrame m #[(.int p0), (.int p1), (.int p2)] maxLocals)) t := fun t kt => pre61 t (by
                  show Steps p.tables e below (s₁.setTop (mkF m 35 #[.val (.int p0), .val (.int p1), .val (.int p2), .val (.int p0), .val (.int p1), .unset] [(.int p1), (.int p0)])) _
                  refine st62 _ ?_
                  show Steps p.tables e below (T62.setTop (mkF m 38 #[.val (.int p0), .val (.int p1), .val (.int p2), .val (.int p0), .val (.int p1), .unset] [(.ref (u 4))])) _
                  refine XS.astore X62.here hx rfl (hb hby at_38) rfl rfl (l' := #[.val (.int p0), .val (.int p1), .val (.int p2), .val (.int p0), .val (.int p1), .val (.ref (u 4))]) rfl ?_
                  show Steps p.tables e below (T62.setTop (mkF m 40 #[.val (.int p0), .val (.int p1), .val (.int p2), .val (.int p0), .val (.int p1), .val (.ref (u 4))] [])) _
                  refine XS.aload X62.here hx rfl (hb hby at_40) rfl rfl ?_
                  show Steps p.tables e below (T62.setTop (mkF m 42 #[.val (.int p0), .val (.int p1), .val (.int p2), .val (.int p0), .val (.int p1), .val (.ref (u 4))] [(.ref (u 4))])) _
                  refine XS.iloadN X62.here hx rfl (hb hby at_42) rfl ?_
                  show Steps p.tables e below (T62.setTop (mkF m 43 #[.val (.int p0), .val (.int p1), .val (.int p2), .val (.int p0), .val (.int p1), .val (.ref (u 4))] [(.int p0), (.ref (u 4))])) _
                  refine XS.iload X62.here hx rfl (hb hby at_43) rfl ?_
                  exact kt)
                obtain ⟨vr78, _, ⟨T78, L78, k78, n78⟩, -, X78, ⟨Lc78, hQ78, l78, y78, z78⟩, st78⟩ := Jvm.LawKit.callS X62 hx (y := (⟨"com/example/portcullis/portcullis/giop/GiopVersionOfPinLaw", "expected", "(II)Lcom/example/portcullis/portcullis/giop/GiopVersion;"⟩ : MethodName)) hown (mvT hZ (hw _ (List.mem_of_getElem? (i := 12) rfl))) (mvT hZ (hw _ (List.mem_of_getElem? (i := 13) rfl))) (mvT hZ (hw _ (List.mem_of_getElem? (i := 14) rfl))) (mvT hZ (hw _ (List.mem_of_getElem? (i := 15) rfl))) (by decide) (backOf (W := 1) (rm2 l Z a0 hw [] u p0 p1 B h0 n0 O ) hZ (hw _ (List.mem_of_getElem? (i := 15) rfl)) (hw _ (List.mem_of_getElem? (i := 14) rfl)) (by decide) (by decide)) (g := (mkF m 45 #[.val (.int p0), .val (.int p1), .val (.int p2), .val (.int p0), .val (.int p1), .val (.ref (u 4))] [(.int p1), (.int p0), (.ref (u 4))])) rfl (by rw [hml]; rfl) (argsL := [(.int p0), (.int p1)]) (rest := [(.ref (u 4))]) (lenOf own_pd0 rfl) rfl (by show 2 * 0 + _ ≤ _; exact Nat.le_of_eq rfl) (hb hby at_45) (fun _ _ => ⟨rfl, e62, (by decide : 0 + 0 ≤ _), (by decide : 0 + 0 ≤ _)⟩)
                dsimp only [Pt.U, Pt.locs, Pt.cells, Pt.slots] at X78 l78 y78 z78 st78 hQ78
                subst l78 y78 z78
                obtain ⟨hv78, N78q, e78⟩ := hQ78
                have N78 := Fr.app N62 N78q
                obtain rfl : vr78 = some (.ref (u 4)) := hv78.trans (by unfold own_r2; rw [if_pos (Eq.symm hc63), if_neg (fun q => hc64 (Eq.symm q)), if_neg (fun q => hc68 (Eq.symm q)), if_neg (fun q => hc72 (Eq.symm q)), if_pos (Eq.symm hc76)])
                obtain ⟨fs, hr, hrun, hended, hW, hsame⟩ := X78.leave (v := some (.int (1 : Int32))) (fun h => by rw [Bd.returns] at h; cases h)
                refine ⟨_, _, pre77 _ ?_, hrun, hended, _, _, rfl, ?_, ⟨_, rfl⟩, hW, hsame.mono (by decide) (by decide)⟩
                · show Steps p.tables e below (T62.setTop (mkF m 45 #[.val (.int p0), .val (.int p1), .val (.int p2), .val (.int p0), .val (.int p1), .val (.ref (u 4))] [(.int p1), (.int p0), (.ref (u 4))])) _
                  refine st78 _ ?_
                  show Steps p.tables e below (T78.setTop (mkF m 48 #[.val (.int p0), .val (.int p1), .val (.int p2), .val (.int p0), .val (.int p1), .val (.ref (u 4))] [(.ref (u 4)), (.ref (u 4))])) _
                  refine Jvm.RoadKit.acmp (g := (mkF m 48 #[.val (.int p0), .val (.int p1), .val (.int p2), .val (.int p0), .val (.int p1), .val (.ref (u 4))] [(.ref (u 4)), (.ref (u 4))])) X78 hx rfl rfl rfl (pc0 := 48) (pc' := 51) (same := true) rfl (hb hby at_48) rfl (decide_eq_true rfl) (by decide) (by decide) ?_
                  show Steps p.tables e below (T78.setTop (mkF m 51 #[.val (.int p0), .val (.int p1), .val (.int p2), .val (.int p0), .val (.int p1), .val (.ref (u 4))] [])) _
                  refine XS.iconst X78.here hx rfl (hb hby at_51) ?_
                  show Steps p.tables e below (T78.setTop (mkF m 52 #[.val (.int p0), .val (.int p1), .val (.int p2), .val (.int p0), .val (.int p1), .val (.ref (u 4))] [(.int (1 : Int32))])) _
                  refine XS.goto X78.here hx rfl (pc0 := 52) (pc' := 56) rfl (hb hby at_52) (by decide) (by decide) ?_
                  show Steps p.tables e below (T78.setTop (mkF m 56 #[.val (.int p0), .val (.int p1), .val (.int p2), .val (.int p0), .val (.int p1), .val (.ref (u 4))] [(.int (1 : Int32))])) _
                  exact retN X78 hx (t := .boolean) Bd.returns (by simp) (hb hby at_56) hr
                · show own_Q0 Z u p0 p1 p2 h0 n0 _ T78.heap _
                  rw [e78]
                  exact ⟨rfl, N78, trivial⟩
              · --
                obtain rfl : vr62 = some .null := hv62.trans (by unfold own_r1; rw [if_pos hc63, if_neg hc64, if_neg hc68, if_neg hc72, if_neg hc76])
                have pre80 : ∀ t, Steps p.tables e below (T62.setTop (mkF m 45 #[.val (.int p0), .val (.int p1), .val (.int p2), .val (.int p0), .val (.int p1), .val .null] [(.int p1), (.int p0), .null])) t → Steps p.tables e below (s₁.setTop (entryFrame m #[(.int p0), (.int p1), (.int p2)] maxLocals)) t := fun t kt => pre61 t (by
                  show Steps p.tables e below (s₁.setTop (mkF m 35 #[.val (.int p0), .val (.int p1), .val (.int p2), .val (.int p0), .val (.int p1), .unset] [(.int p1), (.int p0)])) _
                  refine st62 _ ?_
                  show Steps p.tables e below (T62.setTop (mkF m 38 #[.val (.int p0), .val (.int p1), .val (.int p2), .val (.int p0), .val (.int p1), .unset] [.null])) _
                  refine XS.astore X62.here hx rfl (hb hby at_38) rfl rfl (l' := #[.val (.int p0), .val (.int p1), .val (.int p2), .val (.int p0), .val (.int p1), .val .null]) rfl ?_
                  show Steps p.tables e below (T62.setTop (mkF m 40 #[.val (.int p0), .val (.int p1), .val (.int p2), .val (.int p0), .val (.int p1), .val .null] [])) _
                  refine XS.aload X62.here hx rfl (hb hby at_40) rfl rfl ?_
                  show Steps p.tables e below (T62.setTop (mkF m 42 #[.val (.int p0), .val (.int p1), .val (.int p2), .val (.int p0), .val (.int p1), .val .null] [.null])) _
                  refine XS.iloadN X62.here hx rfl (hb hby at_42) rfl ?_
                  show Steps p.tables e below (T62.setTop (mkF m 43 #[.val (.int p0), .val (.int p1), .val (.int p2), .val (.int p0), .val (.int p1), .val .null] [(.int p0), .null])) _
                  refine XS.iload X62.here hx rfl (hb hby at_43) rfl ?_
                  exact kt)
                obtain ⟨vr81, _, ⟨T81, L81, k81, n81⟩, -, X81, ⟨Lc81, hQ81, l81, y81, z81⟩, st81⟩ := Jvm.LawKit.callS X62 hx (y := (⟨"com/example/portcullis/portcullis/giop/GiopVersionOfPinLaw", "expected", "(II)Lcom/example/portcullis/portcullis/giop/GiopVersion;"⟩ : MethodName)) hown (mvT hZ (hw _ (List.mem_of_getElem? (i := 12) rfl))) (mvT hZ (hw _ (List.mem_of_getElem? (i := 13) rfl))) (mvT hZ (hw _ (List.mem_of_getElem? (i := 14) rfl))) (mvT hZ (hw _ (List.mem_of_getElem? (i := 15) rfl))) (by decide) (backOf (W := 1) (rm2 l Z a0 hw [] u p0 p1 B h0 n0 O ) hZ (hw _ (List.mem_of_getElem? (i := 15) rfl)) (hw _ (List.mem_of_getElem? (i := 14) rfl)) (by decide) (by decide)) (g := (mkF m 45 #[.val (.int p0), .val (.int p1), .val (.int p2), .val (.int p0), .val (.int p1), .val .null] [(.int p1), (.int p0), .null])) rfl (by rw [hml]; rfl) (argsL := [(.int p0), (.int p1)]) (rest := [.null]) (lenOf own_pd0 rfl) rfl (by show 2 * 0 + _ ≤ _; exact Nat.le_of_eq rfl) (hb hby at_45) (fun _ _ => ⟨rfl, e62, (by decide : 0 + 0 ≤ _), (by decide : 0 + 0 ≤ _)⟩)
                dsimp only [Pt.U, Pt.locs, Pt.cells, Pt.slots] at X81 l81 y81 z81 st81 hQ81
                subst l81 y81 z81
                obtain ⟨hv81, N81q, e81⟩ := hQ81
                have N81 := Fr.app N62 N81q
                obtain rfl : vr81 = some .null := hv81.trans (by unfold own_r2; rw [if_pos (Eq.symm hc63), if_neg (fun q => hc64 (Eq.symm q)), if_neg (fun q => hc68 (Eq.symm q)), if_neg (fun q => hc72 (Eq.symm q)), if_neg (fun q => hc76 (Eq.symm q))])
                obtain ⟨fs, hr, hrun, hended, hW, hsame⟩ := X81.leave (v := some (.int (1 : Int32))) (fun h => by rw [Bd.returns] at h; cases h)
                refine ⟨_, _, pre80 _ ?_, hrun, hended, _, _, rfl, ?_, ⟨_, rfl⟩, hW, hsame.mono (by decide) (by decide)⟩
                · show Steps p.tables e below (T62.setTop (mkF m 45 #[.val (.int p0), .val (.int p1), .val (.int p2), .val (.int p0), .val (.int p1), .val .null] [(.int p1), (.int p0), .null])) _
                  refine st81 _ ?_
                  show Steps p.tables e below (T81.setTop (mkF m 48 #[.val (.int p0), .val (.int p1), .val (.int p2), .val (.int p0), .val (.int p1), .val .null] [.null, .null])) _
                  refine Jvm.RoadKit.acmp (g := (mkF m 48 #[.val (.int p0), .val (.int p1), .val (.int p2), .val (.int p0), .val (.int p1), .val .null] [.null, .null])) X81 hx rfl rfl rfl (pc0 := 48) (pc' := 51) (same := true) rfl (hb hby at_48) rfl (decide_eq_true rfl) (by decide) (by decide) ?_
                  show Steps p.tables e below (T81.setTop (mkF m 51 #[.val (.int p0), .val (.int p1), .val (.int p2), .val (.int p0), .val (.int p1), .val .null] [])) _
                  refine XS.iconst X81.here hx rfl (hb hby at_51) ?_
                  show Steps p.tables e below (T81.setTop (mkF m 52 #[.val (.int p0), .val (.int p1), .val (.int p2), .val (.int p0), .val (.int p1), .val .null] [(.int (1 : Int32))])) _
                  refine XS.goto X81.here hx rfl (pc0 := 52) (pc' := 56) rfl (hb hby at_52) (by decide) (by decide) ?_
                  show Steps p.tables e below (T81.setTop (mkF m 56 #[.val (.int p0), .val (.int p1), .val (.int p2), .val (.int p0), .val (.int p1), .val .null] [(.int (1 : Int32))])) _
                  exact retN X81 hx (t := .boolean) Bd.returns (by simp) (hb hby at_56) hr
                · show own_Q0 Z u p0 p1 p2 h0 n0 _ T81.heap _
                  rw [e81]
                  exact ⟨rfl, N81, trivial⟩
      · --
        obtain rfl : vr62 = some .null := hv62.trans (by unfold own_r1; rw [if_neg hc63])
        have pre83 : ∀ t, Steps p.tables e below (T62.setTop (mkF m 45 #[.val (.int p0), .val (.int p1), .val (.int p2), .val (.int p0), .val (.int p1), .val .null] [(.int p1), (.int p0), .null])) t → Steps p.tables e below (s₁.setTop (entryFrame m #[(.int p0), (.int p1), (.int p2)] maxLocals)) t := fun t kt => pre61 t (by
          show Steps p.tables e below (s₁.setTop (mkF m 35 #[.val (.int p0), .val (.int p1), .val (.int p2), .val (.int p0), .val (.int p1), .unset] [(.int p1), (.int p0)])) _
          refine st62 _ ?_
          show Steps p.tables e below (T62.setTop (mkF m 38 #[.val (.int p0), .val (.int p1), .val (.int p2), .val (.int p0), .val (.int p1), .unset] [.null])) _
          refine XS.astore X62.here hx rfl (hb hby at_38) rfl rfl (l' := #[.val (.int p0), .val (.int p1), .val (.int p2), .val (.int p0), .val (.int p1), .val .null]) rfl ?_
          show Steps p.tables e below (T62.setTop (mkF m 40 #[.val (.int p0), .val (.int p1), .val (.int p2), .val (.int p0), .val (.int p1), .val .null] [])) _
          refine XS.aload X62.here hx rfl (hb hby at_40) rfl rfl ?_
          show Steps p.tables e below (T62.setTop (mkF m 42 #[.val (.int p0), .val (.int p1), .val (.int p2), .val (.int p0), .val (.int p1), .val .null] [.null])) _
          refine XS.iloadN X62.here hx rfl (hb hby at_42) rfl ?_
          show Steps p.tables e below (T62.setTop (mkF m 43 #[.val (.int p0), .val (.int p1), .val (.int p2), .val (.int p0), .val (.int p1), .val .null] [(.int p0), .null])) _
          refine XS.iload X62.here hx rfl (hb hby at_43) rfl ?_
          exact kt)
        obtain ⟨vr84, _, ⟨T84, L84, k84, n84⟩, -, X84, ⟨Lc84, hQ84, l84, y84, z84⟩, st84⟩ := Jvm.LawKit.callS X62 hx (y := (⟨"com/example/portcullis/portcullis/giop/GiopVersionOfPinLaw", "expected", "(II)Lcom/example/portcullis/portcullis/giop/GiopVersion;"⟩ : MethodName)) hown (mvT hZ (hw _ (List.mem_of_getElem? (i := 12) rfl))) (mvT hZ (hw _ (List.mem_of_getElem? (i := 13) rfl))) (mvT hZ (hw _ (List.mem_of_getElem? (i := 14) rfl))) (mvT hZ (hw _ (List.mem_of_getElem? (i := 15) rfl))) (by decide) (backOf (W := 1) (rm2 l Z a0 hw [] u p0 p1 B h0 n0 O ) hZ (hw _ (List.mem_of_getElem? (i := 15) rfl)) (hw _ (List.mem_of_getElem? (i := 14) rfl)) (by decide) (by decide)) (g := (mkF m 45 #[.val (.int p0), .val (.int p1), .val (.int p2), .val (.int p0), .val (.int p1), .val .null] [(.int p1), (.int p0), .null])) rfl (by rw [hml]; rfl) (argsL := [(.int p0), (.int p1)]) (rest := [.null]) (lenOf own_pd0 rfl) rfl (by show 2 * 0 + _ ≤ _; exact Nat.le_of_eq rfl) (hb hby at_45) (fun _ _ => ⟨rfl, e62, (by decide : 0 + 0 ≤ _), (by decide : 0 + 0 ≤ _)⟩)
        dsimp only [Pt.U, Pt.locs, Pt.cells, Pt.slots] at X84 l84 y84 z84 st84 hQ84
        subst l84 y84 z84
        obtain ⟨hv84, N84q, e84⟩ := hQ84
        have N84 := Fr.app N62 N84q
        obtain rfl : vr84 = some .null := hv84.trans (by unfold own_r2; rw [if_neg (fun q => hc63 (Eq.symm q))])
        obtain ⟨fs, hr, hrun, hended, hW, hsame⟩ := X84.leave (v := some (.int (1 : Int32))) (fun h => by rw [Bd.returns] at h; cases h)
        refine ⟨_, _, pre83 _ ?_, hrun, hended, _, _, rfl, ?_, ⟨_, rfl⟩, hW, hsame.mono (by decide) (by decide)⟩
        · show Steps p.tables e below (T62.setTop (mkF m 45 #[.val (.int p0), .val (.int p1), .val (.int p2), .val (.int p0), .val (.int p1), .val .null] [(.int p1), (.int p0), .null])) _
          refine st84 _ ?_
          show Steps p.tables e below (T84.setTop (mkF m 48 #[.val (.int p0), .val (.int p1), .val (.int p2), .val (.int p0), .val (.int p1), .val .null] [.null, .null])) _
          refine Jvm.RoadKit.acmp (g := (mkF m 48 #[.val (.int p0), .val (.int p1), .val (.int p2), .val (.int p0), .val (.int p1), .val .null] [.null, .null])) X84 hx rfl rfl rfl (pc0 := 48) (pc' := 51) (same := true) rfl (hb hby at_48) rfl (decide_eq_true rfl) (by decide) (by decide) ?_
          show Steps p.tables e below (T84.setTop (mkF m 51 #[.val (.int p0), .val (.int p1), .val (.int p2), .val (.int p0), .val (.int p1), .val .null] [])) _
          refine XS.iconst X84.here hx rfl (hb hby at_51) ?_
          show Steps p.tables e below (T84.setTop (mkF m 52 #[.val (.int p0), .val (.int p1), .val (.int p2), .val (.int p0), .val (.int p1), .val .null] [(.int (1 : Int32))])) _
          refine XS.goto X84.here hx rfl (pc0 := 52) (pc' := 56) rfl (hb hby at_52) (by decide) (by decide) ?_
          show Steps p.tables e below (T84.setTop (mkF m 56 #[.val (.int p0), .val (.int p1), .val (.int p2), .val (.int p0), .val (.int p1), .val .null] [(.int (1 : Int32))])) _
          exact retN X84 hx (t := .boolean) Bd.returns (by simp) (hb hby at_56) hr
        · show own_Q0 Z u p0 p1 p2 h0 n0 _ T84.heap _
          rw [e84]
          exact ⟨rfl, N84, trivial⟩
    · --
      have pre86 : ∀ t, Steps p.tables e below (s₁.setTop (mkF m 35 #[.val (.int p0), .val (.int p1), .val (.int p2), .val (.int p0), .val (.int ((p1 &&& (7 : Int32)) - (2 : Int32))), .unset] [(.int ((p1 &&& (7 : Int32)) - (2 : Int32))), (.int p0)])) t → Steps p.tables e below (s₁.setTop (entryFrame m #[(.int p0), (.int p1), (.int p2)] maxLocals)) t := fun t kt => pre59 t (by
        show Steps p.tables e below (s₁.setTop (mkF m 17 #[.val (.int p0), .val (.int p1), .val (.int p2), .val (.int p0), .unset, .unset] [(.int (p2 &&& (2 : Int32)))])) _
        refine XS.ifNo X0.here hx rfl (hb hby at_17) rfl ((if0 _ _).trans (feq hc60).1) ?_
        show Steps p.tables e below (s₁.setTop (mkF m 20 #[.val (.int p0), .val (.int p1), .val (.int p2), .val (.int p0), .unset, .unset] [])) _
        refine XS.iloadN X0.here hx rfl (hb hby at_20) rfl ?_
        show Steps p.tables e below (s₁.setTop (mkF m 21 #[.val (.int p0), .val (.int p1), .val (.int p2), .val (.int p0), .unset, .unset] [(.int p1)])) _
        refine XS.bipush X0.here hx rfl (hb hby at_21) ?_
        show Steps p.tables e below (s₁.setTop (mkF m 23 #[.val (.int p0), .val (.int p1), .val (.int p2), .val (.int p0), .unset, .unset] [(.int (7 : Int32)), (.int p1)])) _
        refine XS.iand X0.here hx rfl (hb hby at_23) rfl ?_
        show Steps p.tables e below (s₁.setTop (mkF m 24 #[.val (.int p0), .val (.int p1), .val (.int p2), .val (.int p0), .unset, .unset] [(.int (p1 &&& (7 : Int32)))])) _
        refine XS.iconst X0.here hx rfl (hb hby at_24) ?_
        show Steps p.tables e below (s₁.setTop (mkF m 25 #[.val (.int p0), .val (.int p1), .val (.int p2), .val (.int p0), .unset, .unset] [(.int (2 : Int32)), (.int (p1 &&& (7 : Int32)))])) _
        refine XS.isub X0.here hx rfl (hb hby at_25) rfl ?_
        show Steps p.tables e below (s₁.setTop (mkF m 26 #[.val (.int p0), .val (.int p1), .val (.int p2), .val (.int p0), .unset, .unset] [(.int ((p1 &&& (7 : Int32)) - (2 : Int32)))])) _
        refine XS.goto X0.here hx rfl (pc0 := 26) (pc' := 30) rfl (hb hby at_26) (by decide) (by decide) ?_
        show Steps p.tables e below (s₁.setTop (mkF m 30 #[.val (.int p0), .val (.int p1), .val (.int p2), .val (.int p0), .unset, .unset] [(.int ((p1 &&& (7 : Int32)) - (2 : Int32)))])) _
        refine XS.istore X0.here hx rfl (hb hby at_30) rfl (l' := #[.val (.int p0), .val (.int p1), .val (.int p2), .val (.int p0), .val (.int ((p1 &&& (7 : Int32)) - (2 : Int32))), .unset]) rfl ?_
        show Steps p.tables e below (s₁.setTop (mkF m 32 #[.val (.int p0), .val (.int p1), .val (.int p2), .val (.int p0), .val (.int ((p1 &&& (7 : Int32)) - (2 : Int32))), .unset] [])) _
        refine XS.iloadN X0.here hx rfl (hb hby at_32) rfl ?_
        show Steps p.tables e below (s₁.setTop (mkF m 33 #[.val (.int p0), .val (.int p1), .val (.int p2), .val (.int p0), .val (.int ((p1 &&& (7 : Int32)) - (2 : Int32))), .unset] [(.int p0)])) _
        refine XS.iload X0.here hx rfl (hb hby at_33) rfl ?_
        exact kt)
      obtain ⟨vr87, _, ⟨T87, L87, k87, n87⟩, -, X87, ⟨Lc87, hQ87, l87, y87, z87⟩, st87⟩ := Jvm.LawKit.callS X0 hx (y := (⟨"com/example/portcullis/portcullis/giop/GiopVersion", "of", "(II)Lcom/example/portcullis/portcullis/giop/GiopVersion;"⟩ : MethodName)) hown (mvT hZ (hw _ (List.mem_of_getElem? (i := 0) rfl))) (mvT hZ (hw _ (List.mem_of_getElem? (i := 1) rfl))) (mvT hZ (hw _ (List.mem_of_getElem? (i := 2) rfl))) (mvT hZ (hw _ (List.mem_of_getElem? (i := 3) rfl))) (by decide) (backOf (W := 0) (rm1 l Z a0 hw [] u p0 ((p1 &&& (7 : Int32)) - (2 : Int32)) B h0 n0 O ) hZ (hw _ (List.mem_of_getElem? (i := 3) rfl)) (hw _ (List.mem_of_getElem? (i := 2) rfl)) (by decide) (by decide)) (g := (mkF m 35 #[.val (.int p0), .val (.int p1), .val (.int p2), .val (.int p0), .val (.int ((p1 &&& (7 : Int32)) - (2 : Int32))), .unset] [(.int ((p1 &&& (7 : Int32)) - (2 : Int32))), (.int p0)])) rfl (by rw [hml]; rfl) (argsL := [(.int p0), (.int ((p1 &&& (7 : Int32)) - (2 : Int32)))]) (rest := []) (lenOf own_pd0 rfl) rfl (by show 2 * 0 + _ ≤ _; exact Nat.le_of_eq rfl) (hb hby at_35) (fun _ _ => ⟨rfl, e0, (by decide : 0 + 0 ≤ _), (by decide : 0 + 0 ≤ _)⟩)
      dsimp only [Pt.U, Pt.locs, Pt.cells, Pt.slots] at X87 l87 y87 z87 st87 hQ87
      subst l87 y87 z87
      obtain ⟨hv87, N87q, e87⟩ := hQ87
      have N87 := Fr.app N0 N87q
      by_cases hc88 : (1 : Int32) = p0
      · --
        by_cases hc89 : (0 : Int32) = ((p1 &&& (7 : Int32)) - (2 : Int32))
        · --
          obtain rfl : vr87 = some (.ref (u 1)) := hv87.trans (by unfold own_r1; rw [if_pos hc88, if_pos hc89])
          have pre90 : ∀ t, Steps p.tables e below (T87.setTop (mkF m 45 #[.val (.int p0), .val (.int p1), .val (.int p2), .val (.int p0), .val (.int ((p1 &&& (7 : Int32)) - (2 : Int32))), .val (.ref (u 1))] [(.int ((p1 &&& (7 : Int32)) - (2 : Int32))), (.int p0), (.ref (u 1))])) t → Steps p.tables e below (s₁.setTop (entryFrame m #[(.int p0), (.int p1), (.int p2)] maxLocals)) t := fun t kt => pre86 t (by
            show Steps p.tables e below (s₁.setTop (mkF m 35 #[.val (.int p0), .val (.int p1), .val (.int p2), .val (.int p0), .val (.int ((p1 &&& (7 : Int32)) - (2 : Int32))), .unset] [(.int ((p1 &&& (7 : Int32)) - (2 : Int32))), (.int p0)])) _
            refine st87 _ ?_
            show Steps p.tables e below (T87.setTop (mkF m 38 #[.val (.int p0), .val (.int p1), .val (.int p2), .val (.int p0), .val (.int ((p1 &&& (7 : Int32)) - (2 : Int32))), .unset] [(.ref (u 1))])) _
            refine XS.astore X87.here hx rfl (hb hby at_38) rfl rfl (l' := #[.val (.int p0), .val (.int p1), .val (.int p2), .val (.int p0), .val (.int ((p1 &&& (7 : Int32)) - (2 : Int32))), .val (.ref (u 1))]) rfl ?_
            show Steps p.tables e below (T87.setTop (mkF m 40 #[.val (.int p0), .val (.int p1), .val (.int p2), .val (.int p0), .val (.int ((p1 &&& (7 : Int32)) - (2 : Int32))), .val (.ref (u 1))] [])) _
            refine XS.aload X87.here hx rfl (hb hby at_40) rfl rfl ?_
            show Steps p.tables e below (T87.setTop (mkF m 42 #[.val (.int p0), .val (.int p1), .val (.int p2), .val (.int p0), .val (.int ((p1 &&& (7 : Int32)) - (2 : Int32))), .val (.ref (u 1))] [(.ref (u 1))])) _
            refine XS.iloadN X87.here hx rfl (hb hby at_42) rfl ?_
            show Steps p.tables e below (T87.setTop (mkF m 43 #[.val (.int p0), .val (.int p1), .val (.int p2), .val (.int p0), .val (.int ((p1 &&& (7 : Int32)) - (2 : Int32))), .val (.ref (u 1))] [(.int p0), (.ref (u 1))])) _
            refine XS.iload X87.here hx rfl (hb hby at_43) rfl ?_
            exact kt)
          obtain ⟨vr91, _, ⟨T91, L91, k91, n91⟩, -, X91, ⟨Lc91, hQ91, l91, y91, z91⟩, st91⟩ := Jvm.LawKit.callS X87 hx (y := (⟨"com/example/portcullis/portcullis/giop/GiopVersionOfPinLaw", "expected", "(II)Lcom/example/portcullis/portcullis/giop/GiopVersion;"⟩ : MethodName)) hown (mvT hZ (hw _ (List.mem_of_getElem? (i := 12) rfl))) (mvT hZ (hw _ (List.mem_of_getElem? (i := 13) rfl))) (mvT hZ (hw _ (List.mem_of_getElem? (i := 14) rfl))) (mvT hZ (hw _ (List.mem_of_getElem? (i := 15) rfl))) (by decide) (backOf (W := 1) (rm2 l Z a0 hw [] u p0 ((p1 &&& (7 : Int32)) - (2 : Int32)) B h0 n0 O ) hZ (hw _ (List.mem_of_getElem? (i := 15) rfl)) (hw _ (List.mem_of_getElem? (i := 14) rfl)) (by decide) (by decide)) (g := (mkF m 45 #[.val (.int p0), .val (.int p1), .val (.int p2), .val (.int p0), .val (.int ((p1 &&& (7 : Int32)) - (2 : Int32))), .val (.ref (u 1))] [(.int ((p1 &&& (7 : Int32)) - (2 : Int32))), (.int p0), (.ref (u 1))])) rfl (by rw [hml]; rfl) (argsL := [(.int p0), (.int ((p1 &&& (7 : Int32)) - (2 : Int32)))]) (rest := [(.ref (u 1))]) (lenOf own_pd0 rfl) rfl (by show 2 * 0 + _ ≤ _; exact Nat.le_of_eq rfl) (hb hby at_45) (fun _ _ => ⟨rfl, e87, (by decide : 0 + 0 ≤ _), (by decide : 0 + 0 ≤ _)⟩)
          dsimp only [Pt.U, Pt.locs, Pt.cells, Pt.slots] at X91 l91 y91 z91 st91 hQ91
          subst l91 y91 z91
          obtain ⟨hv91, N91q, e91⟩ := hQ91
          have N91 := Fr.app N87 N91q
          obtain rfl : vr91 = some (.ref (u 1)) := hv91.trans (by unfold own_r2; rw [if_pos (Eq.symm hc88), if_pos (Eq.symm hc89)])
          obtain ⟨fs, hr, hrun, hended, hW, hsame⟩ := X91.leave (v := some (.int (1 : Int32))) (fun h => by rw [Bd.returns] at h; cases h)
          refine ⟨_, _, pre90 _ ?_, hrun, hended, _, _, rfl, ?_, ⟨_, rfl⟩, hW, hsame.mono (by decide) (by decide)⟩
          · show Steps p.tables e below (T87.setTop (mkF m 45 #[.val (.int p0), .val (.int p1), .val (.int p2), .val (.int p0), .val (.int ((p1 &&& (7 : Int32)) - (2 : Int32))), .val (.ref (u 1))] [(.int ((p1 &&& (7 : Int32)) - (2 : Int32))), (.int p0), (.ref (u 1))])) _
            refine st91 _ ?_
            show Steps p.tables e below (T91.setTop (mkF m 48 #[.val (.int p0), .val (.int p1), .val (.int p2), .val (.int p0), .val (.int ((p1 &&& (7 : Int32)) - (2 : Int32))), .val (.ref (u 1))] [(.ref (u 1)), (.ref (u 1))])) _
            refine Jvm.RoadKit.acmp (g := (mkF m 48 #[.val (.int p0), .val (.int p1), .val (.int p2), .val (.int p0), .val (.int ((p1 &&& (7 : Int32)) - (2 : Int32))), .val (.ref (u 1))] [(.ref (u 1)), (.ref (u 1))])) X91 hx rfl rfl rfl (pc0 := 48) (pc' := 51) (same := true) rfl (hb hby at_48) rfl (decide_eq_true rfl) (by decide) (by decide) ?_
            show Steps p.tables e below (T91.setTop (mkF m 51 #[.val (.int p0), .val (.int p1), .val (.int p2), .val (.int p0), .val (.int ((p1 &&& (7 : Int32)) - (2 : Int32))), .val (.ref (u 1))] [])) _
            refine XS.iconst X91.here hx rfl (hb hby at_51) ?_
            show Steps p.tables e below (T91.setTop (mkF m 52 #[.val (.int p0), .val (.int p1), .val (.int p2), .val (.int p0), .val (.int ((p1 &&& (7 : Int32)) - (2 : Int32))), .val (.ref (u 1))] [(.int (1 : Int32))])) _
            refine XS.goto X91.here hx rfl (pc0 := 52) (pc' := 56) rfl (hb hby at_52) (by decide) (by decide) ?_
            show Steps p.tables e below (T91.setTop (mkF m 56 #[.val (.int p0), .val (.int p1), .val (.int p2), .val (.int p0), .val (.int ((p1 &&& (7 : Int32)) - (2 : Int32))), .val (.ref (u 1))] [(.int (1 : Int32))])) _
            exact retN X91 hx (t := .boolean) Bd.returns (by simp) (hb hby at_56) hr
          · show own_Q0 Z u p0 p1 p2 h0 n0 _ T91.heap _
            rw [e91]
            exact ⟨rfl, N91, trivial⟩
        · --
          by_cases hc93 : (1 : Int32) = ((p1 &&& (7 : Int32)) - (2 : Int32))
          · --
            obtain rfl : vr87 = some (.ref (u 2)) := hv87.trans (by unfold own_r1; rw [if_pos hc88, if_neg hc89, if_pos hc93])
            have pre94 : ∀ t, Steps p.tables e below (T87.setTop (mkF m 45 #[.val (.int p0), .val (.int p1), .val (.int p2), .val (.int p0), .val (.int ((p1 &&& (7 : Int32)) - (2 : Int32))), .val (.ref (u 2))] [(.int ((p1 &&& (7 : Int32)) - (2 : Int32))), (.int p0), (.ref (u 2))])) t → Steps p.tables e below (s₁.setTop (entryFrame m #[(.int p0), (.int p1), (.int p2)] maxLocals)) t := fun t kt => pre86 t (by
              show Steps p.tables e below (s₁.setTop (mkF m 35 #[.val (.int p0), .val (.int p1), .val (.int p2), .val (.int p0), .val (.int ((p1 &&& (7 : Int32)) - (2 : Int32))), .unset] [(.int ((p1 &&& (7 : Int32)) - (2 : Int32))), (.int p0)])) _
              refine st87 _ ?_
              show Steps p.tables e below (T87.setTop (mkF m 38 #[.val (.int p0), .val (.int p1), .val (.int p2), .val (.int p0), .val (.int ((p1 &&& (7 : Int32)) - (2 : Int32))), .unset] [(.ref (u 2))])) _
              refine XS.astore X87.here hx rfl (hb hby at_38) rfl rfl (l' := #[.val (.int p0), .val (.int p1), .val (.int p2), .val (.int p0), .val (.int ((p1 &&& (7 : Int32)) - (2 : Int32))), .val (.ref (u 2))]) rfl ?_
              show Steps p.tables e below (T87.setTop (mkF m 40 #[.val (.int p0), .val (.int p1), .val (.int p2), .val (.int p0), .val (.int ((p1 &&& (7 : Int32)) - (2 : Int32))), .val (.ref (u 2))] [])) _
              refine XS.aload X87.here hx rfl (hb hby at_40) rfl rfl ?_
              show Steps p.tables e below (T87.setTop (mkF m 42 #[.val (.int p0), .val (.int p1), .val (.int p2), .val (.int p0), .val (.int ((p1 &&& (7 : Int32)) - (2 : Int32))), .val (.ref (u 2))] [(.ref (u 2))])) _
              refine XS.iloadN X87.here hx rfl (hb hby at_42) rfl ?_
              show Steps p.tables e below (T87.setTop (mkF m 43 #[.val (.int p0), .val (.int p1), .val (.int p2), .val (.int p0), .val (.int ((p1 &&& (7 : Int32)) - (2 : Int32))), .val (.ref (u 2))] [(.int p0), (.ref (u 2))])) _
              refine XS.iload X87.here hx rfl (hb hby at_43) rfl ?_
              exact kt)
            obtain ⟨vr95, _, ⟨T95, L95, k95, n95⟩, -, X95, ⟨Lc95, hQ95, l95, y95, z95⟩, st95⟩ := Jvm.LawKit.callS X87 hx (y := (⟨"com/example/portcullis/portcullis/giop/GiopVersionOfPinLaw", "expected", "(II)Lcom/example/portcullis/portcullis/giop/GiopVersion;"⟩ : MethodName)) hown (mvT hZ (hw _ (List.mem_of_getElem? (i := 12) rfl))) (mvT hZ (hw _ (List.mem_of_getElem? (i := 13) rfl))) (mvT hZ (hw _ (List.mem_of_getElem? (i := 14) rfl))) (mvT hZ (hw _ (List.mem_of_getElem? (i := 15) rfl))) (by decide) (backOf (W := 1) (rm2 l Z a0 hw [] u p0 ((p1 &&& (7 : Int32)) - (2 : Int32)) B h0 n0 O ) hZ (hw _ (List.mem_of_getElem? (i := 15) rfl)) (hw _ (List.mem_of_getElem? (i := 14) rfl)) (by decide) (by decide)) (g := (mkF m 45 #[.val (.int p0), .val (.int p1), .val (.int p2), .val (.int p0), .val (.int ((p1 &&& (7 : Int32)) - (2 : Int32))), .val (.ref (u 2))] [(.int ((p1 &&& (7 : Int32)) - (2 : Int32))), (.int p0), (.ref (u 2))])) rfl (by rw [hml]; rfl) (argsL := [(.int p0), (.int ((p1 &&& (7 : Int32)) - (2 : Int32)))]) (rest := [(.ref (u 2))]) (lenOf own_pd0 rfl) rfl (by show 2 * 0 + _ ≤ _; exact Nat.le_of_eq rfl) (hb hby at_45) (fun _ _ => ⟨rfl, e87, (by decide : 0 + 0 ≤ _), (by decide : 0 + 0 ≤ _)⟩)
            dsimp only [Pt.U, Pt.locs, Pt.cells, Pt.slots] at X95 l95 y95 z95 st95 hQ95
            subst l95 y95 z95
            obtain ⟨hv95, N95q, e95⟩ := hQ95
            have N95 := Fr.app N87 N95q
            obtain rfl : vr95 = some (.ref (u 2)) := hv95.trans (by unfold own_r2; rw [if_pos (Eq.symm hc88), if_neg (fun q => hc89 (Eq.symm q)), if_pos (Eq.symm hc93)])
            obtain ⟨fs, hr, hrun, hended, hW, hsame⟩ := X95.leave (v := some (.int (1 : Int32))) (fun h => by rw [Bd.returns] at h; cases h)
            refine ⟨_, _, pre94 _ ?_, hrun, hended, _, _, rfl, ?_, ⟨_, rfl⟩, hW, hsame.mono (by decide) (by decide)⟩
            · show Steps p.tables e below (T87.setTop (mkF m 45 #[.val (.int p0), .val (.int p1), .val (.int p2), .val (.int p0), .val (.int ((p1 &&& (7 : Int32)) - (2 : Int32))), .val (.ref (u 2))] [(.int ((p1 &&& (7 : Int32)) - (2 : Int32))), (.int p0), (.ref (u 2))])) _
              refine st95 _ ?_
              show Steps p.tables e below (T95.setTop (mkF m 48 #[.val (.int p0), .val (.int p1), .val (.int p2), .val (.int p0), .val (.int ((p1 &&& (7 : Int32)) - (2 : Int32))), .val (.ref (u 2))] [(.ref (u 2)), (.ref (u 2))])) _
              refine Jvm.RoadKit.acmp (g := (mkF m 48 #[.val (.int p0), .val (.int p1), .val (.int p2), .val (.int p0), .val (.int ((p1 &&& (7 : Int32)) - (2 : Int32))), .val (.ref (u 2))] [(.ref (u 2)), (.ref (u 2))])) X95 hx rfl rfl rfl (pc0 := 48) (pc' := 51) (same := true) rfl (hb hby at_48) rfl (decide_eq_true rfl) (by decide) (by decide) ?_
              show Steps p.tables e below (T95.setTop (mkF m 51 #[.val (.int p0), .val (.int p1), .val (.int p2), .val (.int p0), .val (.int ((p1 &&& (7 : Int32)) - (2 : Int32))), .val (.ref (u 2))] [])) _
              refine XS.iconst X95.here hx rfl (hb hby at_51) ?_
              show Steps p.tables e below (T95.setTop (mkF m 52 #[.val (.int p0), .val (.int p1), .val (.int p2), .val (.int p0), .val (.int ((p1 &&& (7 : Int32)) - (2 : Int32))), .val (.ref (u 2))] [(.int (1 : Int32))])) _
              refine XS.goto X95.here hx rfl (pc0 := 52) (pc' := 56) rfl (hb hby at_52) (by decide) (by decide) ?_
              show Steps p.tables e below (T95.setTop (mkF m 56 #[.val (.int p0), .val (.int p1), .val (.int p2), .val (.int p0), .val (.int ((p1 &&& (7 : Int32)) - (2 : Int32))), .val (.ref (u 2))] [(.int (1 : Int32))])) _
              exact retN X95 hx (t := .boolean) Bd.returns (by simp) (hb hby at_56) hr
            · show own_Q0 Z u p0 p1 p2 h0 n0 _ T95.heap _
              rw [e95]
              exact ⟨rfl, N95, trivial⟩
          · --
            by_cases hc97 : (2 : Int32) = ((p1 &&& (7 : Int32)) - (2 : Int32))
            · --
              obtain rfl : vr87 = some (.ref (u 3)) := hv87.trans (by unfold own_r1; rw [if_pos hc88, if_neg hc89, if_neg hc93, if_pos hc97])
              have pre98 : ∀ t, Steps p.tables e below (T87.setTop (mkF m 45 #[.val (.int p0), .val (.int p1), .val (.int p2), .val (.int p0), .val (.int ((p1 &&& (7 : Int32)) - (2 : Int32))), .val (.ref (u 3))] [(.int ((p1 &&& (7 : Int32)) - (2 : Int32))), (.int p0), (.ref (u 3))])) t → Steps p.tables e below (s₁.setTop (entryFrame m #[(.int p0), (.int p1), (.int p2)] maxLocals)) t := fun t kt => pre86 t (by
                show Steps p.tables e below (s₁.setTop (mkF m 35 #[.val (.int p0), .val (.int p1), .val (.int p2), .val (.int p0), .val (.int ((p1 &&& (7 : Int32)) - (2 : Int32))), .unset] [(.int ((p1 &&& (7 : Int32)) - (2 : Int32))), (.int p0)])) _
                refine st87 _ ?_
                show Steps p.tables e below (T87.setTop (mkF m 38 #[.val (.int p0), .val (.int p1), .val (.int p2), .val (.int p0), .val (.int ((p1 &&& (7 : Int32)) - (2 : Int32))), .unset] [(.ref (u 3))])) _
                refine XS.astore X87.here hx rfl (hb hby at_38) rfl rfl (l' := #[.val (.int p0), .val (.int p1), .val (.int p2), .val (.int p0), .val (.int ((p1 &&& (7 : Int32)) - (2 : Int32))), .val (.ref (u 3))]) rfl ?_
                show Steps p.tables e below (T87.setTop (mkF m 40 #[.val (.int p0), .val (.int p1), .val (.int p2), .val (.int p0), .val (.int ((p1 &&& (7 : Int32)) - (2 : Int32))), .val (.ref (u 3))] [])) _
                refine XS.aload X87.here hx rfl (hb hby at_40) rfl rfl ?_
                show Steps p.tables e below (T87.setTop (mkF m 42 #[.val (.int p0), .val (.int p1), .val (.int p2), .val (.int p0), .val (.int ((p1 &&& (7 : Int32)) - (2 : Int32))), .val (.ref (u 3))] [(.ref (u 3))])) _
                refine XS.iloadN X87.here hx rfl (hb hby at_42) rfl ?_
                show Steps p.tables e below (T87.setTop (mkF m 43 #[.val (.int p0), .val (.int p1), .val (.int p2), .val (.int p0), .val (.int ((p1 &&& (7 : Int32)) - (2 : Int32))), .val (.ref (u 3))] [(.int p0), (.ref (u 3))])) _
                refine XS.iload X87.here hx rfl (hb hby at_43) rfl ?_
                exact kt)
              obtain ⟨vr99, _, ⟨T99, L99, k99, n99⟩, -, X99, ⟨Lc99, hQ99, l99, y99, z99⟩, st99⟩ := Jvm.LawKit.callS X87 hx (y := (⟨"com/example/portcullis/portcullis/giop/GiopVersionOfPinLaw", "expected", "(II)Lcom/example/portcullis/portcullis/giop/GiopVersion;"⟩ : MethodName)) hown (mvT hZ (hw _ (List.mem_of_getElem? (i := 12) rfl))) (mvT hZ (hw _ (List.mem_of_getElem? (i := 13) rfl))) (mvT hZ (hw _ (List.mem_of_getElem? (i := 14) rfl))) (mvT hZ (hw _ (List.mem_of_getElem? (i := 15) rfl))) (by decide) (backOf (W := 1) (rm2 l Z a0 hw [] u p0 ((p1 &&& (7 : Int32)) - (2 : Int32)) B h0 n0 O ) hZ (hw _ (List.mem_of_getElem? (i := 15) rfl)) (hw _ (List.mem_of_getElem? (i := 14) rfl)) (by decide) (by decide)) (g := (mkF m 45 #[.val (.int p0), .val (.int p1), .val (.int p2), .val (.int p0), .val (.int ((p1 &&& (7 : Int32)) - (2 : Int32))), .val (.ref (u 3))] [(.int ((p1 &&& (7 : Int32)) - (2 : Int32))), (.int p0), (.ref (u 3))])) rfl (by rw [hml]; rfl) (argsL := [(.int p0), (.int ((p1 &&& (7 : Int32)) - (2 : Int32)))]) (rest := [(.ref (u 3))]) (lenOf own_pd0 rfl) rfl (by show 2 * 0 + _ ≤ _; exact Nat.le_of_eq rfl) (hb hby at_45) (fun _ _ => ⟨rfl, e87, (by decide : 0 + 0 ≤ _), (by decide : 0 + 0 ≤ _)⟩)
              dsimp only [Pt.U, Pt.locs, Pt.cells, Pt.slots] at X99 l99 y99 z99 st99 hQ99
              subst l99 y99 z99
              obtain ⟨hv99, N99q, e99⟩ := hQ99
              have N99 := Fr.app N87 N99q
              obtain rfl : vr99 = some (.ref (u 3)) := hv99.trans (by unfold own_r2; rw [if_pos (Eq.symm hc88), if_neg (fun q => hc89 (Eq.symm q)), if_neg (fun q => hc93 (Eq.symm q)), if_pos (Eq.symm hc97)])
              obtain ⟨fs, hr, hrun, hended, hW, hsame⟩ := X99.leave (v := some (.int (1 : Int32))) (fun h => by rw [Bd.returns] at h; cases h)
              refine ⟨_, _, pre98 _ ?_, hrun, hended, _, _, rfl, ?_, ⟨_, rfl⟩, hW, hsame.mono (by decide) (by decide)⟩
              · show Steps p.tables e below (T87.setTop (mkF m 45 #[.val (.int p0), .val (.int p1), .val (.int p2), .val (.int p0), .val (.int ((p1 &&& (7 : Int32)) - (2 : Int32))), .val (.ref (u 3))] [(.int ((p1 &&& (7 : Int32)) - (2 : Int32))), (.int p0), (.ref (u 3))])) _
                refine st99 _ ?_
                show Steps p.tables e below (T99.setTop (mkF m 48 #[.val (.int p0), .val (.int p1), .val (.int p2), .val (.int p0), .val (.int ((p1 &&& (7 : Int32)) - (2 : Int32))), .val (.ref (u 3))] [(.ref (u 3)), (.ref (u 3))])) _
                refine Jvm.RoadKit.acmp (g := (mkF m 48 #[.val (.int p0), .val (.int p1), .val (.int p2), .val (.int p0), .val (.int ((p1 &&& (7 : Int32)) - (2 : Int32))), .val (.ref (u 3))] [(.ref (u 3)), (.ref (u 3))])) X99 hx rfl rfl rfl (pc0 := 48) (pc' := 51) (same := true) rfl (hb hby at_48) rfl (decide_eq_true rfl) (by decide) (by decide) ?_
                show Steps p.tables e below (T99.setTop (mkF m 51 #[.val (.int p0), .val (.int p1), .val (.int p2), .val (.int p0), .val (.int ((p1 &&& (7 : Int32)) - (2 : Int32))), .val (.ref (u 3))] [])) _
                refine XS.iconst X99.here hx rfl (hb hby at_51) ?_
                show Steps p.tables e below (T99.setTop (mkF m 52 #[.val (.int p0), .val (.int p1), .val (.int p2), .val (.int p0), .val (.int ((p1 &&& (7 : Int32)) - (2 : Int32))), .val (.ref (u 3))] [(.int (1 : Int32))])) _
                refine XS.goto X99.here hx rfl (pc0 := 52) (pc' := 56) rfl (hb hby at_52) (by decide) (by decide) ?_
                show Steps p.tables e below (T99.setTop (mkF m 56 #[.val (.int p0), .val (.int p1), .val (.int p2), .val (.int p0), .val (.int ((p1 &&& (7 : Int32)) - (2 : Int32))), .val (.ref (u 3))] [(.int (1 : Int32))])) _
                exact retN X99 hx (t := .boolean) Bd.returns (by simp) (hb hby at_56) hr
              · show own_Q0 Z u p0 p1 p2 h0 n0 _ T99.heap _
                rw [e99]
                exact ⟨rfl, N99, trivial⟩
            · --
              by_cases hc101 : (3 : Int32) = ((p1 &&& (7 : Int32)) - (2 : Int32))
              · --
                obtain rfl : vr87 = some (.ref (u 4)) := hv87.trans (by unfold own_r1; rw [if_pos hc88, if_neg hc89, if_neg hc93, if_neg hc97, if_pos hc101])
                have pre102 : ∀ t, Steps p.tables e below (T87.setTop (mkF m 45 #[.val (.int p0), .val (.int p1), .val (.int p2), .val (.int p0), .val (.int ((p1 &&& (7 : Int32)) - (2 : Int32))), .val (.ref (u 4))] [(.int ((p1 &&& (7 : Int32)) - (2 : Int32))), (.int p0), (.ref (u 4))])) t → Steps p.tables e below (s₁.setTop (entryFrame m #[(.int p0), (.int p1), (.int p2)] maxLocals)) t := fun t kt => pre86 t (by
                  show Steps p.tables e below (s₁.setTop (mkF m 35 #[.val (.int p0), .val (.int p1), .val (.int p2), .val (.int p0), .val (.int ((p1 &&& (7 : Int32)) - (2 : Int32))), .unset] [(.int ((p1 &&& (7 : Int32)) - (2 : Int32))), (.int p0)])) _
                  refine st87 _ ?_
                  show Steps p.tables e below (T87.setTop (mkF m 38 #[.val (.int p0), .val (.int p1), .val (.int p2), .val (.int p0), .val (.int ((p1 &&& (7 : Int32)) - (2 : Int32))), .unset] [(.ref (u 4))])) _
                  refine XS.astore X87.here hx rfl (hb hby at_38) rfl rfl (l' := #[.val (.int p0), .val (.int p1), .val (.int p2), .val (.int p0), .val (.int ((p1 &&& (7 : Int32)) - (2 : Int32))), .val (.ref (u 4))]) rfl ?_
                  show Steps p.tables e below (T87.setTop (mkF m 40 #[.val (.int p0), .val (.int p1), .val (.int p2), .val (.int p0), .val (.int ((p1 &&& (7 : Int32)) - (2 : Int32))), .val (.ref (u 4))] [])) _
                  refine XS.aload X87.here hx rfl (hb hby at_40) rfl rfl ?_
                  show Steps p.tables e below (T87.setTop (mkF m 42 #[.val (.int p0), .val (.int p1), .val (.int p2), .val (.int p0), .val (.int ((p1 &&& (7 : Int32)) - (2 : Int32))), .val (.ref (u 4))] [(.ref (u 4))])) _
                  refine XS.iloadN X87.here hx rfl (hb hby at_42) rfl ?_
                  show Steps p.tables e below (T87.setTop (mkF m 43 #[.val (.int p0), .val (.int p1), .val (.int p2), .val (.int p0), .val (.int ((p1 &&& (7 : Int32)) - (2 : Int32))), .val (.ref (u 4))] [(.int p0), (.ref (u 4))])) _
                  refine XS.iload X87.here hx rfl (hb hby at_43) rfl ?_
                  exact kt)
                obtain ⟨vr103, _, ⟨T103, L103, k103, n103⟩, -, X103, ⟨Lc103, hQ103, l103, y103, z103⟩, st103⟩ := Jvm.LawKit.callS X87 hx (y := (⟨"com/example/portcullis/portcullis/giop/GiopVersionOfPinLaw", "expected", "(II)Lcom/example/portcullis/portcullis/giop/GiopVersion;"⟩ : MethodName)) hown (mvT hZ (hw _ (List.mem_of_getElem? (i := 12) rfl))) (mvT hZ (hw _ (List.mem_of_getElem? (i := 13) rfl))) (mvT hZ (hw _ (List.mem_of_getElem? (i := 14) rfl))) (mvT hZ (hw _ (List.mem_of_getElem? (i := 15) rfl))) (by decide) (backOf (W := 1) (rm2 l Z a0 hw [] u p0 ((p1 &&& (7 : Int32)) - (2 : Int32)) B h0 n0 O ) hZ (hw _ (List.mem_of_getElem? (i := 15) rfl)) (hw _ (List.mem_of_getElem? (i := 14) rfl)) (by decide) (by decide)) (g := (mkF m 45 #[.val (.int p0), .val (.int p1), .val (.int p2), .val (.int p0), .val (.int ((p1 &&& (7 : Int32)) - (2 : Int32))), .val (.ref (u 4))] [(.int ((p1 &&& (7 : Int32)) - (2 : Int32))), (.int p0), (.ref (u 4))])) rfl (by rw [hml]; rfl) (argsL := [(.int p0), (.int ((p1 &&& (7 : Int32)) - (2 : Int32)))]) (rest := [(.ref (u 4))]) (lenOf own_pd0 rfl) rfl (by show 2 * 0 + _ ≤ _; exact Nat.le_of_eq rfl) (hb hby at_45) (fun _ _ => ⟨rfl, e87, (by decide : 0 + 0 ≤ _), (by decide : 0 + 0 ≤ _)⟩)
                dsimp only [Pt.U, Pt.locs, Pt.cells, Pt.slots] at X103 l103 y103 z103 st103 hQ103
                subst l103 y103 z103
                obtain ⟨hv103, N103q, e103⟩ := hQ103
                have N103 := Fr.app N87 N103q
                obtain rfl : vr103 = some (.ref (u 4)) := hv103.trans (by unfold own_r2; rw [if_pos (Eq.symm hc88), if_neg (fun q => hc89 (Eq.symm q)), if_neg (fun q => hc93 (Eq.symm q)), if_neg (fun q => hc97 (Eq.symm q)), if_pos (Eq.symm hc101)])
                obtain ⟨fs, hr, hrun, hended, hW, hsame⟩ := X103.leave (v := some (.int (1 : Int32))) (fun h => by rw [Bd.returns] at h; cases h)
                refine ⟨_, _, pre102 _ ?_, hrun, hended, _, _, rfl, ?_, ⟨_, rfl⟩, hW, hsame.mono (by decide) (by decide)⟩
                · show Steps p.tables e below (T87.setTop (mkF m 45 #[.val (.int p0), .val (.int p1), .val (.int p2), .val (.int p0), .val (.int ((p1 &&& (7 : Int32)) - (2 : Int32))), .val (.ref (u 4))] [(.int ((p1 &&& (7 : Int32)) - (2 : Int32))), (.int p0), (.ref (u 4))])) _
                  refine st103 _ ?_
                  show Steps p.tables e below (T103.setTop (mkF m 48 #[.val (.int p0), .val (.int p1), .val (.int p2), .val (.int p0), .val (.int ((p1 &&& (7 : Int32)) - (2 : Int32))), .val (.ref (u 4))] [(.ref (u 4)), (.ref (u 4))])) _
                  refine Jvm.RoadKit.acmp (g := (mkF m 48 #[.val (.int p0), .val (.int p1), .val (.int p2), .val (.int p0), .val (.int ((p1 &&& (7 : Int32)) - (2 : Int32))), .val (.ref (u 4))] [(.ref (u 4)), (.ref (u 4))])) X103 hx rfl rfl rfl (pc0 := 48) (pc' := 51) (same := true) rfl (hb hby at_48) rfl (decide_eq_true rfl) (by decide) (by decide) ?_
                  show Steps p.tables e below (T103.setTop (mkF m 51 #[.val (.int p0), .val (.int p1), .val (.int p2), .val (.int p0), .val (.int ((p1 &&& (7 : Int32)) - (2 : Int32))), .val (.ref (u 4))] [])) _
                  refine XS.iconst X103.here hx rfl (hb hby at_51) ?_
                  show Steps p.tables e below (T103.setTop (mkF m 52 #[.val (.int p0), .val (.int p1), .val (.int p2), .val (.int p0), .val (.int ((p1 &&& (7 : Int32)) - (2 : Int32))), .val (.ref (u 4))] [(.int (1 : Int32))])) _
                  refine XS.goto X103.here hx rfl (pc0 := 52) (pc' := 56) rfl (hb hby at_52) (by decide) (by decide) ?_
                  show Steps p.tables e below (T103.setTop (mkF m 56 #[.val (.int p0), .val (.int p1), .val (.int p2), .val (.int p0), .val (.int ((p1 &&& (7 : Int32)) - (2 : Int32))), .val (.ref (u 4))] [(.int (1 : Int32))])) _
                  exact retN X103 hx (t := .boolean) Bd.returns (by simp) (hb hby at_56) hr
                · show own_Q0 Z u p0 p1 p2 h0 n0 _ T103.heap _
                  rw [e103]
                  exact ⟨rfl, N103, trivial⟩
              · --
                obtain rfl : vr87 = some .null := hv87.trans (by unfold own_r1; rw [if_pos hc88, if_neg hc89, if_neg hc93, if_neg hc97, if_neg hc101])
                have pre105 : ∀ t, Steps p.tables e below (T87.setTop (mkF m 45 #[.val (.int p0), .val (.int p1), .val (.int p2), .val (.int p0), .val (.int ((p1 &&& (7 : Int32)) - (2 : Int32))), .val .null] [(.int ((p1 &&& (7 : Int32)) - (2 : Int32))), (.int p0), .null])) t → Steps p.tables e below (s₁.setTop (entryFrame m #[(.int p0), (.int p1), (.int p2)] maxLocals)) t := fun t kt => pre86 t (by
                  show Steps p.tables e below (s₁.setTop (mkF m 35 #[.val (.int p0), .val (.int p1), .val (.int p2), .val (.int p0), .val (.int ((p1 &&& (7 : Int32)) - (2 : Int32))), .unset] [(.int ((p1 &&& (7 : Int32)) - (2 : Int32))), (.int p0)])) _
                  refine st87 _ ?_
                  show Steps p.tables e below (T87.setTop (mkF m 38 #[.val (.int p0), .val (.int p1), .val (.int p2), .val (.int p0), .val (.int ((p1 &&& (7 : Int32)) - (2 : Int32))), .unset] [.null])) _
                  refine XS.astore X87.here hx rfl (hb hby at_38) rfl rfl (l' := #[.val (.int p0), .val (.int p1), .val (.int p2), .val (.int p0), .val (.int ((p1 &&& (7 : Int32)) - (2 : Int32))), .val .null]) rfl ?_
                  show Steps p.tables e below (T87.setTop (mkF m 40 #[.val (.int p0), .val (.int p1), .val (.int p2), .val (.int p0), .val (.int ((p1 &&& (7 : Int32)) - (2 : Int32))), .val .null] [])) _
                  refine XS.aload X87.here hx rfl (hb hby at_40) rfl rfl ?_
                  show Steps p.tables e below (T87.setTop (mkF m 42 #[.val (.int p0), .val (.int p1), .val (.int p2), .val (.int p0), .val (.int ((p1 &&& (7 : Int32)) - (2 : Int32))), .val .null] [.null])) _
                  refine XS.iloadN X87.here hx rfl (hb hby at_42) rfl ?_
                  show Steps p.tables e below (T87.setTop (mkF m 43 #[.val (.int p0), .val (.int p1), .val (.int p2), .val (.int p0), .val (.int ((p1 &&& (7 : Int32)) - (2 : Int32))), .val .null] [(.int p0), .null])) _
                  refine XS.iload X87.here hx rfl (hb hby at_43) rfl ?_
                  exact kt)
                obtain ⟨vr106, _, ⟨T106, L106, k106, n106⟩, -, X106, ⟨Lc106, hQ106, l106, y106, z106⟩, st106⟩ := Jvm.LawKit.callS X87 hx (y := (⟨"com/example/portcullis/portcullis/giop/GiopVersionOfPinLaw", "expected", "(II)Lcom/example/portcullis/portcullis/giop/GiopVersion;"⟩ : MethodName)) hown (mvT hZ (hw _ (List.mem_of_getElem? (i := 12) rfl))) (mvT hZ (hw _ (List.mem_of_getElem? (i := 13) rfl))) (mvT hZ (hw _ (List.mem_of_getElem? (i := 14) rfl))) (mvT hZ (hw _ (List.mem_of_getElem? (i := 15) rfl))) (by decide) (backOf (W := 1) (rm2 l Z a0 hw [] u p0 ((p1 &&& (7 : Int32)) - (2 : Int32)) B h0 n0 O ) hZ (hw _ (List.mem_of_getElem? (i := 15) rfl)) (hw _ (List.mem_of_getElem? (i := 14) rfl)) (by decide) (by decide)) (g := (mkF m 45 #[.val (.int p0), .val (.int p1), .val (.int p2), .val (.int p0), .val (.int ((p1 &&& (7 : Int32)) - (2 : Int32))), .val .null] [(.int ((p1 &&& (7 : Int32)) - (2 : Int32))), (.int p0), .null])) rfl (by rw [hml]; rfl) (argsL := [(.int p0), (.int ((p1 &&& (7 : Int32)) - (2 : Int32)))]) (rest := [.null]) (lenOf own_pd0 rfl) rfl (by show 2 * 0 + _ ≤ _; exact Nat.le_of_eq rfl) (hb hby at_45) (fun _ _ => ⟨rfl, e87, (by decide : 0 + 0 ≤ _), (by decide : 0 + 0 ≤ _)⟩)
                dsimp only [Pt.U, Pt.locs, Pt.cells, Pt.slots] at X106 l106 y106 z106 st106 hQ106
                subst l106 y106 z106
                obtain ⟨hv106, N106q, e106⟩ := hQ106
                have N106 := Fr.app N87 N106q
                obtain rfl : vr106 = some .null := hv106.trans (by unfold own_r2; rw [if_pos (Eq.symm hc88), if_neg (fun q => hc89 (Eq.symm q)), if_neg (fun q => hc93 (Eq.symm q)), if_neg (fun q => hc97 (Eq.symm q)), if_neg (fun q => hc101 (Eq.symm q))])
                obtain ⟨fs, hr, hrun, hended, hW, hsame⟩ := X106.leave (v := some (.int (1 : Int32))) (fun h => by rw [Bd.returns] at h; cases h)
                refine ⟨_, _, pre105 _ ?_, hrun, hended, _, _, rfl, ?_, ⟨_, rfl⟩, hW, hsame.mono (by decide) (by decide)⟩
                · show Steps p.tables e below (T87.setTop (mkF m 45 #[.val (.int p0), .val (.int p1), .val (.int p2), .val (.int p0), .val (.int ((p1 &&& (7 : Int32)) - (2 : Int32))), .val .null] [(.int ((p1 &&& (7 : Int32)) - (2 : Int32))), (.int p0), .null])) _
                  refine st106 _ ?_
                  show Steps p.tables e below (T106.setTop (mkF m 48 #[.val (.int p0), .val (.int p1), .val (.int p2), .val (.int p0), .val (.int ((p1 &&& (7 : Int32)) - (2 : Int32))), .val .null] [.null, .null])) _
                  refine Jvm.RoadKit.acmp (g := (mkF m 48 #[.val (.int p0), .val (.int p1), .val (.int p2), .val (.int p0), .val (.int ((p1 &&& (7 : Int32)) - (2 : Int32))), .val .null] [.null, .null])) X106 hx rfl rfl rfl (pc0 := 48) (pc' := 51) (same := true) rfl (hb hby at_48) rfl (decide_eq_true rfl) (by decide) (by decide) ?_
                  show Steps p.tables e below (T106.setTop (mkF m 51 #[.val (.int p0), .val (.int p1), .val (.int p2), .val (.int p0), .val (.int ((p1 &&& (7 : Int32)) - (2 : Int32))), .val .null] [])) _
                  refine XS.iconst X106.here hx rfl (hb hby at_51) ?_
                  show Steps p.tables e below (T106.setTop (mkF m 52 #[.val (.int p0), .val (.int p1), .val (.int p2), .val (.int p0), .val (.int ((p1 &&& (7 : Int32)) - (2 : Int32))), .val .null] [(.int (1 : Int32))])) _
                  refine XS.goto X106.here hx rfl (pc0 := 52) (pc' := 56) rfl (hb hby at_52) (by decide) (by decide) ?_
                  show Steps p.tables e below (T106.setTop (mkF m 56 #[.val (.int p0), .val (.int p1), .val (.int p2), .val (.int p0), .val (.int ((p1 &&& (7 : Int32)) - (2 : Int32))), .val .null] [(.int (1 : Int32))])) _
                  exact retN X106 hx (t := .boolean) Bd.returns (by simp) (hb hby at_56) hr
                · show own_Q0 Z u p0 p1 p2 h0 n0 _ T106.heap _
                  rw [e106]
                  exact ⟨rfl, N106, trivial⟩
      · --
        obtain rfl : vr87 = some .null := hv87.trans (by unfold own_r1; rw [if_neg hc88])
        have pre108 : ∀ t, Steps p.tables e below (T87.setTop (mkF m 45 #[.val (.int p0), .val (.int p1), .val (.int p2), .val (.int p0), .val (.int ((p1 &&& (7 : Int32)) - (2 : Int32))), .val .null] [(.int ((p1 &&& (7 : Int32)) - (2 : Int32))), (.int p0), .null])) t → Steps p.tables e below (s₁.setTop (entryFrame m #[(.int p0), (.int p1), (.int p2)] maxLocals)) t := fun t kt => pre86 t (by
          show Steps p.tables e below (s₁.setTop (mkF m 35 #[.val (.int p0), .val (.int p1), .val (.int p2), .val (.int p0), .val (.int ((p1 &&& (7 : Int32)) - (2 : Int32))), .unset] [(.int ((p1 &&& (7 : Int32)) - (2 : Int32))), (.int p0)])) _
          refine st87 _ ?_
          show Steps p.tables e below (T87.setTop (mkF m 38 #[.val (.int p0), .val (.int p1), .val (.int p2), .val (.int p0), .val (.int ((p1 &&& (7 : Int32)) - (2 : Int32))), .unset] [.null])) _
          refine XS.astore X87.here hx rfl (hb hby at_38) rfl rfl (l' := #[.val (.int p0), .val (.int p1), .val (.int p2), .val (.int p0), .val (.int ((p1 &&& (7 : Int32)) - (2 : Int32))), .val .null]) rfl ?_
          show Steps p.tables e below (T87.setTop (mkF m 40 #[.val (.int p0), .val (.int p1), .val (.int p2), .val (.int p0), .val (.int ((p1 &&& (7 : Int32)) - (2 : Int32))), .val .null] [])) _
          refine XS.aload X87.here hx rfl (hb hby at_40) rfl rfl ?_
          show Steps p.tables e below (T87.setTop (mkF m 42 #[.val (.int p0), .val (.int p1), .val (.int p2), .val (.int p0), .val (.int ((p1 &&& (7 : Int32)) - (2 : Int32))), .val .null] [.null])) _
          refine XS.iloadN X87.here hx rfl (hb hby at_42) rfl ?_
          show Steps p.tables e below (T87.setTop (mkF m 43 #[.val (.int p0), .val (.int p1), .val (.int p2), .val (.int p0), .val (.int ((p1 &&& (7 : Int32)) - (2 : Int32))), .val .null] [(.int p0), .null])) _
          refine XS.iload X87.here hx rfl (hb hby at_43) rfl ?_
          exact kt)
        obtain ⟨vr109, _, ⟨T109, L109, k109, n109⟩, -, X109, ⟨Lc109, hQ109, l109, y109, z109⟩, st109⟩ := Jvm.LawKit.callS X87 hx (y := (⟨"com/example/portcullis/portcullis/giop/GiopVersionOfPinLaw", "expected", "(II)Lcom/example/portcullis/portcullis/giop/GiopVersion;"⟩ : MethodName)) hown (mvT hZ (hw _ (List.mem_of_getElem? (i := 12) rfl))) (mvT hZ (hw _ (List.mem_of_getElem? (i := 13) rfl))) (mvT hZ (hw _ (List.mem_of_getElem? (i := 14) rfl))) (mvT hZ (hw _ (List.mem_of_getElem? (i := 15) rfl))) (by decide) (backOf (W := 1) (rm2 l Z a0 hw [] u p0 ((p1 &&& (7 : Int32)) - (2 : Int32)) B h0 n0 O ) hZ (hw _ (List.mem_of_getElem? (i := 15) rfl)) (hw _ (List.mem_of_getElem? (i := 14) rfl)) (by decide) (by decide)) (g := (mkF m 45 #[.val (.int p0), .val (.int p1), .val (.int p2), .val (.int p0), .val (.int ((p1 &&& (7 : Int32)) - (2 : Int32))), .val .null] [(.int ((p1 &&& (7 : Int32)) - (2 : Int32))), (.int p0), .null])) rfl (by rw [hml]; rfl) (argsL := [(.int p0), (.int ((p1 &&& (7 : Int32)) - (2 : Int32)))]) (rest := [.null]) (lenOf own_pd0 rfl) rfl (by show 2 * 0 + _ ≤ _; exact Nat.le_of_eq rfl) (hb hby at_45) (fun _ _ => ⟨rfl, e87, (by decide : 0 + 0 ≤ _), (by decide : 0 + 0 ≤ _)⟩)
        dsimp only [Pt.U, Pt.locs, Pt.cells, Pt.slots] at X109 l109 y109 z109 st109 hQ109
        subst l109 y109 z109
        obtain ⟨hv109, N109q, e109⟩ := hQ109
        have N109 := Fr.app N87 N109q
        obtain rfl : vr109 = some .null := hv109.trans (by unfold own_r2; rw [if_neg (fun q => hc88 (Eq.symm q))])
        obtain ⟨fs, hr, hrun, hended, hW, hsame⟩ := X109.leave (v := some (.int (1 : Int32))) (fun h => by rw [Bd.returns] at h; cases h)
        refine ⟨_, _, pre108 _ ?_, hrun, hended, _, _, rfl, ?_, ⟨_, rfl⟩, hW, hsame.mono (by decide) (by decide)⟩
        · show Steps p.tables e below (T87.setTop (mkF m 45 #[.val (.int p0), .val (.int p1), .val (.int p2), .val (.int p0), .val (.int ((p1 &&& (7 : Int32)) - (2 : Int32))), .val .null] [(.int ((p1 &&& (7 : Int32)) - (2 : Int32))), (.int p0), .null])) _
          refine st109 _ ?_
          show Steps p.tables e below (T109.setTop (mkF m 48 #[.val (.int p0), .val (.int p1), .val (.int p2), .val (.int p0), .val (.int ((p1 &&& (7 : Int32)) - (2 : Int32))), .val .null] [.null, .null])) _
          refine Jvm.RoadKit.acmp (g := (mkF m 48 #[.val (.int p0), .val (.int p1), .val (.int p2), .val (.int p0), .val (.int ((p1 &&& (7 : Int32)) - (2 : Int32))), .val .null] [.null, .null])) X109 hx rfl rfl rfl (pc0 := 48) (pc' := 51) (same := true) rfl (hb hby at_48) rfl (decide_eq_true rfl) (by decide) (by decide) ?_
          show Steps p.tables e below (T109.setTop (mkF m 51 #[.val (.int p0), .val (.int p1), .val (.int p2), .val (.int p0), .val (.int ((p1 &&& (7 : Int32)) - (2 : Int32))), .val .null] [])) _
          refine XS.iconst X109.here hx rfl (hb hby at_51) ?_
          show Steps p.tables e below (T109.setTop (mkF m 52 #[.val (.int p0), .val (.int p1), .val (.int p2), .val (.int p0), .val (.int ((p1 &&& (7 : Int32)) - (2 : Int32))), .val .null] [(.int (1 : Int32))])) _
          refine XS.goto X109.here hx rfl (pc0 := 52) (pc' := 56) rfl (hb hby at_52) (by decide) (by decide) ?_
          show Steps p.tables e below (T109.setTop (mkF m 56 #[.val (.int p0), .val (.int p1), .val (.int p2), .val (.int p0), .val (.int ((p1 &&& (7 : Int32)) - (2 : Int32))), .val .null] [(.int (1 : Int32))])) _
          exact retN X109 hx (t := .boolean) Bd.returns (by simp) (hb hby at_56) hr
        · show own_Q0 Z u p0 p1 p2 h0 n0 _ T109.heap _
          rw [e109]
          exact ⟨rfl, N109, trivial⟩
  · --
    have pre111 : ∀ t, Steps p.tables e below (s₁.setTop (mkF m 17 #[.val (.int p0), .val (.int p1), .val (.int p2), .val (.int (p0 &&& (3 : Int32))), .unset, .unset] [(.int (p2 &&& (2 : Int32)))])) t → Steps p.tables e below (s₁.setTop (entryFrame m #[(.int p0), (.int p1), (.int p2)] maxLocals)) t := fun t kt => pre57 t (by
      show Steps p.tables e below (s₁.setTop (mkF m 3 #[.val (.int p0), .val (.int p1), .val (.int p2), .unset, .unset, .unset] [(.int (p2 &&& (1 : Int32)))])) _
      refine XS.ifNo X0.here hx rfl (hb hby at_3) rfl ((if0 _ _).trans (feq hc58).1) ?_
      show Steps p.tables e below (s₁.setTop (mkF m 6 #[.val (.int p0), .val (.int p1), .val (.int p2), .unset, .unset, .unset] [])) _
      refine XS.iloadN X0.here hx rfl (hb hby at_6) rfl ?_
      show Steps p.tables e below (s₁.setTop (mkF m 7 #[.val (.int p0), .val (.int p1), .val (.int p2), .unset, .unset, .unset] [(.int p0)])) _
      refine XS.iconst X0.here hx rfl (hb hby at_7) ?_
      show Steps p.tables e below (s₁.setTop (mkF m 8 #[.val (.int p0), .val (.int p1), .val (.int p2), .unset, .unset, .unset] [(.int (3 : Int32)), (.int p0)])) _
      refine XS.iand X0.here hx rfl (hb hby at_8) rfl ?_
      show Steps p.tables e below (s₁.setTop (mkF m 9 #[.val (.int p0), .val (.int p1), .val (.int p2), .unset, .unset, .unset] [(.int (p0 &&& (3 : Int32)))])) _
      refine XS.goto X0.here hx rfl (pc0 := 9) (pc' := 13) rfl (hb hby at_9) (by decide) (by decide) ?_
      show Steps p.tables e below (s₁.setTop (mkF m 13 #[.val (.int p0), .val (.int p1), .val (.int p2), .unset, .unset, .unset] [(.int (p0 &&& (3 : Int32)))])) _
      refine XS.istoreN X0.here hx rfl (hb hby at_13) rfl (l' := #[.val (.int p0), .val (.int p1), .val (.int p2), .val (.int (p0 &&& (3 : Int32))), .unset, .unset]) rfl ?_
      show Steps p.tables e below (s₁.setTop (mkF m 14 #[.val (.int p0), .val (.int p1), .val (.int p2), .val (.int (p0 &&& (3 : Int32))), .unset, .unset] [])) _
      refine XS.iloadN X0.here hx rfl (hb hby at_14) rfl ?_
      show Steps p.tables e below (s₁.setTop (mkF m 15 #[.val (.int p0), .val (.int p1), .val (.int p2), .val (.int (p0 &&& (3 : Int32))), .unset, .unset] [(.int p2)])) _
      refine XS.iconst X0.here hx rfl (hb hby at_15) ?_
      show Steps p.tables e below (s₁.setTop (mkF m 16 #[.val (.int p0), .val (.int p1), .val (.int p2), .val (.int (p0 &&& (3 : Int32))), .unset, .unset] [(.int (2 : Int32)), (.int p2)])) _
      refine XS.iand X0.here hx rfl (hb hby at_16) rfl ?_
      exact kt)
    by_cases hc112 : (p2 &&& (2 : Int32)) = (0 : Int32)
    · --
      have pre113 : ∀ t, Steps p.tables e below (s₁.setTop (mkF m 35 #[.val (.int p0), .val (.int p1), .val (.int p2), .val (.int (p0 &&& (3 : Int32))), .val (.int p1), .unset] [(.int p1), (.int (p0 &&& (3 : Int32)))])) t → Steps p.tables e below (s₁.setTop (entryFrame m #[(.int p0), (.int p1), (.int p2)] maxLocals)) t := fun t kt => pre111 t (by
        show Steps p.tables e below (s₁.setTop (mkF m 17 #[.val (.int p0), .val (.int p1), .val (.int p2), .val (.int (p0 &&& (3 : Int32))), .unset, .unset] [(.int (p2 &&& (2 : Int32)))])) _
        refine XS.ifYes X0.here hx rfl (pc0 := 17) (pc' := 29) rfl (hb hby at_17) rfl ((if0 _ _).trans (teq hc112).1) (by decide) (by decide) ?_
        show Steps p.tables e below (s₁.setTop (mkF m 29 #[.val (.int p0), .val (.int p1), .val (.int p2), .val (.int (p0 &&& (3 : Int32))), .unset, .unset] [])) _
        refine XS.iloadN X0.here hx rfl (hb hby at_29) rfl ?_
        show Steps p.tables e below (s₁.setTop (mkF m 30 #[.val (.int p0), .val (.int p1), .val (.int p2), .val (.int (p0 &&& (3 : Int32))), .unset, .unset] [(.int p1)])) _
        refine XS.istore X0.here hx rfl (hb hby at_30) rfl (l' := #[.val (.int p0), .val (.int p1), .val (.int p2), .val (.int (p0 &&& (3 : Int32))), .val (.int p1), .unset]) rfl ?_
        show Steps p.tables e below (s₁.setTop (mkF m 32 #[.val (.int p0), .val (.int p1), .val (.int p2), .val (.int (p0 &&& (3 : Int32))), .val (.int p1), .unset] [])) _
        refine XS.iloadN X0.here hx rfl (hb hby at_32) rfl ?_
        show Steps p.tables e below (s₁.setTop (mkF m 33 #[.val (.int p0), .val (.int p1), .val (.int p2), .val (.int (p0 &&& (3 : Int32))), .val (.int p1), .unset] [(.int (p0 &&& (3 : Int32)))])) _
        refine XS.iload X0.here hx rfl (hb hby at_33) rfl ?_
        exact kt)
      obtain ⟨vr114, _, ⟨T114, L114, k114, n114⟩, -, X114, ⟨Lc114, hQ114, l114, y114, z114⟩, st114⟩ := Jvm.LawKit.callS X0 hx (y := (⟨"com/example/portcullis/portcullis/giop/GiopVersion", "of", "(II)Lcom/example/portcullis/portcullis/giop/GiopVersion;"⟩ : MethodName)) hown (mvT hZ (hw _ (List.mem_of_getElem? (i := 0) rfl))) (mvT hZ (hw _ (List.mem_of_getElem? (i := 1) rfl))) (mvT hZ (hw _ (List.mem_of_getElem? (i := 2) rfl))) (mvT hZ (hw _ (List.mem_of_getElem? (i := 3) rfl))) (by decide) (backOf (W := 0) (rm1 l Z a0 hw [] u (p0 &&& (3 : Int32)) p1 B h0 n0 O ) hZ (hw _ (List.mem_of_getElem? (i := 3) rfl)) (hw _ (List.mem_of_getElem? (i := 2) rfl)) (by decide) (by decide)) (g := (mkF m 35 #[.val (.int p0), .val (.int p1), .val (.int p2), .val (.int (p0 &&& (3 : Int32))), .val (.int p1), .unset] [(.int p1), (.int (p0 &&& (3 : Int32)))])) rfl (by rw [hml]; rfl) (argsL := [(.int (p0 &&& (3 : Int32))), (.int p1)]) (rest := []) (lenOf own_pd0 rfl) rfl (by show 2 * 0 + _ ≤ _; exact Nat.le_of_eq rfl) (hb hby at_35) (fun _ _ => ⟨rfl, e0, (by decide : 0 + 0 ≤ _), (by decide : 0 + 0 ≤ _)⟩)
      dsimp only [Pt.U, Pt.locs, Pt.cells, Pt.slots] at X114 l114 y114 z114 st114 hQ114
      subst l114 y114 z114
      obtain ⟨hv114, N114q, e114⟩ := hQ114
      have N114 := Fr.app N0 N114q
      by_cases hc115 : (1 : Int32) = (p0 &&& (3 : Int32))
      · --
        by_cases hc116 : (0 : Int32) = p1
        · --
          obtain rfl : vr114 = some (.ref (u 1)) := hv114.trans (by unfold own_r1; rw [if_pos hc115, if_pos hc116])
          have pre117 : ∀ t, Steps p.tables e below (T114.setTop (mkF m 45 #[.val (.int p0), .val (.int p1), .val (.int p2), .val (.int (p0 &&& (3 : Int32))), .val (.int p1), .val (.ref (u 1))] [(.int p1), (.int (p0 &&& (3 : Int32))), (.ref (u 1))])) t → Steps p.tables e below (s₁.setTop (entryFrame m #[(.int p0), (.int p1), (.int p2)] maxLocals)) t := fun t kt => pre113 t (by
            show Steps p.tables e below (s₁.setTop (mkF m 35 #[.val (.int p0), .val (.int p1), .val (.int p2), .val (.int (p0 &&& (3 : Int32))), .val (.int p1), .unset] [(.int p1), (.int (p0 &&& (3 : Int32)))])) _
            refine st114 _ ?_
            show Steps p.tables e below (T114.setTop (mkF m 38 #[.val (.int p0), .val (.int p1), .val (.int p2), .val (.int (p0 &&& (3 : Int32))), .val (.int p1), .unset] [(.ref (u 1))])) _
            refine XS.astore X114.here hx rfl (hb hby at_38) rfl rfl (l' := #[.val (.int p0), .val (.int p1), .val (.int p2), .val (.int (p0 &&& (3 : Int32))), .val (.int p1), .val (.ref (u 1))]) rfl ?_
            show Steps p.tables e below (T114.setTop (mkF m 40 #[.val (.int p0), .val (.int p1), .val (.int p2), .val (.int (p0 &&& (3 : Int32))), .val (.int p1), .val (.ref (u 1))] [])) _
            refine XS.aload X114.here hx rfl (hb hby at_40) rfl rfl ?_
            show Steps p.tables e below (T114.setTop (mkF m 42 #[.val (.int p0), .val (.int p1), .val (.int p2), .val (.int (p0 &&& (3 : Int32))), .val (.int p1), .val (.ref (u 1))] [(.ref (u 1))])) _
            refine XS.iloadN X114.here hx rfl (hb hby at_42) rfl ?_
            show Steps p.tables e below (T114.setTop (mkF m 43 #[.val (.int p0), .val (.int p1), .val (.int p2), .val (.int (p0 &&& (3 : Int32))), .val (.int p1), .val (.ref (u 1))] [(.int (p0 &&& (3 : Int32))), (.ref (u 1))])) _
            refine XS.iload X114.here hx rfl (hb hby at_43) rfl ?_
            exact kt)
          obtain ⟨vr118, _, ⟨T118, L118, k118, n118⟩, -, X118, ⟨Lc118, hQ118, l118, y118, z118⟩, st118⟩ := Jvm.LawKit.callS X114 hx (y := (⟨"com/example/portcullis/portcullis/giop/GiopVersionOfPinLaw", "expected", "(II)Lcom/example/portcullis/portcullis/giop/GiopVersion;"⟩ : MethodName)) hown (mvT hZ (hw _ (List.mem_of_getElem? (i := 12) rfl))) (mvT hZ (hw _ (List.mem_of_getElem? (i := 13) rfl))) (mvT hZ (hw _ (List.mem_of_getElem? (i := 14) rfl))) (mvT hZ (hw _ (List.mem_of_getElem? (i := 15) rfl))) (by decide) (backOf (W := 1) (rm2 l Z a0 hw [] u (p0 &&& (3 : Int32)) p1 B h0 n0 O ) hZ (hw _ (List.mem_of_getElem? (i := 15) rfl)) (hw _ (List.mem_of_getElem? (i := 14) rfl)) (by decide) (by decide)) (g := (mkF m 45 #[.val (.int p0), .val (.int p1), .val (.int p2), .val (.int (p0 &&& (3 : Int32))), .val (.int p1), .val (.ref (u 1))] [(.int p1), (.int (p0 &&& (3 : Int32))), (.ref (u 1))])) rfl (by rw [hml]; rfl) (argsL := [(.int (p0 &&& (3 : Int32))), (.int p1)]) (rest := [(.ref (u 1))]) (lenOf own_pd0 rfl) rfl (by show 2 * 0 + _ ≤ _; exact Nat.le_of_eq rfl) (hb hby at_45) (fun _ _ => ⟨rfl, e114, (by decide : 0 + 0 ≤ _), (by decide : 0 + 0 ≤ _)⟩)
          dsimp only [Pt.U, Pt.locs, Pt.cells, Pt.slots] at X118 l118 y118 z118 st118 hQ118
          subst l118 y118 z118
          obtain ⟨hv118, N118q, e118⟩ := hQ118
          have N118 := Fr.app N114 N118q
          obtain rfl : vr118 = some (.ref (u 1)) := hv118.trans (by unfold own_r2; rw [if_pos (Eq.symm hc115), if_pos (Eq.symm hc116)])
          obtain ⟨fs, hr, hrun, hended, hW, hsame⟩ := X118.leave (v := some (.int (1 : Int32))) (fun h => by rw [Bd.returns] at h; cases h)
          refine ⟨_, _, pre117 _ ?_, hrun, hended, _, _, rfl, ?_, ⟨_, rfl⟩, hW, hsame.mono (by decide) (by decide)⟩
          · show Steps p.tables e below (T114.setTop (mkF m 45 #[.val (.int p0), .val (.int p1), .val (.int p2), .val (.int (p0 &&& (3 : Int32))), .val (.int p1), .val (.ref (u 1))] [(.int p1), (.int (p0 &&& (3 : Int32))), (.ref (u 1))])) _
            refine st118 _ ?_
            show Steps p.tables e below (T118.setTop (mkF m 48 #[.val (.int p0), .val (.int p1), .val (.int p2), .val (.int (p0 &&& (3 : Int32))), .val (.int p1), .val (.ref (u 1))] [(.ref (u 1)), (.ref (u 1))])) _
            refine Jvm.RoadKit.acmp (g := (mkF m 48 #[.val (.int p0), .val (.int p1), .val (.int p2), .val (.int (p0 &&& (3 : Int32))), .val (.int p1), .val (.ref (u 1))] [(.ref (u 1)), (.ref (u 1))])) X118 hx rfl rfl rfl (pc0 := 48) (pc' := 51) (same := true) rfl (hb hby at_48) rfl (decide_eq_true rfl) (by decide) (by decide) ?_
            show Steps p.tables e below (T118.setTop (mkF m 51 #[.val (.int p0), .val (.int p1), .val (.int p2), .val (.int (p0 &&& (3 : Int32))), .val (.int p1), .val (.ref (u 1))] [])) _
            refine XS.iconst X118.here hx rfl (hb hby at_51) ?_
            show Steps p.tables e below (T118.setTop (mkF m 52 #[.val (.int p0), .val (.int p1), .val (.int p2), .val (.int (p0 &&& (3 : Int32))), .val (.int p1), .val (.ref (u 1))] [(.int (1 : Int32))])) _
            refine XS.goto X118.here hx rfl (pc0 := 52) (pc' := 56) rfl (hb hby at_52) (by decide) (by decide) ?_
            show Steps p.tables e below (T118.setTop (mkF m 56 #[.val (.int p0), .val (.int p1), .val (.int p2), .val (.int (p0 &&& (3 : Int32))), .val (.int p1), .val (.ref (u 1))] [(.int (1 : Int32))])) _
            exact retN X118 hx (t := .boolean) Bd.returns (by simp) (hb hby at_56) hr
          · show own_Q0 Z u p0 p1 p2 h0 n0 _ T118.heap _
            rw [e118]
            exact ⟨rfl, N118, trivial⟩
        · --
          by_cases hc120 : (1 : Int32) = p1
          · --
            obtain rfl : vr114 = some (.ref (u 2)) := hv114.trans (by unfold own_r1; rw [if_pos hc115, if_neg hc116, if_pos hc120])
            have pre121 : ∀ t, Steps p.tables e below (T114.setTop (mkF m 45 #[.val (.int p0), .val (.int p1), .val (.int p2), .val (.int (p0 &&& (3 : Int32))), .val (.int p1), .val (.ref (u 2))] [(.int p1), (.int (p0 &&& (3 : Int32))), (.ref (u 2))])) t → Steps p.tables e below (s₁.setTop (entryFrame m #[(.int p0), (.int p1), (.int p2)] maxLocals)) t := fun t kt => pre113 t (by
              show Steps p.tables e below (s₁.setTop (mkF m 35 #[.val (.int p0), .val (.int p1), .val (.int p2), .val (.int (p0 &&& (3 : Int32))), .val (.int p1), .unset] [(.int p1), (.int (p0 &&& (3 : Int32)))])) _
              refine st114 _ ?_
              show Steps p.tables e below (T114.setTop (mkF m 38 #[.val (.int p0), .val (.int p1), .val (.int p2), .val (.int (p0 &&& (3 : Int32))), .val (.int p1), .unset] [(.ref (u 2))])) _
              refine XS.astore X114.here hx rfl (hb hby at_38) rfl rfl (l' := #[.val (.int p0), .val (.int p1), .val (.int p2), .val (.int (p0 &&& (3 : Int32))), .val (.int p1), .val (.ref (u 2))]) rfl ?_
              show Steps p.tables e below (T114.setTop (mkF m 40 #[.val (.int p0), .val (.int p1), .val (.int p2), .val (.int (p0 &&& (3 : Int32))), .val (.int p1), .val (.ref (u 2))] [])) _
              refine XS.aload X114.here hx rfl (hb hby at_40) rfl rfl ?_
              show Steps p.tables e below (T114.setTop (mkF m 42 #[.val (.int p0), .val (.int p1), .val (.int p2), .val (.int (p0 &&& (3 : Int32))), .val (.int p1), .val (.ref (u 2))] [(.ref (u 2))])) _
              refine XS.iloadN X114.here hx rfl (hb hby at_42) rfl ?_
              show Steps p.tables e below (T114.setTop (mkF m 43 #[.val (.int p0), .val (.int p1), .val (.int p2), .val (.int (p0 &&& (3 : Int32))), .val (.int p1), .val (.ref (u 2))] [(.int (p0 &&& (3 : Int32))), (.ref (u 2))])) _
              refine XS.iload X114.here hx rfl (hb hby at_43) rfl ?_
              exact kt)
            obtain ⟨vr122, _, ⟨T122, L122, k122, n122⟩, -, X122, ⟨Lc122, hQ122, l122, y122, z122⟩, st122⟩ := Jvm.LawKit.callS X114 hx (y := (⟨"com/example/portcullis/portcullis/giop/GiopVersionOfPinLaw", "expected", "(II)Lcom/example/portcullis/portcullis/giop/GiopVersion;"⟩ : MethodName)) hown (mvT hZ (hw _ (List.mem_of_getElem? (i := 12) rfl))) (mvT hZ (hw _ (List.mem_of_getElem? (i := 13) rfl))) (mvT hZ (hw _ (List.mem_of_getElem? (i := 14) rfl))) (mvT hZ (hw _ (List.mem_of_getElem? (i := 15) rfl))) (by decide) (backOf (W := 1) (rm2 l Z a0 hw [] u (p0 &&& (3 : Int32)) p1 B h0 n0 O ) hZ (hw _ (List.mem_of_getElem? (i := 15) rfl)) (hw _ (List.mem_of_getElem? (i := 14) rfl)) (by decide) (by decide)) (g := (mkF m 45 #[.val (.int p0), .val (.int p1), .val (.int p2), .val (.int (p0 &&& (3 : Int32))), .val (.int p1), .val (.ref (u 2))] [(.int p1), (.int (p0 &&& (3 : Int32))), (.ref (u 2))])) rfl (by rw [hml]; rfl) (argsL := [(.int (p0 &&& (3 : Int32))), (.int p1)]) (rest := [(.ref (u 2))]) (lenOf own_pd0 rfl) rfl (by show 2 * 0 + _ ≤ _; exact Nat.le_of_eq rfl) (hb hby at_45) (fun _ _ => ⟨rfl, e114, (by decide : 0 + 0 ≤ _), (by decide : 0 + 0 ≤ _)⟩)
            dsimp only [Pt.U, Pt.locs, Pt.cells, Pt.slots] at X122 l122 y122 z122 st122 hQ122
            subst l122 y122 z122
            obtain ⟨hv122, N122q, e122⟩ := hQ122
            have N122 := Fr.app N114 N122q
            obtain rfl : vr122 = some (.ref (u 2)) := hv122.trans (by unfold own_r2; rw [if_pos (Eq.symm hc115), if_neg (fun q => hc116 (Eq.symm q)), if_pos (Eq.symm hc120)])
            obtain ⟨fs, hr, hrun, hended, hW, hsame⟩ := X122.leave (v := some (.int (1 : Int32))) (fun h => by rw [Bd.returns] at h; cases h)
            refine ⟨_, _, pre121 _ ?_, hrun, hended, _, _, rfl, ?_, ⟨_, rfl⟩, hW, hsame.mono (by decide) (by decide)⟩
            · show Steps p.tables e below (T114.setTop (mkF m 45 #[.val (.int p0), .val (.int p1), .val (.int p2), .val (.int (p0 &&& (3 : Int32))), .val (.int p1), .val (.ref (u 2))] [(.int p1), (.int (p0 &&& (3 : Int32))), (.ref (u 2))])) _
              refine st122 _ ?_
              show Steps p.tables e below (T122.setTop (mkF m 48 #[.val (.int p0), .val (.int p1), .val (.int p2), .val (.int (p0 &&& (3 : Int32))), .val (.int p1), .val (.ref (u 2))] [(.ref (u 2)), (.ref (u 2))])) _
              refine Jvm.RoadKit.acmp (g := (mkF m 48 #[.val (.int p0), .val (.int p1), .val (.int p2), .val (.int (p0 &&& (3 : Int32))), .val (.int p1), .val (.ref (u 2))] [(.ref (u 2)), (.ref (u 2))])) X122 hx rfl rfl rfl (pc0 := 48) (pc' := 51) (same := true) rfl (hb hby at_48) rfl (decide_eq_true rfl) (by decide) (by decide) ?_
              show Steps p.tables e below (T122.setTop (mkF m 51 #[.val (.int p0), .val (.int p1), .val (.int p2), .val (.int (p0 &&& (3 : Int32))), .val (.int p1), .val (.ref (u 2))] [])) _
              refine XS.iconst X122.here hx rfl (hb hby at_51) ?_
              show Steps p.tables e below (T122.setTop (mkF m 52 #[.val (.int p0), .val (.int p1), .val (.int p2), .val (.int (p0 &&& (3 : Int32))), .val (.int p1), .val (.ref (u 2))] [(.int (1 : Int32))])) _
              refine XS.goto X122.here hx rfl (pc0 := 52) (pc' := 56) rfl (hb hby at_52) (by decide) (by decide) ?_
              show Steps p.tables e below (T122.setTop (mkF m 56 #[.val (.int p0), .val (.int p1), .val (.int p2), .val (.int (p0 &&& (3 : Int32))), .val (.int p1), .val (.ref (u 2))] [(.int (1 : Int32))])) _
              exact retN X122 hx (t := .boolean) Bd.returns (by simp) (hb hby at_56) hr
            · show own_Q0 Z u p0 p1 p2 h0 n0 _ T122.heap _
              rw [e122]
              exact ⟨rfl, N122, trivial⟩
          · --
            by_cases hc124 : (2 : Int32) = p1
            · --
              obtain rfl : vr114 = some (.ref (u 3)) := hv114.trans (by unfold own_r1; rw [if_pos hc115, if_neg hc116, if_neg hc120, if_pos hc124])
              have pre125 : ∀ t, Steps p.tables e below (T114.setTop (mkF m 45 #[.val (.int p0), .val (.int p1), .val (.int p2), .val (.int (p0 &&& (3 : Int32))), .val (.int p1), .val (.ref (u 3))] [(.int p1), (.int (p0 &&& (3 : Int32))), (.ref (u 3))])) t → Steps p.tables e below (s₁.setTop (entryFrame m #[(.int p0), (.int p1), (.int p2)] maxLocals)) t := fun t kt => pre113 t (by
                show Steps p.tables e below (s₁.setTop (mkF m 35 #[.val (.int p0), .val (.int p1), .val (.int p2), .val (.int (p0 &&& (3 : Int32))), .val (.int p1), .unset] [(.int p1), (.int (p0 &&& (3 : Int32)))])) _
                refine st114 _ ?_
                show Steps p.tables e below (T114.setTop (mkF m 38 #[.val (.int p0), .val (.int p1), .val (.int p2), .val (.int (p0 &&& (3 : Int32))), .val (.int p1), .unset] [(.ref (u 3))])) _
                refine XS.astore X114.here hx rfl (hb hby at_38) rfl rfl (l' := #[.val (.int p0), .val (.int p1), .val (.int p2), .val (.int (p0 &&& (3 : Int32))), .val (.int p1), .val (.ref (u 3))]) rfl ?_
                show Steps p.tables e below (T114.setTop (mkF m 40 #[.val (.int p0), .val (.int p1), .val (.int p2), .val (.int (p0 &&& (3 : Int32))), .val (.int p1), .val (.ref (u 3))] [])) _
                refine XS.aload X114.here hx rfl (hb hby at_40) rfl rfl ?_
                show Steps p.tables e below (T114.setTop (mkF m 42 #[.val (.int p0), .val (.int p1), .val (.int p2), .val (.int (p0 &&& (3 : Int32))), .val (.int p1), .val (.ref (u 3))] [(.ref (u 3))])) _
                refine XS.iloadN X114.here hx rfl (hb hby at_42) rfl ?_
                show Steps p.tables e below (T114.setTop (mkF m 43 #[.val (.int p0), .val (.int p1), .val (.int p2), .val (.int (p0 &&& (3 : Int32))), .val (.int p1), .val (.ref (u 3))] [(.int (p0 &&& (3 : Int32))), (.ref (u 3))])) _
                refine XS.iload X114.here hx rfl (hb hby at_43) rfl ?_
                exact kt)
              obtain ⟨vr126, _, ⟨T126, L126, k126, n126⟩, -, X126, ⟨Lc126, hQ126, l126, y126, z126⟩, st126⟩ := Jvm.LawKit.callS X114 hx (y := (⟨"com/example/portcullis/portcullis/giop/GiopVersionOfPinLaw", "expected", "(II)Lcom/example/portcullis/portcullis/giop/GiopVersion;"⟩ : MethodName)) hown (mvT hZ (hw _ (List.mem_of_getElem? (i := 12) rfl))) (mvT hZ (hw _ (List.mem_of_getElem? (i := 13) rfl))) (mvT hZ (hw _ (List.mem_of_getElem? (i := 14) rfl))) (mvT hZ (hw _ (List.mem_of_getElem? (i := 15) rfl))) (by decide) (backOf (W := 1) (rm2 l Z a0 hw [] u (p0 &&& (3 : Int32)) p1 B h0 n0 O ) hZ (hw _ (List.mem_of_getElem? (i := 15) rfl)) (hw _ (List.mem_of_getElem? (i := 14) rfl)) (by decide) (by decide)) (g := (mkF m 45 #[.val (.int p0), .val (.int p1), .val (.int p2), .val (.int (p0 &&& (3 : Int32))), .val (.int p1), .val (.ref (u 3))] [(.int p1), (.int (p0 &&& (3 : Int32))), (.ref (u 3))])) rfl (by rw [hml]; rfl) (argsL := [(.int (p0 &&& (3 : Int32))), (.int p1)]) (rest := [(.ref (u 3))]) (lenOf own_pd0 rfl) rfl (by show 2 * 0 + _ ≤ _; exact Nat.le_of_eq rfl) (hb hby at_45) (fun _ _ => ⟨rfl, e114, (by decide : 0 + 0 ≤ _), (by decide : 0 + 0 ≤ _)⟩)
              dsimp only [Pt.U, Pt.locs, Pt.cells, Pt.slots] at X126 l126 y126 z126 st126 hQ126
              subst l126 y126 z126
              obtain ⟨hv126, N126q, e126⟩ := hQ126
              have N126 := Fr.app N114 N126q
              obtain rfl : vr126 = some (.ref (u 3)) := hv126.trans (by unfold own_r2; rw [if_pos (Eq.symm hc115), if_neg (fun q => hc116 (Eq.symm q)), if_neg (fun q => hc120 (Eq.symm q)), if_pos (Eq.symm hc124)])
              obtain ⟨fs, hr, hrun, hended, hW, hsame⟩ := X126.leave (v := some (.int (1 : Int32))) (fun h => by rw [Bd.returns] at h; cases h)
              refine ⟨_, _, pre125 _ ?_, hrun, hended, _, _, rfl, ?_, ⟨_, rfl⟩, hW, hsame.mono (by decide) (by decide)⟩
              · show Steps p.tables e below (T114.setTop (mkF m 45 #[.val (.int p0), .val (.int p1), .val (.int p2), .val (.int (p0 &&& (3 : Int32))), .val (.int p1), .val (.ref (u 3))] [(.int p1), (.int (p0 &&& (3 : Int32))), (.ref (u 3))])) _
                refine st126 _ ?_
                show Steps p.tables e below (T126.setTop (mkF m 48 #[.val (.int p0), .val (.int p1), .val (.int p2), .val (.int (p0 &&& (3 : Int32))), .val (.int p1), .val (.ref (u 3))] [(.ref (u 3)), (.ref (u 3))])) _
                refine Jvm.RoadKit.acmp (g := (mkF m 48 #[.val (.int p0), .val (.int p1), .val (.int p2), .val (.int (p0 &&& (3 : Int32))), .val (.int p1), .val (.ref (u 3))] [(.ref (u 3)), (.ref (u 3))])) X126 hx rfl rfl rfl (pc0 := 48) (pc' := 51) (same := true) rfl (hb hby at_48) rfl (decide_eq_true rfl) (by decide) (by decide) ?_
                show Steps p.tables e below (T126.setTop (mkF m 51 #[.val (.int p0), .val (.int p1), .val (.int p2), .val (.int (p0 &&& (3 : Int32))), .val (.int p1), .val (.ref (u 3))] [])) _
                refine XS.iconst X126.here hx rfl (hb hby at_51) ?_
                show Steps p.tables e below (T126.setTop (mkF m 52 #[.val (.int p0), .val (.int p1), .val (.int p2), .val (.int (p0 &&& (3 : Int32))), .val (.int p1), .val (.ref (u 3))] [(.int (1 : Int32))])) _
                refine XS.goto X126.here hx rfl (pc0 := 52) (pc' := 56) rfl (hb hby at_52) (by decide) (by decide) ?_
                show Steps p.tables e below (T126.setTop (mkF m 56 #[.val (.int p0), .val (.int p1), .val (.int p2), .val (.int (p0 &&& (3 : Int32))), .val (.int p1), .val (.ref (u 3))] [(.int (1 : Int32))])) _
                exact retN X126 hx (t := .boolean) Bd.returns (by simp) (hb hby at_56) hr
              · show own_Q0 Z u p0 p1 p2 h0 n0 _ T126.heap _
                rw [e126]
                exact ⟨rfl, N126, trivial⟩
            · --
              by_cases hc128 : (3 : Int32) = p1
              · --
                obtain rfl : vr114 = some (.ref (u 4)) := hv114.trans (by unfold own_r1; rw [if_pos hc115, if_neg hc116, if_neg hc120, if_neg hc124, if_pos hc128])
                have pre129 : ∀ t, Steps p.tables e below (T114.setTop (mkF m 45 #[.val (.int p0), .val (.int p1), .val (.int p2), .val (.int (p0 &&& (3 : Int32))), .val (.int p1), .val (.ref (u 4))] [(.int p1), (.int (p0 &&& (3 : Int32))), (.ref (u 4))])) t → Steps p.tables e below (s₁.setTop (entryFrame m #[(.int p0), (.int p1), (.int p2)] maxLocals)) t := fun t kt => pre113 t (by
                  show Steps p.tables e below (s₁.setTop (mkF m 35 #[.val (.int p0), .val (.int p1), .val (.int p2), .val (.int (p0 &&& (3 : Int32))), .val (.int p1), .unset] [(.int p1), (.int (p0 &&& (3 : Int32)))])) _
                  refine st114 _ ?_
                  show Steps p.tables e below (T114.setTop (mkF m 38 #[.val (.int p0), .val (.int p1), .val (.int p2), .val (.int (p0 &&& (3 : Int32))), .val (.int p1), .unset] [(.ref (u 4))])) _
                  refine XS.astore X114.here hx rfl (hb hby at_38) rfl rfl (l' := #[.val (.int p0), .val (.int p1), .val (.int p2), .val (.int (p0 &&& (3 : Int32))), .val (.int p1), .val (.ref (u 4))]) rfl ?_
                  show Steps p.tables e below (T114.setTop (mkF m 40 #[.val (.int p0), .val (.int p1), .val (.int p2), .val (.int (p0 &&& (3 : Int32))), .val (.int p1), .val (.ref (u 4))] [])) _
                  refine XS.aload X114.here hx rfl (hb hby at_40) rfl rfl ?_
                  show Steps p.tables e below (T114.setTop (mkF m 42 #[.val (.int p0), .val (.int p1), .val (.int p2), .val (.int (p0 &&& (3 : Int32))), .val (.int p1), .val (.ref (u 4))] [(.ref (u 4))])) _
                  refine XS.iloadN X114.here hx rfl (hb hby at_42) rfl ?_
                  show Steps p.tables e below (T114.setTop (mkF m 43 #[.val (.int p0), .val (.int p1), .val (.int p2), .val (.int (p0 &&& (3 : Int32))), .val (.int p1), .val (.ref (u 4))] [(.int (p0 &&& (3 : Int32))), (.ref (u 4))])) _
                  refine XS.iload X114.here hx rfl (hb hby at_43) rfl ?_
                  exact kt)
                obtain ⟨vr130, _, ⟨T130, L130, k130, n130⟩, -, X130, ⟨Lc130, hQ130, l130, y130, z130⟩, st130⟩ := Jvm.LawKit.callS X114 hx (y := (⟨"com/example/portcullis/portcullis/giop/GiopVersionOfPinLaw", "expected", "(II)Lcom/example/portcullis/portcullis/giop/GiopVersion;"⟩ : MethodName)) hown (mvT hZ (hw _ (List.mem_of_getElem? (i := 12) rfl))) (mvT hZ (hw _ (List.mem_of_getElem? (i := 13) rfl))) (mvT hZ (hw _ (List.mem_of_getElem? (i := 14) rfl))) (mvT hZ (hw _ (List.mem_of_getElem? (i := 15) rfl))) (by decide) (backOf (W := 1) (rm2 l Z a0 hw [] u (p0 &&& (3 : Int32)) p1 B h0 n0 O ) hZ (hw _ (List.mem_of_getElem? (i := 15) rfl)) (hw _ (List.mem_of_getElem? (i := 14) rfl)) (by decide) (by decide)) (g := (mkF m 45 #[.val (.int p0), .val (.int p1), .val (.int p2), .val (.int (p0 &&& (3 : Int32))), .val (.int p1), .val (.ref (u 4))] [(.int p1), (.int (p0 &&& (3 : Int32))), (.ref (u 4))])) rfl (by rw [hml]; rfl) (argsL := [(.int (p0 &&& (3 : Int32))), (.int p1)]) (rest := [(.ref (u 4))]) (lenOf own_pd0 rfl) rfl (by show 2 * 0 + _ ≤ _; exact Nat.le_of_eq rfl) (hb hby at_45) (fun _ _ => ⟨rfl, e114, (by decide : 0 + 0 ≤ _), (by decide : 0 + 0 ≤ _)⟩)
                dsimp only [Pt.U, Pt.locs, Pt.cells, Pt.slots] at X130 l130 y130 z130 st130 hQ130
                subst l130 y130 z130
                obtain ⟨hv130, N130q, e130⟩ := hQ130
                have N130 := Fr.app N114 N130q
                obtain rfl : vr130 = some (.ref (u 4)) := hv130.trans (by unfold own_r2; rw [if_pos (Eq.symm hc115), if_neg (fun q => hc116 (Eq.symm q)), if_neg (fun q => hc120 (Eq.symm q)), if_neg (fun q => hc124 (Eq.symm q)), if_pos (Eq.symm hc128)])
                obtain ⟨fs, hr, hrun, hended, hW, hsame⟩ := X130.leave (v := some (.int (1 : Int32))) (fun h => by rw [Bd.returns] at h; cases h)
                refine ⟨_, _, pre129 _ ?_, hrun, hended, _, _, rfl, ?_, ⟨_, rfl⟩, hW, hsame.mono (by decide) (by decide)⟩
                · show Steps p.tables e below (T114.setTop (mkF m 45 #[.val (.int p0), .val (.int p1), .val (.int p2), .val (.int (p0 &&& (3 : Int32))), .val (.int p1), .val (.ref (u 4))] [(.int p1), (.int (p0 &&& (3 : Int32))), (.ref (u 4))])) _
                  refine st130 _ ?_
                  show Steps p.tables e below (T130.setTop (mkF m 48 #[.val (.int p0), .val (.int p1), .val (.int p2), .val (.int (p0 &&& (3 : Int32))), .val (.int p1), .val (.ref (u 4))] [(.ref (u 4)), (.ref (u 4))])) _
                  refine Jvm.RoadKit.acmp (g := (mkF m 48 #[.val (.int p0), .val (.int p1), .val (.int p2), .val (.int (p0 &&& (3 : Int32))), .val (.int p1), .val (.ref (u 4))] [(.ref (u 4)), (.ref (u 4))])) X130 hx rfl rfl rfl (pc0 := 48) (pc' := 51) (same := true) rfl (hb hby at_48) rfl (decide_eq_true rfl) (by decide) (by decide) ?_
                  show Steps p.tables e below (T130.setTop (mkF m 51 #[.val (.int p0), .val (.int p1), .val (.int p2), .val (.int (p0 &&& (3 : Int32))), .val (.int p1), .val (.ref (u 4))] [])) _
                  refine XS.iconst X130.here hx rfl (hb hby at_51) ?_
                  show Steps p.tables e below (T130.setTop (mkF m 52 #[.val (.int p0), .val (.int p1), .val (.int p2), .val (.int (p0 &&& (3 : Int32))), .val (.int p1), .val (.ref (u 4))] [(.int (1 : Int32))])) _
                  refine XS.goto X130.here hx rfl (pc0 := 52) (pc' := 56) rfl (hb hby at_52) (by decide) (by decide) ?_
                  show Steps p.tables e below (T130.setTop (mkF m 56 #[.val (.int p0), .val (.int p1), .val (.int p2), .val (.int (p0 &&& (3 : Int32))), .val (.int p1), .val (.ref (u 4))] [(.int (1 : Int32))])) _
                  exact retN X130 hx (t := .boolean) Bd.returns (by simp) (hb hby at_56) hr
                · show own_Q0 Z u p0 p1 p2 h0 n0 _ T130.heap _
                  rw [e130]
                  exact ⟨rfl, N130, trivial⟩
              · --
                obtain rfl : vr114 = some .null := hv114.trans (by unfold own_r1; rw [if_pos hc115, if_neg hc116, if_neg hc120, if_neg hc124, if_neg hc128])
                have pre132 : ∀ t, Steps p.tables e below (T114.setTop (mkF m 45 #[.val (.int p0), .val (.int p1), .val (.int p2), .val (.int (p0 &&& (3 : Int32))), .val (.int p1), .val .null] [(.int p1), (.int (p0 &&& (3 : Int32))), .null])) t → Steps p.tables e below (s₁.setTop (entryFrame m #[(.int p0), (.int p1), (.int p2)] maxLocals)) t := fun t kt => pre113 t (by
                  show Steps p.tables e below (s₁.setTop (mkF m 35 #[.val (.int p0), .val (.int p1), .val (.int p2), .val (.int (p0 &&& (3 : Int32))), .val (.int p1), .unset] [(.int p1), (.int (p0 &&& (3 : Int32)))])) _
                  refine st114 _ ?_
                  show Steps p.tables e below (T114.setTop (mkF m 38 #[.val (.int p0), .val (.int p1), .val (.int p2), .val (.int (p0 &&& (3 : Int32))), .val (.int p1), .unset] [.null])) _
                  refine XS.astore X114.here hx rfl (hb hby at_38) rfl rfl (l' := #[.val (.int p0), .val (.int p1), .val (.int p2), .val (.int (p0 &&& (3 : Int32))), .val (.int p1), .val .null]) rfl ?_
                  show Steps p.tables e below (T114.setTop (mkF m 40 #[.val (.int p0), .val (.int p1), .val (.int p2), .val (.int (p0 &&& (3 : Int32))), .val (.int p1), .val .null] [])) _
                  refine XS.aload X114.here hx rfl (hb hby at_40) rfl rfl ?_
                  show Steps p.tables e below (T114.setTop (mkF m 42 #[.val (.int p0), .val (.int p1), .val (.int p2), .val (.int (p0 &&& (3 : Int32))), .val (.int p1), .val .null] [.null])) _
                  refine XS.iloadN X114.here hx rfl (hb hby at_42) rfl ?_
                  show Steps p.tables e below (T114.setTop (mkF m 43 #[.val (.int p0), .val (.int p1), .val (.int p2), .val (.int (p0 &&& (3 : Int32))), .val (.int p1), .val .null] [(.int (p0 &&& (3 : Int32))), .null])) _
                  refine XS.iload X114.here hx rfl (hb hby at_43) rfl ?_
                  exact kt)
                obtain ⟨vr133, _, ⟨T133, L133, k133, n133⟩, -, X133, ⟨Lc133, hQ133, l133, y133, z133⟩, st133⟩ := Jvm.LawKit.callS X114 hx (y := (⟨"com/example/portcullis/portcullis/giop/GiopVersionOfPinLaw", "expected", "(II)Lcom/example/portcullis/portcullis/giop/GiopVersion;"⟩ : MethodName)) hown (mvT hZ (hw _ (List.mem_of_getElem? (i := 12) rfl))) (mvT hZ (hw _ (List.mem_of_getElem? (i := 13) rfl))) (mvT hZ (hw _ (List.mem_of_getElem? (i := 14) rfl))) (mvT hZ (hw _ (List.mem_of_getElem? (i := 15) rfl))) (by decide) (backOf (W := 1) (rm2 l Z a0 hw [] u (p0 &&& (3 : Int32)) p1 B h0 n0 O ) hZ (hw _ (List.mem_of_getElem? (i := 15) rfl)) (hw _ (List.mem_of_getElem? (i := 14) rfl)) (by decide) (by decide)) (g := (mkF m 45 #[.val (.int p0), .val (.int p1), .val (.int p2), .val (.int (p0 &&& (3 : Int32))), .val (.int p1), .val .null] [(.int p1), (.int (p0 &&& (3 : Int32))), .null])) rfl (by rw [hml]; rfl) (argsL := [(.int (p0 &&& (3 : Int32))), (.int p1)]) (rest := [.null]) (lenOf own_pd0 rfl) rfl (by show 2 * 0 + _ ≤ _; exact Nat.le_of_eq rfl) (hb hby at_45) (fun _ _ => ⟨rfl, e114, (by decide : 0 + 0 ≤ _), (by decide : 0 + 0 ≤ _)⟩)
                dsimp only [Pt.U, Pt.locs, Pt.cells, Pt.slots] at X133 l133 y133 z133 st133 hQ133
                subst l133 y133 z133
                obtain ⟨hv133, N133q, e133⟩ := hQ133
                have N133 := Fr.app N114 N133q
                obtain rfl : vr133 = some .null := hv133.trans (by unfold own_r2; rw [if_pos (Eq.symm hc115), if_neg (fun q => hc116 (Eq.symm q)), if_neg (fun q => hc120 (Eq.symm q)), if_neg (fun q => hc124 (Eq.symm q)), if_neg (fun q => hc128 (Eq.symm q))])
                obtain ⟨fs, hr, hrun, hended, hW, hsame⟩ := X133.leave (v := some (.int (1 : Int32))) (fun h => by rw [Bd.returns] at h; cases h)
                refine ⟨_, _, pre132 _ ?_, hrun, hended, _, _, rfl, ?_, ⟨_, rfl⟩, hW, hsame.mono (by decide) (by decide)⟩
                · show Steps p.tables e below (T114.setTop (mkF m 45 #[.val (.int p0), .val (.int p1), .val (.int p2), .val (.int (p0 &&& (3 : Int32))), .val (.int p1), .val .null] [(.int p1), (.int (p0 &&& (3 : Int32))), .null])) _
                  refine st133 _ ?_
                  show Steps p.tables e below (T133.setTop (mkF m 48 #[.val (.int p0), .val (.int p1), .val (.int p2), .val (.int (p0 &&& (3 : Int32))), .val (.int p1), .val .null] [.null, .null])) _
                  refine Jvm.RoadKit.acmp (g := (mkF m 48 #[.val (.int p0), .val (.int p1), .val (.int p2), .val (.int (p0 &&& (3 : Int32))), .val (.int p1), .val .null] [.null, .null])) X133 hx rfl rfl rfl (pc0 := 48) (pc' := 51) (same := true) rfl (hb hby at_48) rfl (decide_eq_true rfl) (by decide) (by decide) ?_
                  show Steps p.tables e below (T133.setTop (mkF m 51 #[.val (.int p0), .val (.int p1), .val (.int p2), .val (.int (p0 &&& (3 : Int32))), .val (.int p1), .val .null] [])) _
                  refine XS.iconst X133.here hx rfl (hb hby at_51) ?_
                  show Steps p.tables e below (T133.setTop (mkF m 52 #[.val (.int p0), .val (.int p1), .val (.int p2), .val (.int (p0 &&& (3 : Int32))), .val (.int p1), .val .null] [(.int (1 : Int32))])) _
                  refine XS.goto X133.here hx rfl (pc0 := 52) (pc' := 56) rfl (hb hby at_52) (by decide) (by decide) ?_
                  show Steps p.tables e below (T133.setTop (mkF m 56 #[.val (.int p0), .val (.int p1), .val (.int p2), .val (.int (p0 &&& (3 : Int32))), .val (.int p1), .val .null] [(.int (1 : Int32))])) _
                  exact retN X133 hx (t := .boolean) Bd.returns (by simp) (hb hby at_56) hr
                · show own_Q0 Z u p0 p1 p2 h0 n0 _ T133.heap _
                  rw [e133]
                  exact ⟨rfl, N133, trivial⟩
      · --
        obtain rfl : vr114 = some .null := hv114.trans (by unfold own_r1; rw [if_neg hc115])
        have pre135 : ∀ t, Steps p.tables e below (T114.setTop (mkF m 45 #[.val (.int p0), .val (.int p1), .val (.int p2), .val (.int (p0 &&& (3 : Int32))), .val (.int p1), .val .null] [(.int p1), (.int (p0 &&& (3 : Int32))), .null])) t → Steps p.tables e below (s₁.setTop (entryFrame m #[(.int p0), (.int p1), (.int p2)] maxLocals)) t := fun t kt => pre113 t (by
          show Steps p.tables e below (s₁.setTop (mkF m 35 #[.val (.int p0), .val (.int p1), .val (.int p2), .val (.int (p0 &&& (3 : Int32))), .val (.int p1), .unset] [(.int p1), (.int (p0 &&& (3 : Int32)))])) _
          refine st114 _ ?_
          show Steps p.tables e below (T114.setTop (mkF m 38 #[.val (.int p0), .val (.int p1), .val (.int p2), .val (.int (p0 &&& (3 : Int32))), .val (.int p1), .unset] [.null])) _
          refine XS.astore X114.here hx rfl (hb hby at_38) rfl rfl (l' := #[.val (.int p0), .val (.int p1), .val (.int p2), .val (.int (p0 &&& (3 : Int32))), .val (.int p1), .val .null]) rfl ?_
          show Steps p.tables e below (T114.setTop (mkF m 40 #[.val (.int p0), .val (.int p1), .val (.int p2), .val (.int (p0 &&& (3 : Int32))), .val (.int p1), .val .null] [])) _
          refine XS.aload X114.here hx rfl (hb hby at_40) rfl rfl ?_
          show Steps p.tables e below (T114.setTop (mkF m 42 #[.val (.int p0), .val (.int p1), .val (.int p2), .val (.int (p0 &&& (3 : Int32))), .val (.int p1), .val .null] [.null])) _
          refine XS.iloadN X114.here hx rfl (hb hby at_42) rfl ?_
          show Steps p.tables e below (T114.setTop (mkF m 43 #[.val (.int p0), .val (.int p1), .val (.int p2), .val (.int (p0 &&& (3 : Int32))), .val (.int p1), .val .null] [(.int (p0 &&& (3 : Int32))), .null])) _
          refine XS.iload X114.here hx rfl (hb hby at_43) rfl ?_
          exact kt)
        obtain ⟨vr136, _, ⟨T136, L136, k136, n136⟩, -, X136, ⟨Lc136, hQ136, l136, y136, z136⟩, st136⟩ := Jvm.LawKit.callS X114 hx (y := (⟨"com/example/portcullis/portcullis/giop/GiopVersionOfPinLaw", "expected", "(II)Lcom/example/portcullis/portcullis/giop/GiopVersion;"⟩ : MethodName)) hown (mvT hZ (hw _ (List.mem_of_getElem? (i := 12) rfl))) (mvT hZ (hw _ (List.mem_of_getElem? (i := 13) rfl))) (mvT hZ (hw _ (List.mem_of_getElem? (i := 14) rfl))) (mvT hZ (hw _ (List.mem_of_getElem? (i := 15) rfl))) (by decide) (backOf (W := 1) (rm2 l Z a0 hw [] u (p0 &&& (3 : Int32)) p1 B h0 n0 O ) hZ (hw _ (List.mem_of_getElem? (i := 15) rfl)) (hw _ (List.mem_of_getElem? (i := 14) rfl)) (by decide) (by decide)) (g := (mkF m 45 #[.val (.int p0), .val (.int p1), .val (.int p2), .val (.int (p0 &&& (3 : Int32))), .val (.int p1), .val .null] [(.int p1), (.int (p0 &&& (3 : Int32))), .null])) rfl (by rw [hml]; rfl) (argsL := [(.int (p0 &&& (3 : Int32))), (.int p1)]) (rest := [.null]) (lenOf own_pd0 rfl) rfl (by show 2 * 0 + _ ≤ _; exact Nat.le_of_eq rfl) (hb hby at_45) (fun _ _ => ⟨rfl, e114, (by decide : 0 + 0 ≤ _), (by decide : 0 + 0 ≤ _)⟩)
        dsimp only [Pt.U, Pt.locs, Pt.cells, Pt.slots] at X136 l136 y136 z136 st136 hQ136
        subst l136 y136 z136
        obtain ⟨hv136, N136q, e136⟩ := hQ136
        have N136 := Fr.app N114 N136q
        obtain rfl : vr136 = some .null := hv136.trans (by unfold own_r2; rw [if_neg (fun q => hc115 (Eq.symm q))])
        obtain ⟨fs, hr, hrun, hended, hW, hsame⟩ := X136.leave (v := some (.int (1 : Int32))) (fun h => by rw [Bd.returns] at h; cases h)
        refine ⟨_, _, pre135 _ ?_, hrun, hended, _, _, rfl, ?_, ⟨_, rfl⟩, hW, hsame.mono (by decide) (by decide)⟩
        · show Steps p.tables e below (T114.setTop (mkF m 45 #[.val (.int p0), .val (.int p1), .val (.int p2), .val (.int (p0 &&& (3 : Int32))), .val (.int p1), .val .null] [(.int p1), (.int (p0 &&& (3 : Int32))), .null])) _
          refine st136 _ ?_
          show Steps p.tables e below (T136.setTop (mkF m 48 #[.val (.int p0), .val (.int p1), .val (.int p2), .val (.int (p0 &&& (3 : Int32))), .val (.int p1), .val .null] [.null, .null])) _
          refine Jvm.RoadKit.acmp (g := (mkF m 48 #[.val (.int p0), .val (.int p1), .val (.int p2), .val (.int (p0 &&& (3 : Int32))), .val (.int p1), .val .null] [.null, .null])) X136 hx rfl rfl rfl (pc0 := 48) (pc' := 51) (same := true) rfl (hb hby at_48) rfl (decide_eq_true rfl) (by decide) (by decide) ?_
          show Steps p.tables e below (T136.setTop (mkF m 51 #[.val (.int p0), .val (.int p1), .val (.int p2), .val (.int (p0 &&& (3 : Int32))), .val (.int p1), .val .null] [])) _
          refine XS.iconst X136.here hx rfl (hb hby at_51) ?_
          show Steps p.tables e below (T136.setTop (mkF m 52 #[.val (.int p0), .val (.int p1), .val (.int p2), .val (.int (p0 &&& (3 : Int32))), .val (.int p1), .val .null] [(.int (1 : Int32))])) _
          refine XS.goto X136.here hx rfl (pc0 := 52) (pc' := 56) rfl (hb hby at_52) (by decide) (by decide) ?_
          show Steps p.tables e below (T136.setTop (mkF m 56 #[.val (.int p0), .val (.int p1), .val (.int p2), .val (.int (p0 &&& (3 : Int32))), .val (.int p1), .val .null] [(.int (1 : Int32))])) _
          exact retN X136 hx (t := .boolean) Bd.returns (by simp) (hb hby at_56) hr
        · show own_Q0 Z u p0 p1 p2 h0 n0 _ T136.heap _
          rw [e136]
          exact ⟨rfl, N136, trivial⟩
    · --
      have pre138 : ∀ t, Steps p.tables e below (s₁.setTop (mkF m 35 #[.val (.int p0), .val (.int p1), .val (.int p2), .val (.int (p0 &&& (3 : Int32))), .val (.int ((p1 &&& (7 : Int32)) - (2 : Int32))), .unset] [(.int ((p1 &&& (7 : Int32)) - (2 : Int32))), (.int (p0 &&& (3 : Int32)))])) t → Steps p.tables e below (s₁.setTop (entryFrame m #[(.int p0), (.int p1), (.int p2)] maxLocals)) t := fun t kt => pre111 t (by
        show Steps p.tables e below (s₁.setTop (mkF m 17 #[.val (.int p0), .val (.int p1), .val (.int p2), .val (.int (p0 &&& (3 : Int32))), .unset, .unset] [(.int (p2 &&& (2 : Int32)))])) _
        refine XS.ifNo X0.here hx rfl (hb hby at_17) rfl ((if0 _ _).trans (feq hc112).1) ?_
        show Steps p.tables e below (s₁.setTop (mkF m 20 #[.val (.int p0), .val (.int p1), .val (.int p2), .val (.int (p0 &&& (3 : Int32))), .unset, .unset] [])) _
        refine XS.iloadN X0.here hx rfl (hb hby at_20) rfl ?_
        show Steps p.tables e below (s₁.setTop (mkF m 21 #[.val (.int p0), .val (.int p1), .val (.int p2), .val (.int (p0 &&& (3 : Int32))), .unset, .unset] [(.int p1)])) _
        refine XS.bipush X0.here hx rfl (hb hby at_21) ?_
        show Steps p.tables e below (s₁.setTop (mkF m 23 #[.val (.int p0), .val (.int p1), .val (.int p2), .val (.int (p0 &&& (3 : Int32))), .unset, .unset] [(.int (7 : Int32)), (.int p1)])) _
        refine XS.iand X0.here hx rfl (hb hby at_23) rfl ?_
        show Steps p.tables e below (s₁.setTop (mkF m 24 #[.val (.int p0), .val (.int p1), .val (.int p2), .val (.int (p0 &&& (3 : Int32))), .unset, .unset] [(.int (p1 &&& (7 : Int32)))])) _
        refine XS.iconst X0.here hx rfl (hb hby at_24) ?_
        show Steps p.tables e below (s₁.setTop (mkF m 25 #[.val (.int p0), .val (.int p1), .val (.int p2), .val (.int (p0 &&& (3 : Int32))), .unset, .unset] [(.int (2 : Int32)), (.int (p1 &&& (7 : Int32)))])) _
        refine XS.isub X0.here hx rfl (hb hby at_25) rfl ?_
        show Steps p.tables e below (s₁.setTop (mkF m 26 #[.val (.int p0), .val (.int p1), .val (.int p2), .val (.int (p0 &&& (3 : Int32))), .unset, .unset] [(.int ((p1 &&& (7 : Int32)) - (2 : Int32)))])) _
        refine XS.goto X0.here hx rfl (pc0 := 26) (pc' := 30) rfl (hb hby at_26) (by decide) (by decide) ?_
        show Steps p.tables e below (s₁.setTop (mkF m 30 #[.val (.int p0), .val (.int p1), .val (.int p2), .val (.int (p0 &&& (3 : Int32))), .unset, .unset] [(.int ((p1 &&& (7 : Int32)) - (2 : Int32)))])) _
        refine XS.istore X0.here hx rfl (hb hby at_30) rfl (l' := #[.val (.int p0), .val (.int p1), .val (.int p2), .val (.int (p0 &&& (3 : Int32))), .val (.int ((p1 &&& (7 : Int32)) - (2 : Int32))), .unset]) rfl ?_
        show Steps p.tables e below (s₁.setTop (mkF m 32 #[.val (.int p0), .val (.int p1), .val (.int p2), .val (.int (p0 &&& (3 : Int32))), .val (.int ((p1 &&& (7 : Int32)) - (2 : Int32))), .unset] [])) _
        refine XS.iloadN X0.here hx rfl (hb hby at_32) rfl ?_
        show Steps p.tables e below (s₁.setTop (mkF m 33 #[.val (.int p0), .val (.int p1), .val (.int p2), .val (.int (p0 &&& (3 : Int32))), .val (.int ((p1 &&& (7 : Int32)) - (2 : Int32))), .unset] [(.int (p0 &&& (3 : Int32)))])) _
        refine XS.iload X0.here hx rfl (hb hby at_33) rfl ?_
        exact kt)
      obtain ⟨vr139, _, ⟨T139, L139, k139, n139⟩, -, X139, ⟨Lc139, hQ139, l139, y139, z139⟩, st139⟩ := Jvm.LawKit.callS X0 hx (y := (⟨"com/example/portcullis/portcullis/giop/GiopVersion", "of", "(II)Lcom/example/portcullis/portcullis/giop/GiopVersion;"⟩ : MethodName)) hown (mvT hZ (hw _ (List.mem_of_getElem? (i := 0) rfl))) (mvT hZ (hw _ (List.mem_of_getElem? (i := 1) rfl))) (mvT hZ (hw _ (List.mem_of_getElem? (i := 2) rfl))) (mvT hZ (hw _ (List.mem_of_getElem? (i := 3) rfl))) (by decide) (backOf (W := 0) (rm1 l Z a0 hw [] u (p0 &&& (3 : Int32)) ((p1 &&& (7 : Int32)) - (2 : Int32)) B h0 n0 O ) hZ (hw _ (List.mem_of_getElem? (i := 3) rfl)) (hw _ (List.mem_of_getElem? (i := 2) rfl)) (by decide) (by decide)) (g := (mkF m 35 #[.val (.int p0), .val (.int p1), .val (.int p2), .val (.int (p0 &&& (3 : Int32))), .val (.int ((p1 &&& (7 : Int32)) - (2 : Int32))), .unset] [(.int ((p1 &&& (7 : Int32)) - (2 : Int32))), (.int (p0 &&& (3 : Int32)))])) rfl (by rw [hml]; rfl) (argsL := [(.int (p0 &&& (3 : Int32))), (.int ((p1 &&& (7 : Int32)) - (2 : Int32)))]) (rest := []) (lenOf own_pd0 rfl) rfl (by show 2 * 0 + _ ≤ _; exact Nat.le_of_eq rfl) (hb hby at_35) (fun _ _ => ⟨rfl, e0, (by decide : 0 + 0 ≤ _), (by decide : 0 + 0 ≤ _)⟩)
      dsimp only [Pt.U, Pt.locs, Pt.cells, Pt.slots] at X139 l139 y139 z139 st139 hQ139
      subst l139 y139 z139
      obtain ⟨hv139, N139q, e139⟩ := hQ139
      have N139 := Fr.app N0 N139q
      by_cases hc140 : (1 : Int32) = (p0 &&& (3 : Int32))
      · --
        by_cases hc141 : (0 : Int32) = ((p1 &&& (7 : Int32)) - (2 : Int32))
        · --
          obtain rfl : vr139 = some (.ref (u 1)) := hv139.trans (by unfold own_r1; rw [if_pos hc140, if_pos hc141])
          have pre142 : ∀ t, Steps p.tables e below (T139.setTop (mkF m 45 #[.val (.int p0), .val (.int p1), .val (.int p2), .val (.int (p0 &&& (3 : Int32))), .val (.int ((p1 &&& (7 : Int32)) - (2 : Int32))), .val (.ref (u 1))] [(.int ((p1 &&& (7 : Int32)) - (2 : Int32))), (.int (p0 &&& (3 : Int32))), (.ref (u 1))])) t → Steps p.tables e below (s₁.setTop (entryFrame m #[(.int p0), (.int p1), (.int p2)] maxLocals)) t := fun t kt => pre138 t (by
            show Steps p.tables e below (s₁.setTop (mkF m 35 #[.val (.int p0), .val (.int p1), .val (.int p2), .val (.int (p0 &&& (3 : Int32))), .val (.int ((p1 &&& (7 : Int32)) - (2 : Int32))), .unset] [(.int ((p1 &&& (7 : Int32)) - (2 : Int32))), (.int (p0 &&& (3 : Int32)))])) _
            refine st139 _ ?_
            show Steps p.tables e below (T139.setTop (mkF m 38 #[.val (.int p0), .val (.int p1), .val (.int p2), .val (.int (p0 &&& (3 : Int32))), .val (.int ((p1 &&& (7 : Int32)) - (2 : Int32))), .unset] [(.ref (u 1))])) _
            refine XS.astore X139.here hx rfl (hb hby at_38) rfl rfl (l' := #[.val (.int p0), .val (.int p1), .val (.int p2), .val (.int (p0 &&& (3 : Int32))), .val (.int ((p1 &&& (7 : Int32)) - (2 : Int32))), .val (.ref (u 1))]) rfl ?_
            show Steps p.tables e below (T139.setTop (mkF m 40 #[.val (.int p0), .val (.int p1), .val (.int p2), .val (.int (p0 &&& (3 : Int32))), .val (.int ((p1 &&& (7 : Int32)) - (2 : Int32))), .val (.ref (u 1))] [])) _
            refine XS.aload X139.here hx rfl (hb hby at_40) rfl rfl ?_
            show Steps p.tables e below (T139.setTop (mkF m 42 #[.val (.int p0), .val (.int p1), .val (.int p2), .val (.int (p0 &&& (3 : Int32))), .val (.int ((p1 &&& (7 : Int32)) - (2 : Int32))), .val (.ref (u 1))] [(.ref (u 1))])) _
            refine XS.iloadN X139.here hx rfl (hb hby at_42) rfl ?_
            show Steps p.tables e below (T139.setTop (mkF m 43 #[.val (.int p0), .val (.int p1), .val (.int p2), .val (.int (p0 &&& (3 : Int32))), .val (.int ((p1 &&& (7 : Int32)) - (2 : Int32))), .val (.ref (u 1))] [(.int (p0 &&& (3 : Int32))), (.ref (u 1))])) _
            refine XS.iload X139.here hx rfl (hb hby at_43) rfl ?_
            exact kt)
          obtain ⟨vr143, _, ⟨T143, L143, k143, n143⟩, -, X143, ⟨Lc143, hQ143, l143, y143, z143⟩, st143⟩ := Jvm.LawKit.callS X139 hx (y := (⟨"com/example/portcullis/portcullis/giop/GiopVersionOfPinLaw", "expected", "(II)Lcom/example/portcullis/portcullis/giop/GiopVersion;"⟩ : MethodName)) hown (mvT hZ (hw _ (List.mem_of_getElem? (i := 12) rfl))) (mvT hZ (hw _ (List.mem_of_getElem? (i := 13) rfl))) (mvT hZ (hw _ (List.mem_of_getElem? (i := 14) rfl))) (mvT hZ (hw _ (List.mem_of_getElem? (i := 15) rfl))) (by decide) (backOf (W := 1) (rm2 l Z a0 hw [] u (p0 &&& (3 : Int32)) ((p1 &&& (7 : Int32)) - (2 : Int32)) B h0 n0 O ) hZ (hw _ (List.mem_of_getElem? (i := 15) rfl)) (hw _ (List.mem_of_getElem? (i := 14) rfl)) (by decide) (by decide)) (g := (mkF m 45 #[.val (.int p0), .val (.int p1), .val (.int p2), .val (.int (p0 &&& (3 : Int32))), .val (.int ((p1 &&& (7 : Int32)) - (2 : Int32))), .val (.ref (u 1))] [(.int ((p1 &&& (7 : Int32)) - (2 : Int32))), (.int (p0 &&& (3 : Int32))), (.ref (u 1))])) rfl (by rw [hml]; rfl) (argsL := [(.int (p0 &&& (3 : Int32))), (.int ((p1 &&& (7 : Int32)) - (2 : Int32)))]) (rest := [(.ref (u 1))]) (lenOf own_pd0 rfl) rfl (by show 2 * 0 + _ ≤ _; exact Nat.le_of_eq rfl) (hb hby at_45) (fun _ _ => ⟨rfl, e139, (by decide : 0 + 0 ≤ _), (by decide : 0 + 0 ≤ _)⟩)
          dsimp only [Pt.U, Pt.locs, Pt.cells, Pt.slots] at X143 l143 y143 z143 st143 hQ143
          subst l143 y143 z143
          obtain ⟨hv143, N143q, e143⟩ := hQ143
          have N143 := Fr.app N139 N143q
          obtain rfl : vr143 = some (.ref (u 1)) := hv143.trans (by unfold own_r2; rw [if_pos (Eq.symm hc140), if_pos (Eq.symm hc141)])
          obtain ⟨fs, hr, hrun, hended, hW, hsame⟩ := X143.leave (v := some (.int (1 : Int32))) (fun h => by rw [Bd.returns] at h; cases h)
          refine ⟨_, _, pre142 _ ?_, hrun, hended, _, _, rfl, ?_, ⟨_, rfl⟩, hW, hsame.mono (by decide) (by decide)⟩
          · show Steps p.tables e below (T139.setTop (mkF m 45 #[.val (.int p0), .val (.int p1), .val (.int p2), .val (.int (p0 &&& (3 : Int32))), .val (.int ((p1 &&& (7 : Int32)) - (2 : Int32))), .val (.ref (u 1))] [(.int ((p1 &&& (7 : Int32)) - (2 : Int32))), (.int (p0 &&& (3 : Int32))), (.ref (u 1))])) _
            refine st143 _ ?_
            show Steps p.tables e below (T143.setTop (mkF m 48 #[.val (.int p0), .val (.int p1), .val (.int p2), .val (.int (p0 &&& (3 : Int32))), .val (.int ((p1 &&& (7 : Int32)) - (2 : Int32))), .val (.ref (u 1))] [(.ref (u 1)), (.ref (u 1))])) _
            refine Jvm.RoadKit.acmp (g := (mkF m 48 #[.val (.int p0), .val (.int p1), .val (.int p2), .val (.int (p0 &&& (3 : Int32))), .val (.int ((p1 &&& (7 : Int32)) - (2 : Int32))), .val (.ref (u 1))] [(.ref (u 1)), (.ref (u 1))])) X143 hx rfl rfl rfl (pc0 := 48) (pc' := 51) (same := true) rfl (hb hby at_48) rfl (decide_eq_true rfl) (by decide) (by decide) ?_
            show Steps p.tables e below (T143.setTop (mkF m 51 #[.val (.int p0), .val (.int p1), .val (.int p2), .val (.int (p0 &&& (3 : Int32))), .val (.int ((p1 &&& (7 : Int32)) - (2 : Int32))), .val (.ref (u 1))] [])) _
            refine XS.iconst X143.here hx rfl (hb hby at_51) ?_
            show Steps p.tables e below (T143.setTop (mkF m 52 #[.val (.int p0), .val (.int p1), .val (.int p2), .val (.int (p0 &&& (3 : Int32))), .val (.int ((p1 &&& (7 : Int32)) - (2 : Int32))), .val (.ref (u 1))] [(.int (1 : Int32))])) _
            refine XS.goto X143.here hx rfl (pc0 := 52) (pc' := 56) rfl (hb hby at_52) (by decide) (by decide) ?_
            show Steps p.tables e below (T143.setTop (mkF m 56 #[.val (.int p0), .val (.int p1), .val (.int p2), .val (.int (p0 &&& (3 : Int32))), .val (.int ((p1 &&& (7 : Int32)) - (2 : Int32))), .val (.ref (u 1))] [(.int (1 : Int32))])) _
            exact retN X143 hx (t := .boolean) Bd.returns (by simp) (hb hby at_56) hr
          · show own_Q0 Z u p0 p1 p2 h0 n0 _ T143.heap _
            rw [e143]
            exact ⟨rfl, N143, trivial⟩
        · --
          by_cases hc145 : (1 : Int32) = ((p1 &&& (7 : Int32)) - (2 : Int32))
          · --
            obtain rfl : vr139 = some (.ref (u 2)) := hv139.trans (by unfold own_r1; rw [if_pos hc140, if_neg hc141, if_pos hc145])
            have pre146 : ∀ t, Steps p.tables e below (T139.setTop (mkF m 45 #[.val (.int p0), .val (.int p1), .val (.int p2), .val (.int (p0 &&& (3 : Int32))), .val (.int ((p1 &&& (7 : Int32)) - (2 : Int32))), .val (.ref (u 2))] [(.int ((p1 &&& (7 : Int32)) - (2 : Int32))), (.int (p0 &&& (3 : Int32))), (.ref (u 2))])) t → Steps p.tables e below (s₁.setTop (entryFrame m #[(.int p0), (.int p1), (.int p2)] maxLocals)) t := fun t kt => pre138 t (by
              show Steps p.tables e below (s₁.setTop (mkF m 35 #[.val (.int p0), .val (.int p1), .val (.int p2), .val (.int (p0 &&& (3 : Int32))), .val (.int ((p1 &&& (7 : Int32)) - (2 : Int32))), .unset] [(.int ((p1 &&& (7 : Int32)) - (2 : Int32))), (.int (p0 &&& (3 : Int32)))])) _
              refine st139 _ ?_
              show Steps p.tables e below (T139.setTop (mkF m 38 #[.val (.int p0), .val (.int p1), .val (.int p2), .val (.int (p0 &&& (3 : Int32))), .val (.int ((p1 &&& (7 : Int32)) - (2 : Int32))), .unset] [(.ref (u 2))])) _
              refine XS.astore X139.here hx rfl (hb hby at_38) rfl rfl (l' := #[.val (.int p0), .val (.int p1), .val (.int p2), .val (.int (p0 &&& (3 : Int32))), .val (.int ((p1 &&& (7 : Int32)) - (2 : Int32))), .val (.ref (u 2))]) rfl ?_
              show Steps p.tables e below (T139.setTop (mkF m 40 #[.val (.int p0), .val (.int p1), .val (.int p2), .val (.int (p0 &&& (3 : Int32))), .val (.int ((p1 &&& (7 : Int32)) - (2 : Int32))), .val (.ref (u 2))] [])) _
              refine XS.aload X139.here hx rfl (hb hby at_40) rfl rfl ?_
              show Steps p.tables e below (T139.setTop (mkF m 42 #[.val (.int p0), .val (.int p1), .val (.int p2), .val (.int (p0 &&& (3 : Int32))), .val (.int ((p1 &&& (7 : Int32)) - (2 : Int32))), .val (.ref (u 2))] [(.ref (u 2))])) _
              refine XS.iloadN X139.here hx rfl (hb hby at_42) rfl ?_
              show Steps p.tables e below (T139.setTop (mkF m 43 #[.val (.int p0), .val (.int p1), .val (.int p2), .val (.int (p0 &&& (3 : Int32))), .val (.int ((p1 &&& (7 : Int32)) - (2 : Int32))), .val (.ref (u 2))] [(.int (p0 &&& (3 : Int32))), (.ref (u 2))])) _
              refine XS.iload X139.here hx rfl (hb hby at_43) rfl ?_
              exact kt)
            obtain ⟨vr147, _, ⟨T147, L147, k147, n147⟩, -, X147, ⟨Lc147, hQ147, l147, y147, z147⟩, st147⟩ := Jvm.LawKit.callS X139 hx (y := (⟨"com/example/portcullis/portcullis/giop/GiopVersionOfPinLaw", "expected", "(II)Lcom/example/portcullis/portcullis/giop/GiopVersion;"⟩ : MethodName)) hown (mvT hZ (hw _ (List.mem_of_getElem? (i := 12) rfl))) (mvT hZ (hw _ (List.mem_of_getElem? (i := 13) rfl))) (mvT hZ (hw _ (List.mem_of_getElem? (i := 14) rfl))) (mvT hZ (hw _ (List.mem_of_getElem? (i := 15) rfl))) (by decide) (backOf (W := 1) (rm2 l Z a0 hw [] u (p0 &&& (3 : Int32)) ((p1 &&& (7 : Int32)) - (2 : Int32)) B h0 n0 O ) hZ (hw _ (List.mem_of_getElem? (i := 15) rfl)) (hw _ (List.mem_of_getElem? (i := 14) rfl)) (by decide) (by decide)) (g := (mkF m 45 #[.val (.int p0), .val (.int p1), .val (.int p2), .val (.int (p0 &&& (3 : Int32))), .val (.int ((p1 &&& (7 : Int32)) - (2 : Int32))), .val (.ref (u 2))] [(.int ((p1 &&& (7 : Int32)) - (2 : Int32))), (.int (p0 &&& (3 : Int32))), (.ref (u 2))])) rfl (by rw [hml]; rfl) (argsL := [(.int (p0 &&& (3 : Int32))), (.int ((p1 &&& (7 : Int32)) - (2 : Int32)))]) (rest := [(.ref (u 2))]) (lenOf own_pd0 rfl) rfl (by show 2 * 0 + _ ≤ _; exact Nat.le_of_eq rfl) (hb hby at_45) (fun _ _ => ⟨rfl, e139, (by decide : 0 + 0 ≤ _), (by decide : 0 + 0 ≤ _)⟩)
            dsimp only [Pt.U, Pt.locs, Pt.cells, Pt.slots] at X147 l147 y147 z147 st147 hQ147
            subst l147 y147 z147
            obtain ⟨hv147, N147q, e147⟩ := hQ147
            have N147 := Fr.app N139 N147q
            obtain rfl : vr147 = some (.ref (u 2)) := hv147.trans (by unfold own_r2; rw [if_pos (Eq.symm hc140), if_neg (fun q => hc141 (Eq.symm q)), if_pos (Eq.symm hc145)])
            obtain ⟨fs, hr, hrun, hended, hW, hsame⟩ := X147.leave (v := some (.int (1 : Int32))) (fun h => by rw [Bd.returns] at h; cases h)
            refine ⟨_, _, pre146 _ ?_, hrun, hended, _, _, rfl, ?_, ⟨_, rfl⟩, hW, hsame.mono (by decide) (by decide)⟩
            · show Steps p.tables e below (T139.setTop (mkF m 45 #[.val (.int p0), .val (.int p1), .val (.int p2), .val (.int (p0 &&& (3 : Int32))), .val (.int ((p1 &&& (7 : Int32)) - (2 : Int32))), .val (.ref (u 2))] [(.int ((p1 &&& (7 : Int32)) - (2 : Int32))), (.int (p0 &&& (3 : Int32))), (.ref (u 2))])) _
              refine st147 _ ?_
              show Steps p.tables e below (T147.setTop (mkF m 48 #[.val (.int p0), .val (.int p1), .val (.int p2), .val (.int (p0 &&& (3 : Int32))), .val (.int ((p1 &&& (7 : Int32)) - (2 : Int32))), .val (.ref (u 2))] [(.ref (u 2)), (.ref (u 2))])) _
              refine Jvm.RoadKit.acmp (g := (mkF m 48 #[.val (.int p0), .val (.int p1), .val (.int p2), .val (.int (p0 &&& (3 : Int32))), .val (.int ((p1 &&& (7 : Int32)) - (2 : Int32))), .val (.ref (u 2))] [(.ref (u 2)), (.ref (u 2))])) X147 hx rfl rfl rfl (pc0 := 48) (pc' := 51) (same := true) rfl (hb hby at_48) rfl (decide_eq_true rfl) (by decide) (by decide) ?_
              show Steps p.tables e below (T147.setTop (mkF m 51 #[.val (.int p0), .val (.int p1), .val (.int p2), .val (.int (p0 &&& (3 : Int32))), .val (.int ((p1 &&& (7 : Int32)) - (2 : Int32))), .val (.ref (u 2))] [])) _
              refine XS.iconst X147.here hx rfl (hb hby at_51) ?_
              show Steps p.tables e below (T147.setTop (mkF m 52 #[.val (.int p0), .val (.int p1), .val (.int p2), .val (.int (p0 &&& (3 : Int32))), .val (.int ((p1 &&& (7 : Int32)) - (2 : Int32))), .val (.ref (u 2))] [(.int (1 : Int32))])) _
              refine XS.goto X147.here hx rfl (pc0 := 52) (pc' := 56) rfl (hb hby at_52) (by decide) (by decide) ?_
              show Steps p.tables e below (T147.setTop (mkF m 56 #[.val (.int p0), .val (.int p1), .val (.int p2), .val (.int (p0 &&& (3 : Int32))), .val (.int ((p1 &&& (7 : Int32)) - (2 : Int32))), .val (.ref (u 2))] [(.int (1 : Int32))])) _
              exact retN X147 hx (t := .boolean) Bd.returns (by simp) (hb hby at_56) hr
            · show own_Q0 Z u p0 p1 p2 h0 n0 _ T147.heap _
              rw [e147]
              exact ⟨rfl, N147, trivial⟩
          · --
            by_cases hc149 : (2 : Int32) = ((p1 &&& (7 : Int32)) - (2 : Int32))
            · --
              obtain rfl : vr139 = some (.ref (u 3)) := hv139.trans (by unfold own_r1; rw [if_pos hc140, if_neg hc141, if_neg hc145, if_pos hc149])
              have pre150 : ∀ t, Steps p.tables e below (T139.setTop (mkF m 45 #[.val (.int p0), .val (.int p1), .val (.int p2), .val (.int (p0 &&& (3 : Int32))), .val (.int ((p1 &&& (7 : Int32)) - (2 : Int32))), .val (.ref (u 3))] [(.int ((p1 &&& (7 : Int32)) - (2 : Int32))), (.int (p0 &&& (3 : Int32))), (.ref (u 3))])) t → Steps p.tables e below (s₁.setTop (entryFrame m #[(.int p0), (.int p1), (.int p2)] maxLocals)) t := fun t kt => pre138 t (by
                show Steps p.tables e below (s₁.setTop (mkF m 35 #[.val (.int p0), .val (.int p1), .val (.int p2), .val (.int (p0 &&& (3 : Int32))), .val (.int ((p1 &&& (7 : Int32)) - (2 : Int32))), .unset] [(.int ((p1 &&& (7 : Int32)) - (2 : Int32))), (.int (p0 &&& (3 : Int32)))])) _
                refine st139 _ ?_
                show Steps p.tables e below (T139.setTop (mkF m 38 #[.val (.int p0), .val (.int p1), .val (.int p2), .val (.int (p0 &&& (3 : Int32))), .val (.int ((p1 &&& (7 : Int32)) - (2 : Int32))), .unset] [(.ref (u 3))])) _
                refine XS.astore X139.here hx rfl (hb hby at_38) rfl rfl (l' := #[.val (.int p0), .val (.int p1), .val (.int p2), .val (.int (p0 &&& (3 : Int32))), .val (.int ((p1 &&& (7 : Int32)) - (2 : Int32))), .val (.ref (u 3))]) rfl ?_
                show Steps p.tables e below (T139.setTop (mkF m 40 #[.val (.int p0), .val (.int p1), .val (.int p2), .val (.int (p0 &&& (3 : Int32))), .val (.int ((p1 &&& (7 : Int32)) - (2 : Int32))), .val (.ref (u 3))] [])) _
                refine XS.aload X139.here hx rfl (hb hby at_40) rfl rfl ?_
                show Steps p.tables e below (T139.setTop (mkF m 42 #[.val (.int p0), .val (.int p1), .val (.int p2), .val (.int (p0 &&& (3 : Int32))), .val (.int ((p1 &&& (7 : Int32)) - (2 : Int32))), .val (.ref (u 3))] [(.ref (u 3))])) _
                refine XS.iloadN X139.here hx rfl (hb hby at_42) rfl ?_
                show Steps p.tables e below (T139.setTop (mkF m 43 #[.val (.int p0), .val (.int p1), .val (.int p2), .val (.int (p0 &&& (3 : Int32))), .val (.int ((p1 &&& (7 : Int32)) - (2 : Int32))), .val (.ref (u 3))] [(.int (p0 &&& (3 : Int32))), (.ref (u 3))])) _
                refine XS.iload X139.here hx rfl (hb hby at_43) rfl ?_
                exact kt)
              obtain ⟨vr151, _, ⟨T151, L151, k151, n151⟩, -, X151, ⟨Lc151, hQ151, l151, y151, z151⟩, st151⟩ := Jvm.LawKit.callS X139 hx (y := (⟨"com/example/portcullis/portcullis/giop/GiopVersionOfPinLaw", "expected", "(II)Lcom/example/portcullis/portcullis/giop/GiopVersion;"⟩ : MethodName)) hown (mvT hZ (hw _ (List.mem_of_getElem? (i := 12) rfl))) (mvT hZ (hw _ (List.mem_of_getElem? (i := 13) rfl))) (mvT hZ (hw _ (List.mem_of_getElem? (i := 14) rfl))) (mvT hZ (hw _ (List.mem_of_getElem? (i := 15) rfl))) (by decide) (backOf (W := 1) (rm2 l Z a0 hw [] u (p0 &&& (3 : Int32)) ((p1 &&& (7 : Int32)) - (2 : Int32)) B h0 n0 O ) hZ (hw _ (List.mem_of_getElem? (i := 15) rfl)) (hw _ (List.mem_of_getElem? (i := 14) rfl)) (by decide) (by decide)) (g := (mkF m 45 #[.val (.int p0), .val (.int p1), .val (.int p2), .val (.int (p0 &&& (3 : Int32))), .val (.int ((p1 &&& (7 : Int32)) - (2 : Int32))), .val (.ref (u 3))] [(.int ((p1 &&& (7 : Int32)) - (2 : Int32))), (.int (p0 &&& (3 : Int32))), (.ref (u 3))])) rfl (by rw [hml]; rfl) (argsL := [(.int (p0 &&& (3 : Int32))), (.int ((p1 &&& (7 : Int32)) - (2 : Int32)))]) (rest := [(.ref (u 3))]) (lenOf own_pd0 rfl) rfl (by show 2 * 0 + _ ≤ _; exact Nat.le_of_eq rfl) (hb hby at_45) (fun _ _ => ⟨rfl, e139, (by decide : 0 + 0 ≤ _), (by decide : 0 + 0 ≤ _)⟩)
              dsimp only [Pt.U, Pt.locs, Pt.cells, Pt.slots] at X151 l151 y151 z151 st151 hQ151
              subst l151 y151 z151
              obtain ⟨hv151, N151q, e151⟩ := hQ151
              have N151 := Fr.app N139 N151q
              obtain rfl : vr151 = some (.ref (u 3)) := hv151.trans (by unfold own_r2; rw [if_pos (Eq.symm hc140), if_neg (fun q => hc141 (Eq.symm q)), if_neg (fun q => hc145 (Eq.symm q)), if_pos (Eq.symm hc149)])
              obtain ⟨fs, hr, hrun, hended, hW, hsame⟩ := X151.leave (v := some (.int (1 : Int32))) (fun h => by rw [Bd.returns] at h; cases h)
              refine ⟨_, _, pre150 _ ?_, hrun, hended, _, _, rfl, ?_, ⟨_, rfl⟩, hW, hsame.mono (by decide) (by decide)⟩
              · show Steps p.tables e below (T139.setTop (mkF m 45 #[.val (.int p0), .val (.int p1), .val (.int p2), .val (.int (p0 &&& (3 : Int32))), .val (.int ((p1 &&& (7 : Int32)) - (2 : Int32))), .val (.ref (u 3))] [(.int ((p1 &&& (7 : Int32)) - (2 : Int32))), (.int (p0 &&& (3 : Int32))), (.ref (u 3))])) _
                refine st151 _ ?_
                show Steps p.tables e below (T151.setTop (mkF m 48 #[.val (.int p0), .val (.int p1), .val (.int p2), .val (.int (p0 &&& (3 : Int32))), .val (.int ((p1 &&& (7 : Int32)) - (2 : Int32))), .val (.ref (u 3))] [(.ref (u 3)), (.ref (u 3))])) _
                refine Jvm.RoadKit.acmp (g := (mkF m 48 #[.val (.int p0), .val (.int p1), .val (.int p2), .val (.int (p0 &&& (3 : Int32))), .val (.int ((p1 &&& (7 : Int32)) - (2 : Int32))), .val (.ref (u 3))] [(.ref (u 3)), (.ref (u 3))])) X151 hx rfl rfl rfl (pc0 := 48) (pc' := 51) (same := true) rfl (hb hby at_48) rfl (decide_eq_true rfl) (by decide) (by decide) ?_
                show Steps p.tables e below (T151.setTop (mkF m 51 #[.val (.int p0), .val (.int p1), .val (.int p2), .val (.int (p0 &&& (3 : Int32))), .val (.int ((p1 &&& (7 : Int32)) - (2 : Int32))), .val (.ref (u 3))] [])) _
                refine XS.iconst X151.here hx rfl (hb hby at_51) ?_
                show Steps p.tables e below (T151.setTop (mkF m 52 #[.val (.int p0), .val (.int p1), .val (.int p2), .val (.int (p0 &&& (3 : Int32))), .val (.int ((p1 &&& (7 : Int32)) - (2 : Int32))), .val (.ref (u 3))] [(.int (1 : Int32))])) _
                refine XS.goto X151.here hx rfl (pc0 := 52) (pc' := 56) rfl (hb hby at_52) (by decide) (by decide) ?_
                show Steps p.tables e below (T151.setTop (mkF m 56 #[.val (.int p0), .val (.int p1), .val (.int p2), .val (.int (p0 &&& (3 : Int32))), .val (.int ((p1 &&& (7 : Int32)) - (2 : Int32))), .val (.ref (u 3))] [(.int (1 : Int32))])) _
                exact retN X151 hx (t := .boolean) Bd.returns (by simp) (hb hby at_56) hr
              · show own_Q0 Z u p0 p1 p2 h0 n0 _ T151.heap _
                rw [e151]
                exact ⟨rfl, N151, trivial⟩
            · --
              by_cases hc153 : (3 : Int32) = ((p1 &&& (7 : Int32)) - (2 : Int32))
              · --
                obtain rfl : vr139 = some (.ref (u 4)) := hv139.trans (by unfold own_r1; rw [if_pos hc140, if_neg hc141, if_neg hc145, if_neg hc149, if_pos hc153])
                have pre154 : ∀ t, Steps p.tables e below (T139.setTop (mkF m 45 #[.val (.int p0), .val (.int p1), .val (.int p2), .val (.int (p0 &&& (3 : Int32))), .val (.int ((p1 &&& (7 : Int32)) - (2 : Int32))), .val (.ref (u 4))] [(.int ((p1 &&& (7 : Int32)) - (2 : Int32))), (.int (p0 &&& (3 : Int32))), (.ref (u 4))])) t → Steps p.tables e below (s₁.setTop (entryFrame m #[(.int p0), (.int p1), (.int p2)] maxLocals)) t := fun t kt => pre138 t (by
                  show Steps p.tables e below (s₁.setTop (mkF m 35 #[.val (.int p0), .val (.int p1), .val (.int p2), .val (.int (p0 &&& (3 : Int32))), .val (.int ((p1 &&& (7 : Int32)) - (2 : Int32))), .unset] [(.int ((p1 &&& (7 : Int32)) - (2 : Int32))), (.int (p0 &&& (3 : Int32)))])) _
                  refine st139 _ ?_
                  show Steps p.tables e below (T139.setTop (mkF m 38 #[.val (.int p0), .val (.int p1), .val (.int p2), .val (.int (p0 &&& (3 : Int32))), .val (.int ((p1 &&& (7 : Int32)) - (2 : Int32))), .unset] [(.ref (u 4))])) _
                  refine XS.astore X139.here hx rfl (hb hby at_38) rfl rfl (l' := #[.val (.int p0), .val (.int p1), .val (.int p2), .val (.int (p0 &&& (3 : Int32))), .val (.int ((p1 &&& (7 : Int32)) - (2 : Int32))), .val (.ref (u 4))]) rfl ?_
                  show Steps p.tables e below (T139.setTop (mkF m 40 #[.val (.int p0), .val (.int p1), .val (.int p2), .val (.int (p0 &&& (3 : Int32))), .val (.int ((p1 &&& (7 : Int32)) - (2 : Int32))), .val (.ref (u 4))] [])) _
                  refine XS.aload X139.here hx rfl (hb hby at_40) rfl rfl ?_
                  show Steps p.tables e below (T139.setTop (mkF m 42 #[.val (.int p0), .val (.int p1), .val (.int p2), .val (.int (p0 &&& (3 : Int32))), .val (.int ((p1 &&& (7 : Int32)) - (2 : Int32))), .val (.ref (u 4))] [(.ref (u 4))])) _
                  refine XS.iloadN X139.here hx rfl (hb hby at_42) rfl ?_
                  show Steps p.tables e below (T139.setTop (mkF m 43 #[.val (.int p0), .val (.int p1), .val (.int p2), .val (.int (p0 &&& (3 : Int32))), .val (.int ((p1 &&& (7 : Int32)) - (2 : Int32))), .val (.ref (u 4))] [(.int (p0 &&& (3 : Int32))), (.ref (u 4))])) _
                  refine XS.iload X139.here hx rfl (hb hby at_43) rfl ?_
                  exact kt)
                obtain ⟨vr155, _, ⟨T155, L155, k155, n155⟩, -, X155, ⟨Lc155, hQ155, l155, y155, z155⟩, st155⟩ := Jvm.LawKit.callS X139 hx (y := (⟨"com/example/portcullis/portcullis/giop/GiopVersionOfPinLaw", "expected", "(II)Lcom/example/portcullis/portcullis/giop/GiopVersion;"⟩ : MethodName)) hown (mvT hZ (hw _ (List.mem_of_getElem? (i := 12) rfl))) (mvT hZ (hw _ (List.mem_of_getElem? (i := 13) rfl))) (mvT hZ (hw _ (List.mem_of_getElem? (i := 14) rfl))) (mvT hZ (hw _ (List.mem_of_getElem? (i := 15) rfl))) (by decide) (backOf (W := 1) (rm2 l Z a0 hw [] u (p0 &&& (3 : Int32)) ((p1 &&& (7 : Int32)) - (2 : Int32)) B h0 n0 O ) hZ (hw _ (List.mem_of_getElem? (i := 15) rfl)) (hw _ (List.mem_of_getElem? (i := 14) rfl)) (by decide) (by decide)) (g := (mkF m 45 #[.val (.int p0), .val (.int p1), .val (.int p2), .val (.int (p0 &&& (3 : Int32))), .val (.int ((p1 &&& (7 : Int32)) - (2 : Int32))), .val (.ref (u 4))] [(.int ((p1 &&& (7 : Int32)) - (2 : Int32))), (.int (p0 &&& (3 : Int32))), (.ref (u 4))])) rfl (by rw [hml]; rfl) (argsL := [(.int (p0 &&& (3 : Int32))), (.int ((p1 &&& (7 : Int32)) - (2 : Int32)))]) (rest := [(.ref (u 4))]) (lenOf own_pd0 rfl) rfl (by show 2 * 0 + _ ≤ _; exact Nat.le_of_eq rfl) (hb hby at_45) (fun _ _ => ⟨rfl, e139, (by decide : 0 + 0 ≤ _), (by decide : 0 + 0 ≤ _)⟩)
                dsimp only [Pt.U, Pt.locs, Pt.cells, Pt.slots] at X155 l155 y155 z155 st155 hQ155
                subst l155 y155 z155
                obtain ⟨hv155, N155q, e155⟩ := hQ155
                have N155 := Fr.app N139 N155q
                obtain rfl : vr155 = some (.ref (u 4)) := hv155.trans (by unfold own_r2; rw [if_pos (Eq.symm hc140), if_neg (fun q => hc141 (Eq.symm q)), if_neg (fun q => hc145 (Eq.symm q)), if_neg (fun q => hc149 (Eq.symm q)), if_pos (Eq.symm hc153)])
                obtain ⟨fs, hr, hrun, hended, hW, hsame⟩ := X155.leave (v := some (.int (1 : Int32))) (fun h => by rw [Bd.returns] at h; cases h)
                refine ⟨_, _, pre154 _ ?_, hrun, hended, _, _, rfl, ?_, ⟨_, rfl⟩, hW, hsame.mono (by decide) (by decide)⟩
                · show Steps p.tables e below (T139.setTop (mkF m 45 #[.val (.int p0), .val (.int p1), .val (.int p2), .val (.int (p0 &&& (3 : Int32))), .val (.int ((p1 &&& (7 : Int32)) - (2 : Int32))), .val (.ref (u 4))] [(.int ((p1 &&& (7 : Int32)) - (2 : Int32))), (.int (p0 &&& (3 : Int32))), (.ref (u 4))])) _
                  refine st155 _ ?_
                  show Steps p.tables e below (T155.setTop (mkF m 48 #[.val (.int p0), .val (.int p1), .val (.int p2), .val (.int (p0 &&& (3 : Int32))), .val (.int ((p1 &&& (7 : Int32)) - (2 : Int32))), .val (.ref (u 4))] [(.ref (u 4)), (.ref (u 4))])) _
                  refine Jvm.RoadKit.acmp (g := (mkF m 48 #[.val (.int p0), .val (.int p1), .val (.int p2), .val (.int (p0 &&& (3 : Int32))), .val (.int ((p1 &&& (7 : Int32)) - (2 : Int32))), .val (.ref (u 4))] [(.ref (u 4)), (.ref (u 4))])) X155 hx rfl rfl rfl (pc0 := 48) (pc' := 51) (same := true) rfl (hb hby at_48) rfl (decide_eq_true rfl) (by decide) (by decide) ?_
                  show Steps p.tables e below (T155.setTop (mkF m 51 #[.val (.int p0), .val (.int p1), .val (.int p2), .val (.int (p0 &&& (3 : Int32))), .val (.int ((p1 &&& (7 : Int32)) - (2 : Int32))), .val (.ref (u 4))] [])) _
                  refine XS.iconst X155.here hx rfl (hb hby at_51) ?_
                  show Steps p.tables e below (T155.setTop (mkF m 52 #[.val (.int p0), .val (.int p1), .val (.int p2), .val (.int (p0 &&& (3 : Int32))), .val (.int ((p1 &&& (7 : Int32)) - (2 : Int32))), .val (.ref (u 4))] [(.int (1 : Int32))])) _
                  refine XS.goto X155.here hx rfl (pc0 := 52) (pc' := 56) rfl (hb hby at_52) (by decide) (by decide) ?_
                  show Steps p.tables e below (T155.setTop (mkF m 56 #[.val (.int p0), .val (.int p1), .val (.int p2), .val (.int (p0 &&& (3 : Int32))), .val (.int ((p1 &&& (7 : Int32)) - (2 : Int32))), .val (.ref (u 4))] [(.int (1 : Int32))])) _
                  exact retN X155 hx (t := .boolean) Bd.returns (by simp) (hb hby at_56) hr
                · show own_Q0 Z u p0 p1 p2 h0 n0 _ T155.heap _
                  rw [e155]
                  exact ⟨rfl, N155, trivial⟩
              · --
                obtain rfl : vr139 = some .null := hv139.trans (by unfold own_r1; rw [if_pos hc140, if_neg hc141, if_neg hc145, if_neg hc149, if_neg hc153])
                have pre157 : ∀ t, Steps p.tables e below (T139.setTop (mkF m 45 #[.val (.int p0), .val (.int p1), .val (.int p2), .val (.int (p0 &&& (3 : Int32))), .val (.int ((p1 &&& (7 : Int32)) - (2 : Int32))), .val .null] [(.int ((p1 &&& (7 : Int32)) - (2 : Int32))), (.int (p0 &&& (3 : Int32))), .null])) t → Steps p.tables e below (s₁.setTop (entryFrame m #[(.int p0), (.int p1), (.int p2)] maxLocals)) t := fun t kt => pre138 t (by
                  show Steps p.tables e below (s₁.setTop (mkF m 35 #[.val (.int p0), .val (.int p1), .val (.int p2), .val (.int (p0 &&& (3 : Int32))), .val (.int ((p1 &&& (7 : Int32)) - (2 : Int32))), .unset] [(.int ((p1 &&& (7 : Int32)) - (2 : Int32))), (.int (p0 &&& (3 : Int32)))])) _
                  refine st139 _ ?_
                  show Steps p.tables e below (T139.setTop (mkF m 38 #[.val (.int p0), .val (.int p1), .val (.int p2), .val (.int (p0 &&& (3 : Int32))), .val (.int ((p1 &&& (7 : Int32)) - (2 : Int32))), .unset] [.null])) _
                  refine XS.astore X139.here hx rfl (hb hby at_38) rfl rfl (l' := #[.val (.int p0), .val (.int p1), .val (.int p2), .val (.int (p0 &&& (3 : Int32))), .val (.int ((p1 &&& (7 : Int32)) - (2 : Int32))), .val .null]) rfl ?_
                  show Steps p.tables e below (T139.setTop (mkF m 40 #[.val (.int p0), .val (.int p1), .val (.int p2), .val (.int (p0 &&& (3 : Int32))), .val (.int ((p1 &&& (7 : Int32)) - (2 : Int32))), .val .null] [])) _
                  refine XS.aload X139.here hx rfl (hb hby at_40) rfl rfl ?_
                  show Steps p.tables e below (T139.setTop (mkF m 42 #[.val (.int p0), .val (.int p1), .val (.int p2), .val (.int (p0 &&& (3 : Int32))), .val (.int ((p1 &&& (7 : Int32)) - (2 : Int32))), .val .null] [.null])) _
                  refine XS.iloadN X139.here hx rfl (hb hby at_42) rfl ?_
                  show Steps p.tables e below (T139.setTop (mkF m 43 #[.val (.int p0), .val (.int p1), .val (.int p2), .val (.int (p0 &&& (3 : Int32))), .val (.int ((p1 &&& (7 : Int32)) - (2 : Int32))), .val .null] [(.int (p0 &&& (3 : Int32))), .null])) _
                  refine XS.iload X139.here hx rfl (hb hby at_43) rfl ?_
                  exact kt)
                obtain ⟨vr158, _, ⟨T158, L158, k158, n158⟩, -, X158, ⟨Lc158, hQ158, l158, y158, z158⟩, st158⟩ := Jvm.LawKit.callS X139 hx (y := (⟨"com/example/portcullis/portcullis/giop/GiopVersionOfPinLaw", "expected", "(II)Lcom/example/portcullis/portcullis/giop/GiopVersion;"⟩ : MethodName)) hown (mvT hZ (hw _ (List.mem_of_getElem? (i := 12) rfl))) (mvT hZ (hw _ (List.mem_of_getElem? (i := 13) rfl))) (mvT hZ (hw _ (List.mem_of_getElem? (i := 14) rfl))) (mvT hZ (hw _ (List.mem_of_getElem? (i := 15) rfl))) (by decide) (backOf (W := 1) (rm2 l Z a0 hw [] u (p0 &&& (3 : Int32)) ((p1 &&& (7 : Int32)) - (2 : Int32)) B h0 n0 O ) hZ (hw _ (List.mem_of_getElem? (i := 15) rfl)) (hw _ (List.mem_of_getElem? (i := 14) rfl)) (by decide) (by decide)) (g := (mkF m 45 #[.val (.int p0), .val (.int p1), .val (.int p2), .val (.int (p0 &&& (3 : Int32))), .val (.int ((p1 &&& (7 : Int32)) - (2 : Int32))), .val .null] [(.int ((p1 &&& (7 : Int32)) - (2 : Int32))), (.int (p0 &&& (3 : Int32))), .null])) rfl (by rw [hml]; rfl) (argsL := [(.int (p0 &&& (3 : Int32))), (.int ((p1 &&& (7 : Int32)) - (2 : Int32)))]) (rest := [.null]) (lenOf own_pd0 rfl) rfl (by show 2 * 0 + _ ≤ _; exact Nat.le_of_eq rfl) (hb hby at_45) (fun _ _ => ⟨rfl, e139, (by decide : 0 + 0 ≤ _), (by decide : 0 + 0 ≤ _)⟩)
                dsimp only [Pt.U, Pt.locs, Pt.cells, Pt.slots] at X158 l158 y158 z158 st158 hQ158
                subst l158 y158 z158
                obtain ⟨hv158, N158q, e158⟩ := hQ158
                have N158 := Fr.app N139 N158q
                obtain rfl : vr158 = some .null := hv158.trans (by unfold own_r2; rw [if_pos (Eq.symm hc140), if_neg (fun q => hc141 (Eq.symm q)), if_neg (fun q => hc145 (Eq.symm q)), if_neg (fun q => hc149 (Eq.symm q)), if_neg (fun q => hc153 (Eq.symm q))])
                obtain ⟨fs, hr, hrun, hended, hW, hsame⟩ := X158.leave (v := some (.int (1 : Int32))) (fun h => by rw [Bd.returns] at h; cases h)
                refine ⟨_, _, pre157 _ ?_, hrun, hended, _, _, rfl, ?_, ⟨_, rfl⟩, hW, hsame.mono (by decide) (by decide)⟩
                · show Steps p.tables e below (T139.setTop (mkF m 45 #[.val (.int p0), .val (.int p1), .val (.int p2), .val (.int (p0 &&& (3 : Int32))), .val (.int ((p1 &&& (7 : Int32)) - (2 : Int32))), .val .null] [(.int ((p1 &&& (7 : Int32)) - (2 : Int32))), (.int (p0 &&& (3 : Int32))), .null])) _
                  refine st158 _ ?_
                  show Steps p.tables e below (T158.setTop (mkF m 48 #[.val (.int p0), .val (.int p1), .val (.int p2), .val (.int (p0 &&& (3 : Int32))), .val (.int ((p1 &&& (7 : Int32)) - (2 : Int32))), .val .null] [.null, .null])) _
                  refine Jvm.RoadKit.acmp (g := (mkF m 48 #[.val (.int p0), .val (.int p1), .val (.int p2), .val (.int (p0 &&& (3 : Int32))), .val (.int ((p1 &&& (7 : Int32)) - (2 : Int32))), .val .null] [.null, .null])) X158 hx rfl rfl rfl (pc0 := 48) (pc' := 51) (same := true) rfl (hb hby at_48) rfl (decide_eq_true rfl) (by decide) (by decide) ?_
                  show Steps p.tables e below (T158.setTop (mkF m 51 #[.val (.int p0), .val (.int p1), .val (.int p2), .val (.int (p0 &&& (3 : Int32))), .val (.int ((p1 &&& (7 : Int32)) - (2 : Int32))), .val .null] [])) _
                  refine XS.iconst X158.here hx rfl (hb hby at_51) ?_
                  show Steps p.tables e below (T158.setTop (mkF m 52 #[.val (.int p0), .val (.int p1), .val (.int p2), .val (.int (p0 &&& (3 : Int32))), .val (.int ((p1 &&& (7 : Int32)) - (2 : Int32))), .val .null] [(.int (1 : Int32))])) _
                  refine XS.goto X158.here hx rfl (pc0 := 52) (pc' := 56) rfl (hb hby at_52) (by decide) (by decide) ?_
                  show Steps p.tables e below (T158.setTop (mkF m 56 #[.val (.int p0), .val (.int p1), .val (.int p2), .val (.int (p0 &&& (3 : Int32))), .val (.int ((p1 &&& (7 : Int32)) - (2 : Int32))), .val .null] [(.int (1 : Int32))])) _
                  exact retN X158 hx (t := .boolean) Bd.returns (by simp) (hb hby at_56) hr
                · show own_Q0 Z u p0 p1 p2 h0 n0 _ T158.heap _
                  rw [e158]
                  exact ⟨rfl, N158, trivial⟩
      · --
        obtain rfl : vr139 = some .null := hv139.trans (by unfold own_r1; rw [if_neg hc140])
        have pre160 : ∀ t, Steps p.tables e below (T139.setTop (mkF m 45 #[.val (.int p0), .val (.int p1), .val (.int p2), .val (.int (p0 &&& (3 : Int32))), .val (.int ((p1 &&& (7 : Int32)) - (2 : Int32))), .val .null] [(.int ((p1 &&& (7 : Int32)) - (2 : Int32))), (.int (p0 &&& (3 : Int32))), .null])) t → Steps p.tables e below (s₁.setTop (entryFrame m #[(.int p0), (.int p1), (.int p2)] maxLocals)) t := fun t kt => pre138 t (by
          show Steps p.tables e below (s₁.setTop (mkF m 35 #[.val (.int p0), .val (.int p1), .val (.int p2), .val (.int (p0 &&& (3 : Int32))), .val (.int ((p1 &&& (7 : Int32)) - (2 : Int32))), .unset] [(.int ((p1 &&& (7 : Int32)) - (2 : Int32))), (.int (p0 &&& (3 : Int32)))])) _
          refine st139 _ ?_
          show Steps p.tables e below (T139.setTop (mkF m 38 #[.val (.int p0), .val (.int p1), .val (.int p2), .val (.int (p0 &&& (3 : Int32))), .val (.int ((p1 &&& (7 : Int32)) - (2 : Int32))), .unset] [.null])) _
          refine XS.astore X139.here hx rfl (hb hby at_38) rfl rfl (l' := #[.val (.int p0), .val (.int p1), .val (.int p2), .val (.int (p0 &&& (3 : Int32))), .val (.int ((p1 &&& (7 : Int32)) - (2 : Int32))), .val .null]) rfl ?_
          show Steps p.tables e below (T139.setTop (mkF m 40 #[.val (.int p0), .val (.int p1), .val (.int p2), .val (.int (p0 &&& (3 : Int32))), .val (.int ((p1 &&& (7 : Int32)) - (2 : Int32))), .val .null] [])) _
          refine XS.aload X139.here hx rfl (hb hby at_40) rfl rfl ?_
          show Steps p.tables e below (T139.setTop (mkF m 42 #[.val (.int p0), .val (.int p1), .val (.int p2), .val (.int (p0 &&& (3 : Int32))), .val (.int ((p1 &&& (7 : Int32)) - (2 : Int32))), .val .null] [.null])) _
          refine XS.iloadN X139.here hx rfl (hb hby at_42) rfl ?_
          show Steps p.tables e below (T139.setTop (mkF m 43 #[.val (.int p0), .val (.int p1), .val (.int p2), .val (.int (p0 &&& (3 : Int32))), .val (.int ((p1 &&& (7 : Int32)) - (2 : Int32))), .val .null] [(.int (p0 &&& (3 : Int32))), .null])) _
          refine XS.iload X139.here hx rfl (hb hby at_43) rfl ?_
          exact kt)
        obtain ⟨vr161, _, ⟨T161, L161, k161, n161⟩, -, X161, ⟨Lc161, hQ161, l161, y161, z161⟩, st161⟩ := Jvm.LawKit.callS X139 hx (y := (⟨"com/example/portcullis/portcullis/giop/GiopVersionOfPinLaw", "expected", "(II)Lcom/example/portcullis/portcullis/giop/GiopVersion;"⟩ : MethodName)) hown (mvT hZ (hw _ (List.mem_of_getElem? (i := 12) rfl))) (mvT hZ (hw _ (List.mem_of_getElem? (i := 13) rfl))) (mvT hZ (hw _ (List.mem_of_getElem? (i := 14) rfl))) (mvT hZ (hw _ (List.mem_of_getElem? (i := 15) rfl))) (by decide) (backOf (W := 1) (rm2 l Z a0 hw [] u (p0 &&& (3 : Int32)) ((p1 &&& (7 : Int32)) - (2 : Int32)) B h0 n0 O ) hZ (hw _ (List.mem_of_getElem? (i := 15) rfl)) (hw _ (List.mem_of_getElem? (i := 14) rfl)) (by decide) (by decide)) (g := (mkF m 45 #[.val (.int p0), .val (.int p1), .val (.int p2), .val (.int (p0 &&& (3 : Int32))), .val (.int ((p1 &&& (7 : Int32)) - (2 : Int32))), .val .null] [(.int ((p1 &&& (7 : Int32)) - (2 : Int32))), (.int (p0 &&& (3 : Int32))), .null])) rfl (by rw [hml]; rfl) (argsL := [(.int (p0 &&& (3 : Int32))), (.int ((p1 &&& (7 : Int32)) - (2 : Int32)))]) (rest := [.null]) (lenOf own_pd0 rfl) rfl (by show 2 * 0 + _ ≤ _; exact Nat.le_of_eq rfl) (hb hby at_45) (fun _ _ => ⟨rfl, e139, (by decide : 0 + 0 ≤ _), (by decide : 0 + 0 ≤ _)⟩)
        dsimp only [Pt.U, Pt.locs, Pt.cells, Pt.slots] at X161 l161 y161 z161 st161 hQ161
        subst l161 y161 z161
        obtain ⟨hv161, N161q, e161⟩ := hQ161
        have N161 := Fr.app N139 N161q
        obtain rfl : vr161 = some .null := hv161.trans (by unfold own_r2; rw [if_neg (fun q => hc140 (Eq.symm q))])
        obtain ⟨fs, hr, hrun, hended, hW, hsame⟩ := X161.leave (v := some (.int (1 : Int32))) (fun h => by rw [Bd.returns] at h; cases h)
        refine ⟨_, _, pre160 _ ?_, hrun, hended, _, _, rfl, ?_, ⟨_, rfl⟩, hW, hsame.mono (by decide) (by decide)⟩
        · show Steps p.tables e below (T139.setTop (mkF m 45 #[.val (.int p0), .val (.int p1), .val (.int p2), .val (.int (p0 &&& (3 : Int32))), .val (.int ((p1 &&& (7 : Int32)) - (2 : Int32))), .val .null] [(.int ((p1 &&& (7 : Int32)) - (2 : Int32))), (.int (p0 &&& (3 : Int32))), .null])) _
          refine st161 _ ?_
          show Steps p.tables e below (T161.setTop (mkF m 48 #[.val (.int p0), .val (.int p1), .val (.int p2), .val (.int (p0 &&& (3 : Int32))), .val (.int ((p1 &&& (7 : Int32)) - (2 : Int32))), .val .null] [.null, .null])) _
          refine Jvm.RoadKit.acmp (g := (mkF m 48 #[.val (.int p0), .val (.int p1), .val (.int p2), .val (.int (p0 &&& (3 : Int32))), .val (.int ((p1 &&& (7 : Int32)) - (2 : Int32))), .val .null] [.null, .null])) X161 hx rfl rfl rfl (pc0 := 48) (pc' := 51) (same := true) rfl (hb hby at_48) rfl (decide_eq_true rfl) (by decide) (by decide) ?_
          show Steps p.tables e below (T161.setTop (mkF m 51 #[.val (.int p0), .val (.int p1), .val (.int p2), .val (.int (p0 &&& (3 : Int32))), .val (.int ((p1 &&& (7 : Int32)) - (2 : Int32))), .val .null] [])) _
          refine XS.iconst X161.here hx rfl (hb hby at_51) ?_
          show Steps p.tables e below (T161.setTop (mkF m 52 #[.val (.int p0), .val (.int p1), .val (.int p2), .val (.int (p0 &&& (3 : Int32))), .val (.int ((p1 &&& (7 : Int32)) - (2 : Int32))), .val .null] [(.int (1 : Int32))])) _
          refine XS.goto X161.here hx rfl (pc0 := 52) (pc' := 56) rfl (hb hby at_52) (by decide) (by decide) ?_
          show Steps p.tables e below (T161.setTop (mkF m 56 #[.val (.int p0), .val (.int p1), .val (.int p2), .val (.int (p0 &&& (3 : Int32))), .val (.int ((p1 &&& (7 : Int32)) - (2 : Int32))), .val .null] [(.int (1 : Int32))])) _
          exact retN X161 hx (t := .boolean) Bd.returns (by simp) (hb hby at_56) hr
        · show own_Q0 Z u p0 p1 p2 h0 n0 _ T161.heap _
          rw [e161]
          exact ⟨rfl, N161, trivial⟩
set_option maxRecDepth 65536 in
set_option maxHeartbeats 40000000 in
theorem comes_1 {Post : Tables → Env → Array Value → State → Outcome → State → Prop} (hpost : ∀ tb e args s v u, (limb_1_1.after args s (.returned v) u = true ∧ limb_1_2.after args s (.returned v) u = true ∧ True) → FrameEnd s (.returned v) u (Jvm.fieldLocs frame_1_writes args s ++ Jvm.arrayLocs frame_1_arrays args s ++ Jvm.staticLocs frame_1_statics s) 0 0 → Post tb e args s (.returned v) u) :
    ArmFor flags0 classFile x code maxLocals ret World_1 tables_1 room_1 Calls_1 rest_1 Pre_1 Post := by
  intro l hfl _ _ p e ha hc hk s m args below hf hA hF happ hP
  obtain ⟨hcalls, hrest, hpre⟩ := hP
  obtain ⟨-, -, -, hnamed, -, -, -, hat⟩ := (Spec.applies_iff hf).mp happ
  obtain ⟨hg, hn⟩ := and_e (Cond.before_iff.mp (show (Jvm.Cond.and given_1 narrow_1).before args s = true from hpre))
  obtain ⟨g0, gr0⟩ := and_e hg
  obtain ⟨g1, gr1⟩ := and_e gr0
  obtain ⟨g2, gr2⟩ := and_e gr1
  have g3 := gr2
  obtain ⟨w0, w1, w2, rfl⟩ : ∃ w0 w1 w2 : Value, args = #[w0, w1, w2] := by
    have hs : args.size = 3 := by simpa [Cond.value, given_1] using g0
    obtain ⟨L⟩ := args
    match L, hs with
    | [w0, w1, w2], _ => exact ⟨w0, w1, w2, rfl⟩
  have hw := fun d (hd : d ∈ tables_1) => atoms_spec (ws := Jvm.Cond.code x code maxLocals ret :: tables_1) hat d (List.mem_cons_of_mem _ hd)
  have hfit : Fit s := fun {y c} hc i hi => by
    obtain ⟨ha, rfl⟩ := Array.getElem?_eq_some_iff.mp hc
    have q := List.all_eq_true.mp ((Array.all_eq_true_iff_forall_mem.mp hF) _ (Array.getElem_mem ha)) i (List.mem_range.mpr hi)
    simpa [Array.getElem?_eq_getElem hi] using q
  obtain ⟨i0, ei0⟩ := is_v g1
  obtain rfl : w0 = (.int i0) := Option.some.inj ei0
  obtain ⟨i1, ei1⟩ := is_v g2
  obtain rfl : w1 = (.int i1) := Option.some.inj ei1
  obtain ⟨i2, ei2⟩ := is_v g3
  obtain rfl : w2 = (.int i2) := Option.some.inj ei2
  obtain ⟨b0, hn0⟩ := and_e hn
  obtain ⟨b1, hn1⟩ := and_e hn0
  obtain ⟨b2, hn2⟩ := and_e hn1
  obtain ⟨b3, hn3⟩ := and_e hn2
  obtain ⟨b4, hn4⟩ := and_e hn3
  obtain ⟨b5, hn5⟩ := and_e hn4
  obtain ⟨b6, hn6⟩ := and_e hn5
  obtain ⟨b7, hn7⟩ := and_e hn6
  obtain ⟨b8, hn8⟩ := and_e hn7
  obtain ⟨b9, hn9⟩ := and_e hn8
  obtain ⟨b10, hn10⟩ := and_e hn9
  obtain ⟨b11, hn11⟩ := and_e hn10
  obtain ⟨b12, hn12⟩ := and_e hn11
  obtain ⟨b13, hn13⟩ := and_e hn12
  obtain ⟨b14, hn14⟩ := and_e hn13
  obtain ⟨b15, hn15⟩ := and_e hn14
  obtain ⟨b16, hn16⟩ := and_e hn15
  have b17 := hn16
  obtain ⟨x0, v0⟩ := arr_v b0
  obtain ⟨x1, v1⟩ := exa_v b2
  obtain ⟨x2, v2⟩ := exa_v b5
  obtain ⟨x3, v3⟩ := exa_v b8
  obtain ⟨x4, v4⟩ := exa_v b11
  obtain ⟨c0, A0⟩ := Arr.start v0 b0
  obtain ⟨l0, m0⟩ := own_len v0 A0.1 b1
  have B : own_Base s (fun i => ([x0, x1, x2, x3, x4] : List Addr).getD i 0) := ⟨Sta.start v0 (Or.inr ⟨(hw _ (List.mem_of_getElem? (i := 2) rfl)), (hw _ (List.mem_of_getElem? (i := 5) rfl))⟩),
    Sta.start v1 (Or.inr ⟨(hw _ (List.mem_of_getElem? (i := 2) rfl)), (hw _ (List.mem_of_getElem? (i := 6) rfl))⟩),
    Exa.start v1 b2,
    Sta.start v2 (Or.inr ⟨(hw _ (List.mem_of_getElem? (i := 2) rfl)), (hw _ (List.mem_of_getElem? (i := 9) rfl))⟩),
    Exa.start v2 b5,
    Sta.start v3 (Or.inr ⟨(hw _ (List.mem_of_getElem? (i := 2) rfl)), (hw _ (List.mem_of_getElem? (i := 10) rfl))⟩),
    Exa.start v3 b8,
    Sta.start v4 (Or.inr ⟨(hw _ (List.mem_of_getElem? (i := 2) rfl)), (hw _ (List.mem_of_getElem? (i := 11) rfl))⟩),
    Exa.start v4 b11,
    ⟨_, Arv.start hfit A0 l0 m0 (by decide) rfl ⟨own_elem v0 A0.1 b3 v1, own_elem v0 A0.1 b6 v2, own_elem v0 A0.1 b9 v3, own_elem v0 A0.1 b12 v4, trivial⟩⟩,
    own_fld v1 b4 rfl,
    own_fld v1 b14 rfl,
    own_fld v2 b7 rfl,
    own_fld v2 b15 rfl,
    own_fld v3 b10 rfl,
    own_fld v3 b16 rfl,
    own_fld v4 b13 rfl,
    own_fld v4 b17 rfl⟩
  obtain ⟨n, o, h1, h2, h3, _, L, rfl, ⟨rfl, N, -⟩, hq⟩ := rm0 l s _ hw tables_1 (fun i => ([x0, x1, x2, x3, x4] : List Addr).getD i 0) i0 i1 i2 B s.heap s.heap.size (Old.start s)  p e ha hc hk s m _ below hf ((Spec.applies_iff_loose hf).mp happ).1 ⟨rfl, State.Warmed39.refl s, rfl⟩ trivial
  refine ⟨n, _, h1, h2, h3, hpost _ _ _ _ _ _ ⟨Cond.after_iff.mpr rfl, Cond.after_iff.mpr (eq_i res_at (Term.int_eval (1)) rfl), trivial⟩ ⟨hq.1, hq.2.1, (hq.2.2.sift fun y hy => Or.inr (N y hy)).mono (by decide) (by decide)⟩⟩
theorem main_1_1 : Claimed_1_1 := comes_1 fun _ _ _ _ _ _ h hF => ⟨h.1, hF⟩
theorem main_1_2 : Claimed_1_2 := comes_1 fun _ _ _ _ _ _ h hF => ⟨h.2.1, hF⟩
end Jvm.Pilot.@@N@@
namespace Jvm.Pilot.@@N@@
open Jvm Jvm.ClassFile Sem Op Lib Jvm.Free Jvm.Stand Jvm.Pilot.@@N@@.Jvm.D
/-! MADE BY PROGRAM (witnessworld.py) out of the Statement's table words and the real class files: 13 classes; the members and pool entries that the words name. The judged class is class 1, her method 2. -/
namespace start1
open Jvm.ClassFile
def u (s : String) : CpInfo := .utf8 (stringToUtf16 s)
/-- a pool by its gaps: so many unusable entries, then the entry; so many at the end -/
def gap : Nat → List CpInfo → List CpInfo
  | 0, r => r
  | n + 1, r => .unusable :: gap n r
def poolList (es : List (Nat × CpInfo)) (last : Nat) : List CpInfo := es.foldr (fun e r => gap e.1 (e.2 :: r)) (gap last [])
def pool (es : List (Nat × CpInfo)) (last : Nat) : Array CpInfo := ⟨poolList es last⟩
def fileOf (pool : Array CpInfo) (this : Nat) (attrs : Array Attribute := #[]) (ms : Array MethodInfo := #[]) (fl : Nat := 33) (sup : Nat := 0) (ifs : Array Nat := #[]) (fds : Array FieldInfo := #[]) : ClassFile where
  minorVersion := 0
  majorVersion := 65
  constantPool := pool
  accessFlags := fl
  thisClass := this
  superClass := sup
  interfaces := ifs
  fields := fds
  methods := ms
  attributes := attrs
def plain (name : String) (sup : Option ClassId) : Class where
  name := name
  kind := .ordinary
  loader := none
  accessFlags := 33
  super := sup
  interfaces := #[]
  cf := none
  fields := #[]
  methods := #[]
  instanceTypes := #[]
  staticTypes := #[]
  resolved := #[]
  callSites := []
  init := .initialized
  statics := none
  mirror := none

def pool0 : Array CpInfo := pool [(5, u "<init>"), (0, u "()V"), (1, .class_ 10), (1, u "java/lang/Object")] 113

def k0m0 : Method := { name := "<init>", desc := "()V", sig := { parameters := [], returnType := none }, accessFlags := 1, code := none }
/-- java/lang/Object -/
def k0 : Class := { plain "java/lang/Object" none with
  accessFlags := 33
  interfaces := #[]
  cf := some (fileOf pool0 8 #[] #[{ accessFlags := 1, nameIndex := 5, descriptorIndex := 6, attributes := #[] }] 33 0 #[] #[])
  fields := #[]
  methods := #[k0m0]
  instanceTypes := #[]
  staticTypes := #[]
  resolved := Array.replicate 124 none
  statics := none }

def pool1 : Array CpInfo := pool [(2, .class_ 4), (1, u "java/lang/Object"), (0, u "<init>"), (0, u "()V"), (0, .fieldref 8 9), (0, .class_ 10), (0, .nameAndType 11 12), (0, u "com/example/portcullis/portcullis/giop/GiopVersion"), (0, u "V1_0"), (0, u "Lcom/example/portcullis/portcullis/giop/GiopVersion;"), (0, .fieldref 8 14), (0, .nameAndType 15 12), (0, u "V1_1"), (0, .fieldref 8 17), (0, .nameAndType 18 12), (0, u "V1_2"), (0, .fieldref 8 20), (0, .nameAndType 21 12), (0, u "V1_3"), (0, .methodref 8 23), (0, .nameAndType 24 25), (0, u "of"), (0, u "(II)Lcom/example/portcullis/portcullis/giop/GiopVersion;"), (0, .methodref 27 28), (0, .class_ 29), (0, .nameAndType 30 25), (0, u "com/example/portcullis/portcullis/giop/GiopVersionOfPinLaw"), (0, u "expected"), (3, u "law"), (0, u "(III)Z")] 2

def k1m0 : Method := { name := "<init>", desc := "()V", sig := { parameters := [], returnType := none }, accessFlags := 1, code := none }
def k1c1 : Code := { maxStack := 2, maxLocals := 2, code := method_2_code, exceptionTable := #[], attributes := #[] }
def k1m1 : Method := { name := "expected", desc := "(II)Lcom/example/portcullis/portcullis/giop/GiopVersion;", sig := { parameters := [.int, .int], returnType := some (.object "com/example/portcullis/portcullis/giop/GiopVersion") }, accessFlags := 10, code := some k1c1 }
def k1c2 : Code := { maxStack := 3, maxLocals := 6, code := code, exceptionTable := #[], attributes := #[] }
def k1m2 : Method := { name := "law", desc := "(III)Z", sig := { parameters := [.int, .int, .int], returnType := some .boolean }, accessFlags := 9, code := some k1c2 }
/-- com/example/portcullis/portcullis/giop/GiopVersionOfPinLaw -/
def k1 : Class := { plain "com/example/portcullis/portcullis/giop/GiopVersionOfPinLaw" (some 0) with
  accessFlags := 49
  interfaces := #[]
  cf := some (fileOf pool1 27 #[] #[{ accessFlags := 1, nameIndex := 5, descriptorIndex := 6, attributes := #[] }, { accessFlags := 10, nameIndex := 30, descriptorIndex := 25, attributes := #[] }, { accessFlags := 9, nameIndex := 34, descriptorIndex := 35, attributes := #[] }] 49 2 #[] #[])
  fields := #[]
  methods := #[k1m0, k1m1, k1m2]
  instanceTypes := #[]
  staticTypes := #[]
  resolved := Array.replicate 38 none
  statics := none }

def pool2 : Array CpInfo := pool [(1, .class_ 2), (0, u "java/lang/constant/Constable"), (0, .class_ 4), (0, u "java/lang/Object")] 6

/-- java/lang/constant/Constable -/
def k2 : Class := { plain "java/lang/constant/Constable" (some 0) with
  accessFlags := 1537
  interfaces := #[]
  cf := some (fileOf pool2 1 #[] #[] 1537 3 #[] #[])
  fields := #[]
  methods := #[]
  instanceTypes := #[]
  staticTypes := #[]
  resolved := Array.replicate 11 none
  statics := none }

def pool3 : Array CpInfo := pool [(1, .class_ 2), (0, u "java/lang/Comparable"), (0, .class_ 4), (0, u "java/lang/Object")] 7

/-- java/lang/Comparable -/
def k3 : Class := { plain "java/lang/Comparable" (some 0) with
  accessFlags := 1537
  interfaces := #[]
  cf := some (fileOf pool3 1 #[] #[] 1537 3 #[] #[])
  fields := #[]
  methods := #[]
  instanceTypes := #[]
  staticTypes := #[]
  resolved := Array.replicate 12 none
  statics := none }

def pool4 : Array CpInfo := pool [(1, .class_ 2), (0, u "java/io/Serializable"), (0, .class_ 4), (0, u "java/lang/Object")] 2

/-- java/io/Serializable -/
def k4 : Class := { plain "java/io/Serializable" (some 0) with
  accessFlags := 1537
  interfaces := #[]
  cf := some (fileOf pool4 1 #[] #[] 1537 3 #[] #[])
  fields := #[]
  methods := #[]
  instanceTypes := #[]
  staticTypes := #[]
  resolved := Array.replicate 7 none
  statics := none }

def pool5 : Array CpInfo := pool [(2, .class_ 4), (1, u "java/lang/Enum"), (0, u "name"), (0, u "Ljava/lang/String;"), (2, u "ordinal"), (0, u "I"), (1, .class_ 14), (1, u "java/lang/Object"), (4, u "hash"), (86, .class_ 108), (1, u "java/lang/Enum$EnumDesc"), (2, .class_ 112), (0, u "java/lang/constant/Constable"), (0, .class_ 114), (0, u "java/lang/Comparable"), (0, .class_ 116), (0, u "java/io/Serializable")] 87

/-- java/lang/Enum -/
def k5 : Class := { plain "java/lang/Enum" (some 0) with
  accessFlags := 1057
  interfaces := #[2, 3, 4]
  cf := some (fileOf pool5 2 #[.nestMembers #[106]] #[] 1057 12 #[111, 113, 115] #[{ accessFlags := 18, nameIndex := 5, descriptorIndex := 6, attributes := #[] }, { accessFlags := 18, nameIndex := 9, descriptorIndex := 10, attributes := #[] }, { accessFlags := 2, nameIndex := 19, descriptorIndex := 10, attributes := #[] }])
  fields := #[{ name := "name", type := (.object "java/lang/String"), accessFlags := 18, slot := 0, constantValue := 0 }, { name := "ordinal", type := .int, accessFlags := 18, slot := 1, constantValue := 0 }, { name := "hash", type := .int, accessFlags := 2, slot := 2, constantValue := 0 }]
  methods := #[]
  instanceTypes := #[(.object "java/lang/String"), .int, .int]
  staticTypes := #[]
  resolved := Array.replicate 204 none
  statics := none }

def pool6 : Array CpInfo := pool [(1, .class_ 2), (0, u "com/example/portcullis/portcullis/giop/GiopVersion"), (2, u "V1_0"), (0, u "Lcom/example/portcullis/portcullis/giop/GiopVersion;"), (2, u "V1_1"), (2, u "V1_2"), (2, u "V1_3"), (2, u "$VALUES"), (0, u "[Lcom/example/portcullis/portcullis/giop/GiopVersion;"), (6, .class_ 28), (1, u "java/lang/Enum"), (6, .fieldref 1 36), (0, .nameAndType 37 38), (0, u "major"), (0, u "I"), (0, .fieldref 1 40), (0, .nameAndType 41 38), (0, u "minor"), (6, u "text"), (0, u "Ljava/lang/String;"), (4, .fieldref 1 55), (0, .nameAndType 56 19), (0, u "VERSIONS"), (24, u "of"), (0, u "(II)Lcom/example/portcullis/portcullis/giop/GiopVersion;")] 22

def k6c0 : Code := { maxStack := 2, maxLocals := 6, code := prog_12_method_7_code, exceptionTable := #[], attributes := #[] }
def k6m0 : Method := { name := "of", desc := "(II)Lcom/example/portcullis/portcullis/giop/GiopVersion;", sig := { parameters := [.int, .int], returnType := some (.object "com/example/portcullis/portcullis/giop/GiopVersion") }, accessFlags := 9, code := some k6c0 }
/-- com/example/portcullis/portcullis/giop/GiopVersion -/
def k6 : Class := { plain "com/example/portcullis/portcullis/giop/GiopVersion" (some 5) with
  accessFlags := 16433
  interfaces := #[]
  cf := some (fileOf pool6 1 #[] #[{ accessFlags := 9, nameIndex := 81, descriptorIndex := 82, attributes := #[] }] 16433 26 #[] #[{ accessFlags := 16409, nameIndex := 5, descriptorIndex := 6, attributes := #[] }, { accessFlags := 16409, nameIndex := 9, descriptorIndex := 6, attributes := #[] }, { accessFlags := 16409, nameIndex := 12, descriptorIndex := 6, attributes := #[] }, { accessFlags := 16409, nameIndex := 15, descriptorIndex := 6, attributes := #[] }, { accessFlags := 26, nameIndex := 56, descriptorIndex := 19, attributes := #[] }, { accessFlags := 18, nameIndex := 37, descriptorIndex := 38, attributes := #[] }, { accessFlags := 18, nameIndex := 41, descriptorIndex := 38, attributes := #[] }, { accessFlags := 18, nameIndex := 48, descriptorIndex := 49, attributes := #[] }, { accessFlags := 4122, nameIndex := 18, descriptorIndex := 19, attributes := #[] }])
  fields := #[{ name := "V1_0", type := (.object "com/example/portcullis/portcullis/giop/GiopVersion"), accessFlags := 16409, slot := 0, constantValue := 0 }, { name := "V1_1", type := (.object "com/example/portcullis/portcullis/giop/GiopVersion"), accessFlags := 16409, slot := 1, constantValue := 0 }, { name := "V1_2", type := (.object "com/example/portcullis/portcullis/giop/GiopVersion"), accessFlags := 16409, slot := 2, constantValue := 0 }, { name := "V1_3", type := (.object "com/example/portcullis/portcullis/giop/GiopVersion"), accessFlags := 16409, slot := 3, constantValue := 0 }, { name := "VERSIONS", type := (.array (.object "com/example/portcullis/portcullis/giop/GiopVersion")), accessFlags := 26, slot := 4, constantValue := 0 }, { name := "major", type := .int, accessFlags := 18, slot := 3, constantValue := 0 }, { name := "minor", type := .int, accessFlags := 18, slot := 4, constantValue := 0 }, { name := "text", type := (.object "java/lang/String"), accessFlags := 18, slot := 5, constantValue := 0 }, { name := "$VALUES", type := (.array (.object "com/example/portcullis/portcullis/giop/GiopVersion")), accessFlags := 4122, slot := 5, constantValue := 0 }]
  methods := #[k6m0]
  instanceTypes := #[(.object "java/lang/String"), .int, .int, .int, .int, (.object "java/lang/String")]
  staticTypes := #[(.object "com/example/portcullis/portcullis/giop/GiopVersion"), (.object "com/example/portcullis/portcullis/giop/GiopVersion"), (.object "com/example/portcullis/portcullis/giop/GiopVersion"), (.object "com/example/portcullis/portcullis/giop/GiopVersion"), (.array (.object "com/example/portcullis/portcullis/giop/GiopVersion")), (.array (.object "com/example/portcullis/portcullis/giop/GiopVersion"))]
  resolved := Array.replicate 105 none
  statics := some 0 }

def pool7 : Array CpInfo := pool [(1, u "java/lang/Cloneable"), (0, .class_ 1), (0, u "java/lang/Object"), (0, .class_ 3)] 3

/-- java/lang/Cloneable -/
def k7 : Class := { plain "java/lang/Cloneable" (some 0) with
  accessFlags := 1537
  interfaces := #[]
  cf := some (fileOf pool7 2 #[] #[] 1537 4 #[] #[])
  fields := #[]
  methods := #[]
  instanceTypes := #[]
  staticTypes := #[]
  resolved := Array.replicate 8 none
  statics := none }

/-- the primitive byte -/
def k8 : Class := { plain "byte" none with kind := .primitive 'B', accessFlags := 0x411 }
/-- [B -/
def k9 : Class := { plain "[B" (some 0) with kind := .array 8 .byte, interfaces := #[7, 4], accessFlags := 1041 }

/-- the primitive int -/
def k10 : Class := { plain "int" none with kind := .primitive 'I', accessFlags := 0x411 }
/-- [I -/
def k11 : Class := { plain "[I" (some 0) with kind := .array 10 .int, interfaces := #[7, 4], accessFlags := 1041 }

/-- [Lcom/example/portcullis/portcullis/giop/GiopVersion; -/
def k12 : Class := { plain "[Lcom/example/portcullis/portcullis/giop/GiopVersion;" (some 0) with kind := .array 6 (.object "com/example/portcullis/portcullis/giop/GiopVersion"), interfaces := #[7, 4], accessFlags := 1041 }

def heap : Heap := #[{ cls := 6, slots := #[.ref 2, .ref 3, .ref 4, .ref 5, .ref 1, .null], vm := .statics 6 },
  { cls := 12, slots := #[.ref 2, .ref 3, .ref 4, .ref 5], vm := .none },
  { cls := 6, slots := #[.null, .int 0, .int 0, .int (1), .int (0), .null], vm := .none },
  { cls := 6, slots := #[.null, .int 0, .int 0, .int (1), .int (1), .null], vm := .none },
  { cls := 6, slots := #[.null, .int 0, .int 0, .int (1), .int (2), .null], vm := .none },
  { cls := 6, slots := #[.null, .int 0, .int 0, .int (1), .int (3), .null], vm := .none }]
def classes : Array Class := #[k0, k1, k2, k3, k4, k5, k6, k7, k8, k9, k10, k11, k12]
def interned : List (Array UInt16 × Addr) := []
def slotsUsed : Nat := 34
def theMethod : MethodId := ⟨1, 2⟩
def args0 : Array Value := #[.int 5, .int 6, .int 1]
def aboutOver (below : List Frame) : State where
  vm := { classes := classes, interned := interned.toArray }
  heap := heap
  slotsUsed := slotsUsed
  threads := #[{ frames := .invoking theMethod args0 :: below }]
def below0 : List Frame := [.native { method := ⟨0, 0⟩, args := #[] }]
def about1 : State := aboutOver below0
def p0 : Program := .bare "" "" ""
def e0 : Env := launch0.env 0 0 0
theorem w_frames : about1.frames = Frame.invoking theMethod args0 :: below0 := rfl
set_option maxRecDepth 65536 in
theorem w_args : argsFit about1.vm theMethod args0 = true := by decide +kernel
set_option maxRecDepth 65536 in
theorem w_heap : heapFits about1 = true := by decide +kernel
set_option maxRecDepth 65536 in
theorem w_runnable : about1.curStatus? = some .runnable := by decide +kernel
set_option maxRecDepth 65536 in
theorem w_alone : about1.alone = true := by decide +kernel
set_option maxRecDepth 65536 in
theorem w_named : about1.methodNamed? x = some theMethod := by decide +kernel
set_option maxRecDepth 65536 in
theorem w_hears : about1.hears theMethod below0 = true := by decide +kernel
set_option maxRecDepth 65536 in
theorem w_ripe : about1.ripe theMethod args0 below0 = true := by decide +kernel
theorem w_running : about1.status = .running := rfl
set_option maxRecDepth 65536 in
theorem w_room : about1.hasRoom e0.platform room_1 = true :=
  launch0.hasRoom_least _ room_1 (by decide +kernel) (by decide +kernel) (by decide +kernel) (by decide +kernel) (by decide +kernel) (by decide +kernel)
theorem allAtoms_all (ts : List Jvm.Cond) (a : Array Jvm.Value) (st : Jvm.State) : (allAtoms ts).before a st = ts.all (fun c => c.before a st) := by
  induction ts with
  | nil => rfl
  | cons c t ih =>
    show (Jvm.Cond.and c (allAtoms t)).before a st = _
    rw [Jvm.Cond.before_and, ih, List.all_cons]
def words1 : List Jvm.Cond := Jvm.Cond.code x code maxLocals ret :: tables_1
/-- a 'code' word, met by the world's own term for the bytes: nothing is compared byte by byte -/
theorem code_word {y : MethodName} {bytes : ByteArray} {mx : Nat} {rt : Option FieldType} {a : Array Value} {s : State} {m : MethodId} {meth : Method} {c : Code} (h1 : s.methodNamed? y = some m) (h2 : s.vm.method? m = some meth) (h3 : meth.code = some c) (h4 : c.code = bytes)
    (h5 : (c.maxLocals == mx && c.exceptionTable.isEmpty && decide (c.maxStack ≤ mostOperands) && decide (meth.sig.returnType = rt) && !meth.locks && decide (parseMethodDescriptor y.desc = some meth.sig)) = true) : (Jvm.Cond.code y bytes mx rt).before a s = true := by
  simp only [Bool.and_eq_true, beq_iff_eq, Bool.not_eq_true', decide_eq_true_eq] at h5
  obtain ⟨⟨⟨⟨⟨g1, g2⟩, g3⟩, g4⟩, g5⟩, g6⟩ := h5
  simp [Cond.before, Cond.holds, Cond.value, h1, h2, h3, h4, g1, g2, g3, g4, g5, g6]
def isCode : Jvm.Cond → Bool
  | .code _ _ _ _ => true
  | _ => false
theorem all_split {L : List Jvm.Cond} {P : Jvm.Cond → Bool} (h1 : L.all (fun c => isCode c || P c) = true) (h2 : ∀ c ∈ L.filter isCode, P c = true) : L.all P = true := by
  refine List.all_eq_true.mpr fun c hc => ?_
  have h := List.all_eq_true.mp h1 c hc
  rcases Bool.eq_false_or_eq_true (isCode c) with hi | hi
  · exact h2 c (List.mem_filter.mpr ⟨hc, hi⟩)
  · simpa [hi] using h
set_option maxRecDepth 65536 in
theorem w_c0 : (Jvm.Cond.code x code maxLocals ret).before args0 about1 = true := code_word (m := ⟨1, 2⟩) (meth := k1m2) (c := k1c2) (by decide +kernel) rfl rfl rfl (by decide +kernel)
set_option maxRecDepth 65536 in
theorem w_c1 : (Jvm.Cond.code ({ cls := "com/example/portcullis/portcullis/giop/GiopVersion", name := "of", desc := "(II)Lcom/example/portcullis/portcullis/giop/GiopVersion;" } : Jvm.MethodName) prog_12_method_7_code (6 : Nat) (Option.some (Jvm.ClassFile.FieldType.object "com/example/portcullis/portcullis/giop/GiopVersion"))).before args0 about1 = true := code_word (m := ⟨6, 0⟩) (meth := k6m0) (c := k6c0) (by decide +kernel) rfl rfl rfl (by decide +kernel)
set_option maxRecDepth 65536 in
theorem w_c2 : (Jvm.Cond.code ({ cls := "com/example/portcullis/portcullis/giop/GiopVersionOfPinLaw", name := "expected", desc := "(II)Lcom/example/portcullis/portcullis/giop/GiopVersion;" } : Jvm.MethodName) method_2_code (2 : Nat) (Option.some (Jvm.ClassFile.FieldType.object "com/example/portcullis/portcullis/giop/GiopVersion"))).before args0 about1 = true := code_word (m := ⟨1, 1⟩) (meth := k1m1) (c := k1c1) (by decide +kernel) rfl rfl rfl (by decide +kernel)
def codes1 : List Jvm.Cond := [Jvm.Cond.code x code maxLocals ret, Jvm.Cond.code ({ cls := "com/example/portcullis/portcullis/giop/GiopVersion", name := "of", desc := "(II)Lcom/example/portcullis/portcullis/giop/GiopVersion;" } : Jvm.MethodName) prog_12_method_7_code (6 : Nat) (Option.some (Jvm.ClassFile.FieldType.object "com/example/portcullis/portcullis/giop/GiopVersion")), Jvm.Cond.code ({ cls := "com/example/portcullis/portcullis/giop/GiopVersionOfPinLaw", name := "expected", desc := "(II)Lcom/example/portcullis/portcullis/giop/GiopVersion;" } : Jvm.MethodName) method_2_code (2 : Nat) (Option.some (Jvm.ClassFile.FieldType.object "com/example/portcullis/portcullis/giop/GiopVersion"))]
set_option maxRecDepth 65536 in
theorem codes_eq : words1.filter isCode = codes1 := rfl
theorem w_codes : ∀ c ∈ words1.filter isCode, c.before args0 about1 = true := by
  rw [codes_eq]
  intro c hc
  simp only [codes1, List.mem_cons, List.not_mem_nil, or_false] at hc
  rcases hc with rfl | rfl | rfl
  · exact w_c0
  · exact w_c1
  · exact w_c2
set_option maxRecDepth 65536 in
theorem w_t1 : words1.all (fun c => isCode c || c.before args0 about1) = true := by decide +kernel
theorem w_tables : (allAtoms (Jvm.Cond.code x code maxLocals ret :: tables_1)).before args0 about1 = true := by
  rw [allAtoms_all]
  show words1.all (fun c => c.before args0 about1) = true
  refine all_split ?_ w_codes
  rw [w_t1]
set_option maxRecDepth 65536 in
theorem w_case : (Jvm.Cond.and given_1 narrow_1).before args0 about1 = true := by decide +kernel
theorem w_applies : (headSpec (Jvm.Cond.code x code maxLocals ret :: tables_1) room_1).applies x e0.platform about1 = true :=
  (Spec.applies_iff w_frames).mpr ⟨w_running, w_runnable, w_alone, w_named, w_hears, w_ripe, w_room, w_tables⟩
theorem atStart : AtStart classFile x code maxLocals ret World_1 tables_1 room_1 Calls_1 rest_1 Pre_1 launch0 p0 e0 about1 theMethod args0 below0 :=
  ⟨lists_1, trivial, launch0.admits_env _ _ _, launch0.least_env, fairChoices_fair.cas, fairChoices_fair.clock, w_frames, w_args, w_heap, w_applies, trivial, trivial, w_case⟩
end start1
theorem witness_1 : WitnessClaimed_1 := ⟨start1.p0, start1.e0, start1.about1, start1.theMethod, start1.args0, start1.below0, start1.atStart⟩
end Jvm.Pilot.@@N@@
