import JvmDerived
import JvmDerived.Pilot.@@N@@Statement
import JvmDerived.Pilot.@@N@@Code
set_option linter.unusedVariables false
set_option linter.unusedSimpArgs false
namespace Jvm.RoadKit
open Sem ClassFile Op Lib Jvm.Stand Jvm.Free Jvm.LawKit
section New
variable {p : Program} {l : Launch} {e : Env} {R : Room} {s : State} {m : MethodId} {args : Array Value} {below : List Frame} {meth : Method} {c : Code} {T : State} {locs : List Loc} {cells slots : Nat}
theorem retI (X : Stand p l e R s m args below meth c T locs cells slots) (hx : p.tables.exec = Jvm.exec) {pc : Nat} {Ls : Array Slot} {z : Int32} {rest : List Value} (hret : meth.sig.returnType = some .int) (hd : decode c.code pc = .ok (.ireturn, 1)) {fs : List Frame}
    (hl : ∀ (f : JFrame) (acts : List Action), f.method = m → f.locked = none → f.entered = [] → (doReturn e (T.setTop f) acts (some (.int z))).1 = T.setFrames fs) : Steps p.tables e below (T.setTop (mkF m pc Ls (.int z :: rest))) (T.setFrames fs) :=
  retOut X hx hret rfl (Or.inl ⟨rfl, Or.inl rfl, z, rfl⟩) hd hl
end New
end Jvm.RoadKit
namespace Jvm.Pilot.@@N@@
open Jvm Jvm.ClassFile Sem Op Lib Jvm.Free Jvm.Stand Jvm.LawKit Jvm.RoadKit Bundle Jvm.Pilot.@@N@@.Jvm.D
/-! small laws of this text's own -/
theorem own_eqv {args : Array Value} {first s : State} {o : Option Outcome} {idx : List Nat} {a b : Term} {v : Value} (h : (Jvm.Cond.eq a b).value args first o s idx = some true) (hb : b.eval args first o idx s = some v) : a.eval args first o idx s = some v := by
  cases ha : a.eval args first o idx s with
  | none => simp [Cond.value, ha] at h
  | some x => cases x <;> cases v <;> simp_all [Cond.value]
theorem own_fld {args : Array Value} {s : State} {t b : Term} {x : Addr} {C n d : String} {v : Value} (ht : t.eval args s none [] s = some (.ref x)) (h : (Jvm.Cond.eq (.field t C n d) b).value args s none s [] = some true) (hb : b.eval args s none [] s = some v) : Fld s s.heap x C n d v :=
  Fld.start ((fld_at ht).symm.trans (own_eqv h hb))
theorem own_len {args : Array Value} {s : State} {t : Term} {x : Addr} {c : Cell} {n : Int32} (ht : t.eval args s none [] s = some (.ref x)) (hc : s.heap[x]? = some c) (h : (Jvm.Cond.eq (.length t) (.int n)).value args s none s [] = some true) : c.slots.size < 2 ^ 31 ∧ c.slots.size.toInt32 = n := by
  have e := own_eqv h (v := .int n) rfl
  simp only [Term.eval, ht, Option.bind_eq_bind, Option.bind_some] at e
  cases hq : s.arrayAt? x with
  | none => simp [hq] at e
  | some c' =>
    have h1 := (State.arrayAt?_spec hq).1
    cases hc.symm.trans h1
    simp only [hq, Option.bind_some] at e
    split at e
    · rename_i hl; exact ⟨hl, by simpa using e⟩
    · cases e
theorem own_elem {args : Array Value} {s : State} {t b : Term} {x : Addr} {c : Cell} {j : Int32} {v : Value} (ht : t.eval args s none [] s = some (.ref x)) (hc : s.heap[x]? = some c) (h : (Jvm.Cond.eq (.elem t (.int j)) b).value args s none s [] = some true) (hb : b.eval args s none [] s = some v) : c.slots[j.toNatClampNeg]? = some v :=
  (elem_in (own_eqv h hb) ht rfl hc).2
theorem own_selpriv {y : MethodName} {s : State} {args : Array Value} {n : Nat} (hy : y.cls ≠ "java/lang/invoke/MethodHandle" ∧ y.cls ≠ "java/lang/invoke/VarHandle") (hins : (Jvm.Cond.instantiable y.cls n).before args s = true) (hpriv : (Jvm.Cond.privateMethod y).before args s = true) (hinst : (Jvm.Cond.instanceMethod y).before args s = true) : (Jvm.Cond.selects y.cls y y).before args s = true := by
  obtain ⟨c, k, hc, hk, -, hniab, -, -⟩ := Cond.instantiable_spec hins
  exact Stand.selects_self_of_private hc hk (Bool.or_eq_false_iff.mp hniab).1 (Cond.privateMethod_at hpriv) hinst hy
theorem own_ext {h0 h : Heap} (K : Keep h0 h []) : Ext h0 h := ⟨K.1, fun x c q => K.2.1 x c q (fun z => nomatch z)⟩
theorem own_cat1 {v : Value} (h : v.isRef = true) : v.category = 1 := by cases v <;> first | rfl | simp [Value.isRef] at h
theorem own_narref {t : FieldType} {v : Value} (h : t.isReference = true) (hv : v.isRef = true) : narrow t v = v := by
  cases v <;> first | (simp [Value.isRef] at hv; done) | (cases t <;> first | rfl | simp [FieldType.isReference] at h)
theorem own_store1 {l : Array Slot} {i : Nat} {v : Value} {o : Slot} (hold : l[i]? = some o) (ho : o = .unset ∨ ∃ w, o = .val w ∧ w.category = 1) (hv : v.category = 1) : storeLocals l i v = some (l.setIfInBounds i (.val v)) := XS.store1 hold ho hv
def own_Base (Z : State) (u : Nat → Addr) : Prop :=
  (Sta Z Z.heap "com/example/trailwire/trailwire/status/StatusCode" "INTERNAL" "Lcom/example/trailwire/trailwire/status/StatusCode;" (.ref (u 0))) ∧
  (Exa Z Z.heap (u 0) "com/example/trailwire/trailwire/status/StatusCode") ∧
  (Sta Z Z.heap "com/example/trailwire/trailwire/status/StatusCode" "PERMISSION_DENIED" "Lcom/example/trailwire/trailwire/status/StatusCode;" (.ref (u 1))) ∧
  (Exa Z Z.heap (u 1) "com/example/trailwire/trailwire/status/StatusCode") ∧
  (Sta Z Z.heap "com/example/trailwire/trailwire/status/StatusCode" "UNAVAILABLE" "Lcom/example/trailwire/trailwire/status/StatusCode;" (.ref (u 2))) ∧
  (Exa Z Z.heap (u 2) "com/example/trailwire/trailwire/status/StatusCode") ∧
  (Sta Z Z.heap "com/example/trailwire/trailwire/status/StatusCode" "RESOURCE_EXHAUSTED" "Lcom/example/trailwire/trailwire/status/StatusCode;" (.ref (u 3))) ∧
  (Exa Z Z.heap (u 3) "com/example/trailwire/trailwire/status/StatusCode") ∧
  (Sta Z Z.heap "com/example/trailwire/trailwire/status/StatusCode" "CANCELLED" "Lcom/example/trailwire/trailwire/status/StatusCode;" (.ref (u 4))) ∧
  (Exa Z Z.heap (u 4) "com/example/trailwire/trailwire/status/StatusCode")
theorem own_pd0 : parseMethodDescriptor "(J)Lcom/example/trailwire/trailwire/status/StatusCode;" = some ⟨[.long], some (.object "com/example/trailwire/trailwire/status/StatusCode")⟩ := by decide +kernel
theorem d2_0 : decode method_3_code 0 = .ok (.lload_n 0, 1) := by decide +kernel
theorem d2_1 : decode method_3_code 1 = .ok (.lconst 0, 1) := by decide +kernel
theorem d2_2 : decode method_3_code 2 = .ok (.lcmp, 1) := by decide +kernel
theorem d2_3 : decode method_3_code 3 = .ok (.ifCond .lt 11, 3) := by decide +kernel
theorem d2_6 : decode method_3_code 6 = .ok (.lload_n 0, 1) := by decide +kernel
theorem d2_7 : decode method_3_code 7 = .ok (.ldc2_w 18, 3) := by decide +kernel
theorem d2_10 : decode method_3_code 10 = .ok (.lcmp, 1) := by decide +kernel
theorem d2_11 : decode method_3_code 11 = .ok (.ifCond .le 7, 3) := by decide +kernel
theorem d2_14 : decode method_3_code 14 = .ok (.getstatic 20, 3) := by decide +kernel
theorem d2_17 : decode method_3_code 17 = .ok (.areturn, 1) := by decide +kernel
theorem d2_18 : decode method_3_code 18 = .ok (.lload_n 0, 1) := by decide +kernel
theorem d2_19 : decode method_3_code 19 = .ok (.l2i, 1) := by decide +kernel
theorem d2_20 : decode method_3_code 20 = .ok (.istore_n 2, 1) := by decide +kernel
theorem d2_21 : decode method_3_code 21 = .ok (.iload_n 2, 1) := by decide +kernel
theorem d2_22 : decode method_3_code 22 = .ok (.bipush 7, 2) := by decide +kernel
theorem d2_24 : decode method_3_code 24 = .ok (.if_icmp .ne 7, 3) := by decide +kernel
theorem d2_27 : decode method_3_code 27 = .ok (.getstatic 24, 3) := by decide +kernel
theorem d2_30 : decode method_3_code 30 = .ok (.areturn, 1) := by decide +kernel
theorem d2_31 : decode method_3_code 31 = .ok (.iload_n 2, 1) := by decide +kernel
theorem d2_32 : decode method_3_code 32 = .ok (.bipush 8, 2) := by decide +kernel
theorem d2_34 : decode method_3_code 34 = .ok (.if_icmp .ne 7, 3) := by decide +kernel
theorem d2_37 : decode method_3_code 37 = .ok (.getstatic 27, 3) := by decide +kernel
theorem d2_40 : decode method_3_code 40 = .ok (.areturn, 1) := by decide +kernel
theorem d2_41 : decode method_3_code 41 = .ok (.iload_n 2, 1) := by decide +kernel
theorem d2_42 : decode method_3_code 42 = .ok (.bipush 11, 2) := by decide +kernel
theorem d2_44 : decode method_3_code 44 = .ok (.if_icmp .ne 7, 3) := by decide +kernel
theorem d2_47 : decode method_3_code 47 = .ok (.getstatic 30, 3) := by decide +kernel
theorem d2_50 : decode method_3_code 50 = .ok (.areturn, 1) := by decide +kernel
theorem d2_51 : decode method_3_code 51 = .ok (.iload_n 2, 1) := by decide +kernel
theorem d2_52 : decode method_3_code 52 = .ok (.bipush 12, 2) := by decide +kernel
theorem d2_54 : decode method_3_code 54 = .ok (.if_icmp .ne 7, 3) := by decide +kernel
theorem d2_57 : decode method_3_code 57 = .ok (.getstatic 33, 3) := by decide +kernel
theorem d2_60 : decode method_3_code 60 = .ok (.areturn, 1) := by decide +kernel
theorem d2_61 : decode method_3_code 61 = .ok (.getstatic 20, 3) := by decide +kernel
theorem d2_64 : decode method_3_code 64 = .ok (.areturn, 1) := by decide +kernel
theorem own_pn_2 : plainName "com/example/trailwire/trailwire/status/StatusCodeForHttp2ErrorCodePinLaw" = true := by first | (simp [plainName, overriddenIn]; done) | decide +kernel
theorem own_ef_2 (m : MethodId) (x0 : Int64) : entryFrame m #[(.long x0)] 3 = mkF m 0 #[.val (.long x0), .second, .unset] [] := by first | (simp [entryFrame, mkF, argsToLocals, Value.category]; done) | rfl
def own_r2 (u : Nat → Addr) (q0 : Int64) : Addr :=
  if q0 < (0 : Int64) then
    (u 0)
  else
    if (15 : Int64) < q0 then
      (u 0)
    else
      if (q0.toInt32) = (7 : Int32) then
        (u 2)
      else
        if (q0.toInt32) = (8 : Int32) then
          (u 4)
        else
          if (q0.toInt32) = (11 : Int32) then
            (u 3)
          else
            if (q0.toInt32) = (12 : Int32) then
              (u 1)
            else
              (u 0)
def own_Q2 (Z : State) (u : Nat → Addr) (q0 : Int64) (h0 : Heap) (n0 : Nat) (v : Option Value) (h : Heap) (L : List Loc) : Prop := v = some (.ref (own_r2 u q0)) ∧ Fr n0 L ∧ h = h0
set_option maxRecDepth 65536 in
set_option maxHeartbeats 40000000 in
theorem rm2 (l : Launch) (Z : State) (a0 : Array Value) (hw : ∀ d ∈ tables_1, d.before a0 Z = true) (ws : List Jvm.Cond) (u : Nat → Addr) (q0 : Int64) (B : own_Base Z u) (h0 : Heap) (n0 : Nat) (O : Old Z n0 h0) :
    MetFree l (⟨"com/example/trailwire/trailwire/status/StatusCodeForHttp2ErrorCodePinLaw", "expected", "(J)Lcom/example/trailwire/trailwire/status/StatusCode;"⟩ : MethodName) (head1 (Jvm.Cond.code (⟨"com/example/trailwire/trailwire/status/StatusCodeForHttp2ErrorCodePinLaw", "expected", "(J)Lcom/example/trailwire/trailwire/status/StatusCode;"⟩ : MethodName) method_3_code 3 (some (.object "com/example/trailwire/trailwire/status/StatusCode")) :: ws) ({ frames := 0, cells := 0, slots := 0, locals := 0 } : Room)) (fun a U => a = #[(.long q0)] ∧ Z.Warmed39 U.vm ∧ U.heap = h0) (fun _ _ _ _ _ => True) (fun _ U o U' => ∃ v L, o = .returned v ∧ own_Q2 Z u q0 h0 n0 v U'.heap L ∧ FrameEnd U o U' L ({ frames := 0, cells := 0, slots := 0, locals := 0 } : Room).cells ({ frames := 0, cells := 0, slots := 0, locals := 0 } : Room).slots) := by
  refine MetFree.of_bodySF (plainFor_of_name own_pn_2) hisR ?_
  intro p e s m args below meth c s₁ Bd hml0 hP hK
  obtain ⟨rfl, hZ, hh⟩ := hP
  have hx := Bd.exec
  have hby := Bd.bytes
  have hml : c.maxLocals = 3 := hml0
  have hown : s.vm.findClass "com/example/trailwire/trailwire/status/StatusCodeForHttp2ErrorCodePinLaw" = some m.cls := findClass_of_methodNamed Bd.named
  have hnm := (name_of_methodNamed Bd.named Bd.method).1
  have X0 : Stand p l e ({ frames := 0, cells := 0, slots := 0, locals := 0 } : Room) s m #[(.long q0)] below meth c s₁ [] 0 0 := Stand.of_body Bd
  have e0 : s₁.heap = h0 := by rw [← hh, Bd.state]; rfl
  have N0 := Fr.nil n0
  have K0 := Keep.refl h0 []
  have Z0 : n0 ≤ h0.size := O.1 ▸ O.2.1
  have pre0 : ∀ t, Steps p.tables e below (s₁.setTop (mkF m 0 #[.val (.long q0), .second, .unset] [])) t → Steps p.tables e below (s₁.setTop (entryFrame m #[(.long q0)] 3)) t := fun t k => castTop (own_ef_2 m q0) k
  have pre1 : ∀ t, Steps p.tables e below (s₁.setTop (mkF m 3 #[.val (.long q0), .second, .unset] [(.int (lcmpW q0 (0 : Int64)))])) t → Steps p.tables e below (s₁.setTop (entryFrame m #[(.long q0)] 3)) t := fun t kt => pre0 t (by
    show Steps p.tables e below (s₁.setTop (mkF m 0 #[.val (.long q0), .second, .unset] [])) _
    refine XS.lloadN X0.here hx rfl (hb hby d2_0) rfl ?_
    show Steps p.tables e below (s₁.setTop (mkF m 1 #[.val (.long q0), .second, .unset] [(.long q0)])) _
    refine XS.lconst X0.here hx rfl (hb hby d2_1) ?_
    show Steps p.tables e below (s₁.setTop (mkF m 2 #[.val (.long q0), .second, .unset] [(.long (0 : Int64)), (.long q0)])) _
    refine XS.lcmp X0.here hx rfl (hb hby d2_2) rfl ?_
    exact kt)
  by_cases hc2 : q0 < (0 : Int64)
  · --
    obtain ⟨T3, X3, e3, st3⟩ := getS2 X0 hx hZ hown (host := "") (Or.inl (hw _ (List.mem_of_getElem? (i := 15) rfl))) Via.refl e0 (B.1.ext O.2) (g := (mkF m 14 #[.val (.long q0), .second, .unset] [])) rfl (hb hby d2_14)
    obtain ⟨fs, hr, hrun, hended, hW, hsame⟩ := X3.leave (v := some (.ref (u 0))) (fun h => by rw [Bd.returns] at h; cases h)
    refine ⟨_, _, pre1 _ ?_, hrun, hended, _, _, rfl, ?_, ⟨_, rfl⟩, hW, hsame.mono (by decide) (by decide)⟩
    · show Steps p.tables e below (s₁.setTop (mkF m 3 #[.val (.long q0), .second, .unset] [(.int (lcmpW q0 (0 : Int64)))])) _
      refine XS.ifYes X0.here hx rfl (pc0 := 3) (pc' := 14) rfl (hb hby d2_3) rfl ((if0 _ _).trans (tlt ((lw_lt q0 (0 : Int64)).mpr hc2)).1) (by decide) (by decide) ?_
      show Steps p.tables e below (s₁.setTop (mkF m 14 #[.val (.long q0), .second, .unset] [])) _
      refine st3 _ ?_
      show Steps p.tables e below (T3.setTop (mkF m 17 #[.val (.long q0), .second, .unset] [(.ref (u 0))])) _
      exact retOut X3 hx Bd.returns (own_narref rfl rfl) (Or.inr (Or.inr (Or.inr (Or.inr ⟨rfl, rfl, rfl⟩)))) (hb hby d2_17) hr
    · show own_Q2 Z u q0 h0 n0 _ T3.heap _
      rw [e3]
      exact ⟨(by unfold own_r2; rw [if_pos hc2]), N0, rfl⟩
  · --
    have pre5 : ∀ t, Steps p.tables e below (s₁.setTop (mkF m 11 #[.val (.long q0), .second, .unset] [(.int (lcmpW q0 (15 : Int64)))])) t → Steps p.tables e below (s₁.setTop (entryFrame m #[(.long q0)] 3)) t := fun t kt => pre1 t (by
      show Steps p.tables e below (s₁.setTop (mkF m 3 #[.val (.long q0), .second, .unset] [(.int (lcmpW q0 (0 : Int64)))])) _
      refine XS.ifNo X0.here hx rfl (hb hby d2_3) rfl ((if0 _ _).trans (flt (fun q => hc2 ((lw_lt q0 (0 : Int64)).mp q))).1) ?_
      show Steps p.tables e below (s₁.setTop (mkF m 6 #[.val (.long q0), .second, .unset] [])) _
      refine XS.lloadN X0.here hx rfl (hb hby d2_6) rfl ?_
      show Steps p.tables e below (s₁.setTop (mkF m 7 #[.val (.long q0), .second, .unset] [(.long q0)])) _
      refine X0.ldc2Long hx hown (mvT hZ (hw _ (List.mem_of_getElem? (i := 14) rfl))) (g := (mkF m 7 #[.val (.long q0), .second, .unset] [(.long q0)])) rfl (hb hby d2_7) _ ?_
      show Steps p.tables e below (s₁.setTop (mkF m 10 #[.val (.long q0), .second, .unset] [(.long (15 : Int64)), (.long q0)])) _
      refine XS.lcmp X0.here hx rfl (hb hby d2_10) rfl ?_
      exact kt)
    by_cases hc6 : (15 : Int64) < q0
    · --
      obtain ⟨T7, X7, e7, st7⟩ := getS2 X0 hx hZ hown (host := "") (Or.inl (hw _ (List.mem_of_getElem? (i := 15) rfl))) Via.refl e0 (B.1.ext O.2) (g := (mkF m 14 #[.val (.long q0), .second, .unset] [])) rfl (hb hby d2_14)
      obtain ⟨fs, hr, hrun, hended, hW, hsame⟩ := X7.leave (v := some (.ref (u 0))) (fun h => by rw [Bd.returns] at h; cases h)
      refine ⟨_, _, pre5 _ ?_, hrun, hended, _, _, rfl, ?_, ⟨_, rfl⟩, hW, hsame.mono (by decide) (by decide)⟩
      · show Steps p.tables e below (s₁.setTop (mkF m 11 #[.val (.long q0), .second, .unset] [(.int (lcmpW q0 (15 : Int64)))])) _
        refine XS.ifNo X0.here hx rfl (hb hby d2_11) rfl ((if0 _ _).trans (tlt ((lw_gt q0 (15 : Int64)).mpr hc6)).2.2.2) ?_
        show Steps p.tables e below (s₁.setTop (mkF m 14 #[.val (.long q0), .second, .unset] [])) _
        refine st7 _ ?_
        show Steps p.tables e below (T7.setTop (mkF m 17 #[.val (.long q0), .second, .unset] [(.ref (u 0))])) _
        exact retOut X7 hx Bd.returns (own_narref rfl rfl) (Or.inr (Or.inr (Or.inr (Or.inr ⟨rfl, rfl, rfl⟩)))) (hb hby d2_17) hr
      · show own_Q2 Z u q0 h0 n0 _ T7.heap _
        rw [e7]
        exact ⟨(by unfold own_r2; rw [if_neg hc2, if_pos hc6]), N0, rfl⟩
    · --
      have pre9 : ∀ t, Steps p.tables e below (s₁.setTop (mkF m 24 #[.val (.long q0), .second, .val (.int (q0.toInt32))] [(.int (7 : Int32)), (.int (q0.toInt32))])) t → Steps p.tables e below (s₁.setTop (entryFrame m #[(.long q0)] 3)) t := fun t kt => pre5 t (by
        show Steps p.tables e below (s₁.setTop (mkF m 11 #[.val (.long q0), .second, .unset] [(.int (lcmpW q0 (15 : Int64)))])) _
        refine XS.ifYes X0.here hx rfl (pc0 := 11) (pc' := 18) rfl (hb hby d2_11) rfl ((if0 _ _).trans (flt (fun q => hc6 ((lw_gt q0 (15 : Int64)).mp q))).2.2.2) (by decide) (by decide) ?_
        show Steps p.tables e below (s₁.setTop (mkF m 18 #[.val (.long q0), .second, .unset] [])) _
        refine XS.lloadN X0.here hx rfl (hb hby d2_18) rfl ?_
        show Steps p.tables e below (s₁.setTop (mkF m 19 #[.val (.long q0), .second, .unset] [(.long q0)])) _
        refine XS.l2i X0.here hx rfl (hb hby d2_19) rfl ?_
        show Steps p.tables e below (s₁.setTop (mkF m 20 #[.val (.long q0), .second, .unset] [(.int (q0.toInt32))])) _
        refine XS.istoreN X0.here hx rfl (hb hby d2_20) rfl (l' := #[.val (.long q0), .second, .val (.int (q0.toInt32))]) rfl ?_
        show Steps p.tables e below (s₁.setTop (mkF m 21 #[.val (.long q0), .second, .val (.int (q0.toInt32))] [])) _
        refine XS.iloadN X0.here hx rfl (hb hby d2_21) rfl ?_
        show Steps p.tables e below (s₁.setTop (mkF m 22 #[.val (.long q0), .second, .val (.int (q0.toInt32))] [(.int (q0.toInt32))])) _
        refine XS.bipush X0.here hx rfl (hb hby d2_22) ?_
        exact kt)
      by_cases hc10 : (q0.toInt32) = (7 : Int32)
      · --
        obtain ⟨T11, X11, e11, st11⟩ := getS2 X0 hx hZ hown (host := "") (Or.inl (hw _ (List.mem_of_getElem? (i := 21) rfl))) Via.refl e0 (B.2.2.2.2.1.ext O.2) (g := (mkF m 27 #[.val (.long q0), .second, .val (.int (q0.toInt32))] [])) rfl (hb hby d2_27)
        obtain ⟨fs, hr, hrun, hended, hW, hsame⟩ := X11.leave (v := some (.ref (u 2))) (fun h => by rw [Bd.returns] at h; cases h)
        refine ⟨_, _, pre9 _ ?_, hrun, hended, _, _, rfl, ?_, ⟨_, rfl⟩, hW, hsame.mono (by decide) (by decide)⟩
        · show Steps p.tables e below (s₁.setTop (mkF m 24 #[.val (.long q0), .second, .val (.int (q0.toInt32))] [(.int (7 : Int32)), (.int (q0.toInt32))])) _
          refine XS.icmpNo X0.here hx rfl (hb hby d2_24) rfl (teq hc10).2 ?_
          show Steps p.tables e below (s₁.setTop (mkF m 27 #[.val (.long q0), .second, .val (.int (q0.toInt32))] [])) _
          refine st11 _ ?_
          show Steps p.tables e below (T11.setTop (mkF m 30 #[.val (.long q0), .second, .val (.int (q0.toInt32))] [(.ref (u 2))])) _
          exact retOut X11 hx Bd.returns (own_narref rfl rfl) (Or.inr (Or.inr (Or.inr (Or.inr ⟨rfl, rfl, rfl⟩)))) (hb hby d2_30) hr
        · show own_Q2 Z u q0 h0 n0 _ T11.heap _
          rw [e11]
          exact ⟨(by unfold own_r2; rw [if_neg hc2, if_neg hc6, if_pos hc10]), N0, rfl⟩
      · --
        have pre13 : ∀ t, Steps p.tables e below (s₁.setTop (mkF m 34 #[.val (.long q0), .second, .val (.int (q0.toInt32))] [(.int (8 : Int32)), (.int (q0.toInt32))])) t → Steps p.tables e below (s₁.setTop (entryFrame m #[(.long q0)] 3)) t := fun t kt => pre9 t (by
          show Steps p.tables e below (s₁.setTop (mkF m 24 #[.val (.long q0), .second, .val (.int (q0.toInt32))] [(.int (7 : Int32)), (.int (q0.toInt32))])) _
          refine XS.icmpYes X0.here hx rfl (pc0 := 24) (pc' := 31) rfl (hb hby d2_24) rfl (feq hc10).2 (by decide) (by decide) ?_
          show Steps p.tables e below (s₁.setTop (mkF m 31 #[.val (.long q0), .second, .val (.int (q0.toInt32))] [])) _
          refine XS.iloadN X0.here hx rfl (hb hby d2_31) rfl ?_
          show Steps p.tables e below (s₁.setTop (mkF m 32 #[.val (.long q0), .second, .val (.int (q0.toInt32))] [(.int (q0.toInt32))])) _
          refine XS.bipush X0.here hx rfl (hb hby d2_32) ?_
          exact kt)
        by_cases hc14 : (q0.toInt32) = (8 : Int32)
        · --
          obtain ⟨T15, X15, e15, st15⟩ := getS2 X0 hx hZ hown (host := "") (Or.inl (hw _ (List.mem_of_getElem? (i := 27) rfl))) Via.refl e0 (B.2.2.2.2.2.2.2.2.1.ext O.2) (g := (mkF m 37 #[.val (.long q0), .second, .val (.int (q0.toInt32))] [])) rfl (hb hby d2_37)
          obtain ⟨fs, hr, hrun, hended, hW, hsame⟩ := X15.leave (v := some (.ref (u 4))) (fun h => by rw [Bd.returns] at h; cases h)
          refine ⟨_, _, pre13 _ ?_, hrun, hended, _, _, rfl, ?_, ⟨_, rfl⟩, hW, hsame.mono (by decide) (by decide)⟩
          · show Steps p.tables e below (s₁.setTop (mkF m 34 #[.val (.long q0), .second, .val (.int (q0.toInt32))] [(.int (8 : Int32)), (.int (q0.toInt32))])) _
            refine XS.icmpNo X0.here hx rfl (hb hby d2_34) rfl (teq hc14).2 ?_
            show Steps p.tables e below (s₁.setTop (mkF m 37 #[.val (.long q0), .second, .val (.int (q0.toInt32))] [])) _
            refine st15 _ ?_
            show Steps p.tables e below (T15.setTop (mkF m 40 #[.val (.long q0), .second, .val (.int (q0.toInt32))] [(.ref (u 4))])) _
            exact retOut X15 hx Bd.returns (own_narref rfl rfl) (Or.inr (Or.inr (Or.inr (Or.inr ⟨rfl, rfl, rfl⟩)))) (hb hby d2_40) hr
          · show own_Q2 Z u q0 h0 n0 _ T15.heap _
            rw [e15]
            exact ⟨(by unfold own_r2; rw [if_neg hc2, if_neg hc6, if_neg hc10, if_pos hc14]), N0, rfl⟩
        · --
          have pre17 : ∀ t, Steps p.tables e below (s₁.setTop (mkF m 44 #[.val (.long q0), .second, .val (.int (q0.toInt32))] [(.int (11 : Int32)), (.int (q0.toInt32))])) t → Steps p.tables e below (s₁.setTop (entryFrame m #[(.long q0)] 3)) t := fun t kt => pre13 t (by
            show Steps p.tables e below (s₁.setTop (mkF m 34 #[.val (.long q0), .second, .val (.int (q0.toInt32))] [(.int (8 : Int32)), (.int (q0.toInt32))])) _
            refine XS.icmpYes X0.here hx rfl (pc0 := 34) (pc' := 41) rfl (hb hby d2_34) rfl (feq hc14).2 (by decide) (by decide) ?_
            show Steps p.tables e below (s₁.setTop (mkF m 41 #[.val (.long q0), .second, .val (.int (q0.toInt32))] [])) _
            refine XS.iloadN X0.here hx rfl (hb hby d2_41) rfl ?_
            show Steps p.tables e below (s₁.setTop (mkF m 42 #[.val (.long q0), .second, .val (.int (q0.toInt32))] [(.int (q0.toInt32))])) _
            refine XS.bipush X0.here hx rfl (hb hby d2_42) ?_
            exact kt)
          by_cases hc18 : (q0.toInt32) = (11 : Int32)
          · --
            obtain ⟨T19, X19, e19, st19⟩ := getS2 X0 hx hZ hown (host := "") (Or.inl (hw _ (List.mem_of_getElem? (i := 24) rfl))) Via.refl e0 (B.2.2.2.2.2.2.1.ext O.2) (g := (mkF m 47 #[.val (.long q0), .second, .val (.int (q0.toInt32))] [])) rfl (hb hby d2_47)
            obtain ⟨fs, hr, hrun, hended, hW, hsame⟩ := X19.leave (v := some (.ref (u 3))) (fun h => by rw [Bd.returns] at h; cases h)
            refine ⟨_, _, pre17 _ ?_, hrun, hended, _, _, rfl, ?_, ⟨_, rfl⟩, hW, hsame.mono (by decide) (by decide)⟩
            · show Steps p.tables e below (s₁.setTop (mkF m 44 #[.val (.long q0), .second, .val (.int (q0.toInt32))] [(.int (11 : Int32)), (.int (q0.toInt32))])) _
              refine XS.icmpNo X0.here hx rfl (hb hby d2_44) rfl (teq hc18).2 ?_
              show Steps p.tables e below (s₁.setTop (mkF m 47 #[.val (.long q0), .second, .val (.int (q0.toInt32))] [])) _
              refine st19 _ ?_
              show Steps p.tables e below (T19.setTop (mkF m 50 #[.val (.long q0), .second, .val (.int (q0.toInt32))] [(.ref (u 3))])) _
              exact retOut X19 hx Bd.returns (own_narref rfl rfl) (Or.inr (Or.inr (Or.inr (Or.inr ⟨rfl, rfl, rfl⟩)))) (hb hby d2_50) hr
            · show own_Q2 Z u q0 h0 n0 _ T19.heap _
              rw [e19]
              exact ⟨(by unfold own_r2; rw [if_neg hc2, if_neg hc6, if_neg hc10, if_neg hc14, if_pos hc18]), N0, rfl⟩
          · --
            have pre21 : ∀ t, Steps p.tables e below (s₁.setTop (mkF m 54 #[.val (.long q0), .second, .val (.int (q0.toInt32))] [(.int (12 : Int32)), (.int (q0.toInt32))])) t → Steps p.tables e below (s₁.setTop (entryFrame m #[(.long q0)] 3)) t := fun t kt => pre17 t (by
              show Steps p.tables e below (s₁.setTop (mkF m 44 #[.val (.long q0), .second, .val (.int (q0.toInt32))] [(.int (11 : Int32)), (.int (q0.toInt32))])) _
              refine XS.icmpYes X0.here hx rfl (pc0 := 44) (pc' := 51) rfl (hb hby d2_44) rfl (feq hc18).2 (by decide) (by decide) ?_
              show Steps p.tables e below (s₁.setTop (mkF m 51 #[.val (.long q0), .second, .val (.int (q0.toInt32))] [])) _
              refine XS.iloadN X0.here hx rfl (hb hby d2_51) rfl ?_
              show Steps p.tables e below (s₁.setTop (mkF m 52 #[.val (.long q0), .second, .val (.int (q0.toInt32))] [(.int (q0.toInt32))])) _
              refine XS.bipush X0.here hx rfl (hb hby d2_52) ?_
              exact kt)
            by_cases hc22 : (q0.toInt32) = (12 : Int32)
            · --
              obtain ⟨T23, X23, e23, st23⟩ := getS2 X0 hx hZ hown (host := "") (Or.inl (hw _ (List.mem_of_getElem? (i := 18) rfl))) Via.refl e0 (B.2.2.1.ext O.2) (g := (mkF m 57 #[.val (.long q0), .second, .val (.int (q0.toInt32))] [])) rfl (hb hby d2_57)
              obtain ⟨fs, hr, hrun, hended, hW, hsame⟩ := X23.leave (v := some (.ref (u 1))) (fun h => by rw [Bd.returns] at h; cases h)
              refine ⟨_, _, pre21 _ ?_, hrun, hended, _, _, rfl, ?_, ⟨_, rfl⟩, hW, hsame.mono (by decide) (by decide)⟩
              · show Steps p.tables e below (s₁.setTop (mkF m 54 #[.val (.long q0), .second, .val (.int (q0.toInt32))] [(.int (12 : Int32)), (.int (q0.toInt32))])) _
                refine XS.icmpNo X0.here hx rfl (hb hby d2_54) rfl (teq hc22).2 ?_
                show Steps p.tables e below (s₁.setTop (mkF m 57 #[.val (.long q0), .second, .val (.int (q0.toInt32))] [])) _
                refine st23 _ ?_
                show Steps p.tables e below (T23.setTop (mkF m 60 #[.val (.long q0), .second, .val (.int (q0.toInt32))] [(.ref (u 1))])) _
                exact retOut X23 hx Bd.returns (own_narref rfl rfl) (Or.inr (Or.inr (Or.inr (Or.inr ⟨rfl, rfl, rfl⟩)))) (hb hby d2_60) hr
              · show own_Q2 Z u q0 h0 n0 _ T23.heap _
                rw [e23]
                exact ⟨(by unfold own_r2; rw [if_neg hc2, if_neg hc6, if_neg hc10, if_neg hc14, if_neg hc18, if_pos hc22]), N0, rfl⟩
            · --
              obtain ⟨T25, X25, e25, st25⟩ := getS2 X0 hx hZ hown (host := "") (Or.inl (hw _ (List.mem_of_getElem? (i := 15) rfl))) Via.refl e0 (B.1.ext O.2) (g := (mkF m 61 #[.val (.long q0), .second, .val (.int (q0.toInt32))] [])) rfl (hb hby d2_61)
              obtain ⟨fs, hr, hrun, hended, hW, hsame⟩ := X25.leave (v := some (.ref (u 0))) (fun h => by rw [Bd.returns] at h; cases h)
              refine ⟨_, _, pre21 _ ?_, hrun, hended, _, _, rfl, ?_, ⟨_, rfl⟩, hW, hsame.mono (by decide) (by decide)⟩
              · show Steps p.tables e below (s₁.setTop (mkF m 54 #[.val (.long q0), .second, .val (.int (q0.toInt32))] [(.int (12 : Int32)), (.int (q0.toInt32))])) _
                refine XS.icmpYes X0.here hx rfl (pc0 := 54) (pc' := 61) rfl (hb hby d2_54) rfl (feq hc22).2 (by decide) (by decide) ?_
                show Steps p.tables e below (s₁.setTop (mkF m 61 #[.val (.long q0), .second, .val (.int (q0.toInt32))] [])) _
                refine st25 _ ?_
                show Steps p.tables e below (T25.setTop (mkF m 64 #[.val (.long q0), .second, .val (.int (q0.toInt32))] [(.ref (u 0))])) _
                exact retOut X25 hx Bd.returns (own_narref rfl rfl) (Or.inr (Or.inr (Or.inr (Or.inr ⟨rfl, rfl, rfl⟩)))) (hb hby d2_64) hr
              · show own_Q2 Z u q0 h0 n0 _ T25.heap _
                rw [e25]
                exact ⟨(by unfold own_r2; rw [if_neg hc2, if_neg hc6, if_neg hc10, if_neg hc14, if_neg hc18, if_neg hc22]), N0, rfl⟩
theorem d1_0 : decode prog_23_method_10_code 0 = .ok (.lload_n 0, 1) := by decide +kernel
theorem d1_1 : decode prog_23_method_10_code 1 = .ok (.ldc2_w 117, 3) := by decide +kernel
theorem d1_4 : decode prog_23_method_10_code 4 = .ok (.lcmp, 1) := by decide +kernel
theorem d1_5 : decode prog_23_method_10_code 5 = .ok (.ifCond .ne 10, 3) := by decide +kernel
theorem d1_8 : decode prog_23_method_10_code 8 = .ok (.getstatic 46, 3) := by decide +kernel
theorem d1_11 : decode prog_23_method_10_code 11 = .ok (.astore_n 2, 1) := by decide +kernel
theorem d1_12 : decode prog_23_method_10_code 12 = .ok (.goto 52, 3) := by decide +kernel
theorem d1_15 : decode prog_23_method_10_code 15 = .ok (.lload_n 0, 1) := by decide +kernel
theorem d1_16 : decode prog_23_method_10_code 16 = .ok (.ldc2_w 119, 3) := by decide +kernel
theorem d1_19 : decode prog_23_method_10_code 19 = .ok (.lcmp, 1) := by decide +kernel
theorem d1_20 : decode prog_23_method_10_code 20 = .ok (.ifCond .ne 10, 3) := by decide +kernel
theorem d1_23 : decode prog_23_method_10_code 23 = .ok (.getstatic 7, 3) := by decide +kernel
theorem d1_26 : decode prog_23_method_10_code 26 = .ok (.astore_n 2, 1) := by decide +kernel
theorem d1_27 : decode prog_23_method_10_code 27 = .ok (.goto 37, 3) := by decide +kernel
theorem d1_30 : decode prog_23_method_10_code 30 = .ok (.lload_n 0, 1) := by decide +kernel
theorem d1_31 : decode prog_23_method_10_code 31 = .ok (.ldc2_w 121, 3) := by decide +kernel
theorem d1_34 : decode prog_23_method_10_code 34 = .ok (.lcmp, 1) := by decide +kernel
theorem d1_35 : decode prog_23_method_10_code 35 = .ok (.ifCond .ne 10, 3) := by decide +kernel
theorem d1_38 : decode prog_23_method_10_code 38 = .ok (.getstatic 28, 3) := by decide +kernel
theorem d1_41 : decode prog_23_method_10_code 41 = .ok (.astore_n 2, 1) := by decide +kernel
theorem d1_42 : decode prog_23_method_10_code 42 = .ok (.goto 22, 3) := by decide +kernel
theorem d1_45 : decode prog_23_method_10_code 45 = .ok (.lload_n 0, 1) := by decide +kernel
theorem d1_46 : decode prog_23_method_10_code 46 = .ok (.ldc2_w 123, 3) := by decide +kernel
theorem d1_49 : decode prog_23_method_10_code 49 = .ok (.lcmp, 1) := by decide +kernel
theorem d1_50 : decode prog_23_method_10_code 50 = .ok (.ifCond .ne 10, 3) := by decide +kernel
theorem d1_53 : decode prog_23_method_10_code 53 = .ok (.getstatic 25, 3) := by decide +kernel
theorem d1_56 : decode prog_23_method_10_code 56 = .ok (.astore_n 2, 1) := by decide +kernel
theorem d1_57 : decode prog_23_method_10_code 57 = .ok (.goto 7, 3) := by decide +kernel
theorem d1_60 : decode prog_23_method_10_code 60 = .ok (.getstatic 43, 3) := by decide +kernel
theorem d1_63 : decode prog_23_method_10_code 63 = .ok (.astore_n 2, 1) := by decide +kernel
theorem d1_64 : decode prog_23_method_10_code 64 = .ok (.aload_n 2, 1) := by decide +kernel
theorem d1_65 : decode prog_23_method_10_code 65 = .ok (.areturn, 1) := by decide +kernel
theorem own_pn_1 : plainName "com/example/trailwire/trailwire/status/StatusCode" = true := by first | (simp [plainName, overriddenIn]; done) | decide +kernel
theorem own_ef_1 (m : MethodId) (x0 : Int64) : entryFrame m #[(.long x0)] 3 = mkF m 0 #[.val (.long x0), .second, .unset] [] := by first | (simp [entryFrame, mkF, argsToLocals, Value.category]; done) | rfl
def own_r1 (u : Nat → Addr) (q0 : Int64) : Addr :=
  if q0 = (7 : Int64) then
    (u 2)
  else
    if q0 = (8 : Int64) then
      (u 4)
    else
      if q0 = (11 : Int64) then
        (u 3)
      else
        if q0 = (12 : Int64) then
          (u 1)
        else
          (u 0)
def own_Q1 (Z : State) (u : Nat → Addr) (q0 : Int64) (h0 : Heap) (n0 : Nat) (v : Option Value) (h : Heap) (L : List Loc) : Prop := v = some (.ref (own_r1 u q0)) ∧ Fr n0 L ∧ h = h0
set_option maxRecDepth 65536 in
set_option maxHeartbeats 40000000 in
theorem rm1 (l : Launch) (Z : State) (a0 : Array Value) (hw : ∀ d ∈ tables_1, d.before a0 Z = true) (ws : List Jvm.Cond) (u : Nat → Addr) (q0 : Int64) (B : own_Base Z u) (h0 : Heap) (n0 : Nat) (O : Old Z n0 h0) :
    MetFree l (⟨"com/example/trailwire/trailwire/status/StatusCode", "forHttp2ErrorCode", "(J)Lcom/example/trailwire/trailwire/status/StatusCode;"⟩ : MethodName) (head1 (Jvm.Cond.code (⟨"com/example/trailwire/trailwire/status/StatusCode", "forHttp2ErrorCode", "(J)Lcom/example/trailwire/trailwire/status/StatusCode;"⟩ : MethodName) prog_23_method_10_code 3 (some (.object "com/example/trailwire/trailwire/status/StatusCode")) :: ws) ({ frames := 0, cells := 0, slots := 0, locals := 0 } : Room)) (fun a U => a = #[(.long q0)] ∧ Z.Warmed39 U.vm ∧ U.heap = h0) (fun _ _ _ _ _ => True) (fun _ U o U' => ∃ v L, o = .returned v ∧ own_Q1 Z u q0 h0 n0 v U'.heap L ∧ FrameEnd U o U' L ({ frames := 0, cells := 0, slots := 0, locals := 0 } : Room).cells ({ frames := 0, cells := 0, slots := 0, locals := 0 } : Room).slots) := by
  refine MetFree.of_bodySF (plainFor_of_name own_pn_1) hisR ?_
  intro p e s m args below meth c s₁ Bd hml0 hP hK
  obtain ⟨rfl, hZ, hh⟩ := hP
  have hx := Bd.exec
  have hby := Bd.bytes
  have hml : c.maxLocals = 3 := hml0
  have hown : s.vm.findClass "com/example/trailwire/trailwire/status/StatusCode" = some m.cls := findClass_of_methodNamed Bd.named
  have hnm := (name_of_methodNamed Bd.named Bd.method).1
  have X0 : Stand p l e ({ frames := 0, cells := 0, slots := 0, locals := 0 } : Room) s m #[(.long q0)] below meth c s₁ [] 0 0 := Stand.of_body Bd
  have e0 : s₁.heap = h0 := by rw [← hh, Bd.state]; rfl
  have N0 := Fr.nil n0
  have K0 := Keep.refl h0 []
  have Z0 : n0 ≤ h0.size := O.1 ▸ O.2.1
  have pre0 : ∀ t, Steps p.tables e below (s₁.setTop (mkF m 0 #[.val (.long q0), .second, .unset] [])) t → Steps p.tables e below (s₁.setTop (entryFrame m #[(.long q0)] 3)) t := fun t k => castTop (own_ef_1 m q0) k
  have pre27 : ∀ t, Steps p.tables e below (s₁.setTop (mkF m 5 #[.val (.long q0), .second, .unset] [(.int (lcmpW q0 (7 : Int64)))])) t → Steps p.tables e below (s₁.setTop (entryFrame m #[(.long q0)] 3)) t := fun t kt => pre0 t (by
    show Steps p.tables e below (s₁.setTop (mkF m 0 #[.val (.long q0), .second, .unset] [])) _
    refine XS.lloadN X0.here hx rfl (hb hby d1_0) rfl ?_
    show Steps p.tables e below (s₁.setTop (mkF m 1 #[.val (.long q0), .second, .unset] [(.long q0)])) _
    refine X0.ldc2Long hx hown (mvT hZ (hw _ (List.mem_of_getElem? (i := 4) rfl))) (g := (mkF m 1 #[.val (.long q0), .second, .unset] [(.long q0)])) rfl (hb hby d1_1) _ ?_
    show Steps p.tables e below (s₁.setTop (mkF m 4 #[.val (.long q0), .second, .unset] [(.long (7 : Int64)), (.long q0)])) _
    refine XS.lcmp X0.here hx rfl (hb hby d1_4) rfl ?_
    exact kt)
  by_cases hc28 : q0 = (7 : Int64)
  · --
    obtain ⟨T29, X29, e29, st29⟩ := getS2 X0 hx hZ hown (host := "") (Or.inl (hw _ (List.mem_of_getElem? (i := 19) rfl))) Via.refl e0 (B.2.2.2.2.1.ext O.2) (g := (mkF m 8 #[.val (.long q0), .second, .unset] [])) rfl (hb hby d1_8)
    obtain ⟨fs, hr, hrun, hended, hW, hsame⟩ := X29.leave (v := some (.ref (u 2))) (fun h => by rw [Bd.returns] at h; cases h)
    refine ⟨_, _, pre27 _ ?_, hrun, hended, _, _, rfl, ?_, ⟨_, rfl⟩, hW, hsame.mono (by decide) (by decide)⟩
    · show Steps p.tables e below (s₁.setTop (mkF m 5 #[.val (.long q0), .second, .unset] [(.int (lcmpW q0 (7 : Int64)))])) _
      refine XS.ifNo X0.here hx rfl (hb hby d1_5) rfl ((if0 _ _).trans (teq ((lw_eq q0 (7 : Int64)).mpr hc28)).2) ?_
      show Steps p.tables e below (s₁.setTop (mkF m 8 #[.val (.long q0), .second, .unset] [])) _
      refine st29 _ ?_
      show Steps p.tables e below (T29.setTop (mkF m 11 #[.val (.long q0), .second, .unset] [(.ref (u 2))])) _
      refine XS.astoreN X29.here hx rfl (hb hby d1_11) rfl rfl (l' := #[.val (.long q0), .second, .val (.ref (u 2))]) rfl ?_
      show Steps p.tables e below (T29.setTop (mkF m 12 #[.val (.long q0), .second, .val (.ref (u 2))] [])) _
      refine XS.goto X29.here hx rfl (pc0 := 12) (pc' := 64) rfl (hb hby d1_12) (by decide) (by decide) ?_
      show Steps p.tables e below (T29.setTop (mkF m 64 #[.val (.long q0), .second, .val (.ref (u 2))] [])) _
      refine XS.aloadN X29.here hx rfl (hb hby d1_64) rfl rfl ?_
      show Steps p.tables e below (T29.setTop (mkF m 65 #[.val (.long q0), .second, .val (.ref (u 2))] [(.ref (u 2))])) _
      exact retOut X29 hx Bd.returns (own_narref rfl rfl) (Or.inr (Or.inr (Or.inr (Or.inr ⟨rfl, rfl, rfl⟩)))) (hb hby d1_65) hr
    · show own_Q1 Z u q0 h0 n0 _ T29.heap _
      rw [e29]
      exact ⟨(by unfold own_r1; rw [if_pos hc28]), N0, rfl⟩
  · --
    have pre31 : ∀ t, Steps p.tables e below (s₁.setTop (mkF m 20 #[.val (.long q0), .second, .unset] [(.int (lcmpW q0 (8 : Int64)))])) t → Steps p.tables e below (s₁.setTop (entryFrame m #[(.long q0)] 3)) t := fun t kt => pre27 t (by
      show Steps p.tables e below (s₁.setTop (mkF m 5 #[.val (.long q0), .second, .unset] [(.int (lcmpW q0 (7 : Int64)))])) _
      refine XS.ifYes X0.here hx rfl (pc0 := 5) (pc' := 15) rfl (hb hby d1_5) rfl ((if0 _ _).trans (feq (fun q => hc28 ((lw_eq q0 (7 : Int64)).mp q))).2) (by decide) (by decide) ?_
      show Steps p.tables e below (s₁.setTop (mkF m 15 #[.val (.long q0), .second, .unset] [])) _
      refine XS.lloadN X0.here hx rfl (hb hby d1_15) rfl ?_
      show Steps p.tables e below (s₁.setTop (mkF m 16 #[.val (.long q0), .second, .unset] [(.long q0)])) _
      refine X0.ldc2Long hx hown (mvT hZ (hw _ (List.mem_of_getElem? (i := 5) rfl))) (g := (mkF m 16 #[.val (.long q0), .second, .unset] [(.long q0)])) rfl (hb hby d1_16) _ ?_
      show Steps p.tables e below (s₁.setTop (mkF m 19 #[.val (.long q0), .second, .unset] [(.long (8 : Int64)), (.long q0)])) _
      refine XS.lcmp X0.here hx rfl (hb hby d1_19) rfl ?_
      exact kt)
    by_cases hc32 : q0 = (8 : Int64)
    · --
      obtain ⟨T33, X33, e33, st33⟩ := getS2 X0 hx hZ hown (host := "") (Or.inl (hw _ (List.mem_of_getElem? (i := 25) rfl))) Via.refl e0 (B.2.2.2.2.2.2.2.2.1.ext O.2) (g := (mkF m 23 #[.val (.long q0), .second, .unset] [])) rfl (hb hby d1_23)
      obtain ⟨fs, hr, hrun, hended, hW, hsame⟩ := X33.leave (v := some (.ref (u 4))) (fun h => by rw [Bd.returns] at h; cases h)
      refine ⟨_, _, pre31 _ ?_, hrun, hended, _, _, rfl, ?_, ⟨_, rfl⟩, hW, hsame.mono (by decide) (by decide)⟩
      · show Steps p.tables e below (s₁.setTop (mkF m 20 #[.val (.long q0), .second, .unset] [(.int (lcmpW q0 (8 : Int64)))])) _
        refine XS.ifNo X0.here hx rfl (hb hby d1_20) rfl ((if0 _ _).trans (teq ((lw_eq q0 (8 : Int64)).mpr hc32)).2) ?_
        show Steps p.tables e below (s₁.setTop (mkF m 23 #[.val (.long q0), .second, .unset] [])) _
        refine st33 _ ?_
        show Steps p.tables e below (T33.setTop (mkF m 26 #[.val (.long q0), .second, .unset] [(.ref (u 4))])) _
        refine XS.astoreN X33.here hx rfl (hb hby d1_26) rfl rfl (l' := #[.val (.long q0), .second, .val (.ref (u 4))]) rfl ?_
        show Steps p.tables e below (T33.setTop (mkF m 27 #[.val (.long q0), .second, .val (.ref (u 4))] [])) _
        refine XS.goto X33.here hx rfl (pc0 := 27) (pc' := 64) rfl (hb hby d1_27) (by decide) (by decide) ?_
        show Steps p.tables e below (T33.setTop (mkF m 64 #[.val (.long q0), .second, .val (.ref (u 4))] [])) _
        refine XS.aloadN X33.here hx rfl (hb hby d1_64) rfl rfl ?_
        show Steps p.tables e below (T33.setTop (mkF m 65 #[.val (.long q0), .second, .val (.ref (u 4))] [(.ref (u 4))])) _
        exact retOut X33 hx Bd.returns (own_narref rfl rfl) (Or.inr (Or.inr (Or.inr (Or.inr ⟨rfl, rfl, rfl⟩)))) (hb hby d1_65) hr
      · show own_Q1 Z u q0 h0 n0 _ T33.heap _
        rw [e33]
        exact ⟨(by unfold own_r1; rw [if_neg hc28, if_pos hc32]), N0, rfl⟩
    · --
      have pre35 : ∀ t, Steps p.tables e below (s₁.setTop (mkF m 35 #[.val (.long q0), .second, .unset] [(.int (lcmpW q0 (11 : Int64)))])) t → Steps p.tables e below (s₁.setTop (entryFrame m #[(.long q0)] 3)) t := fun t kt => pre31 t (by
        show Steps p.tables e below (s₁.setTop (mkF m 20 #[.val (.long q0), .second, .unset] [(.int (lcmpW q0 (8 : Int64)))])) _
        refine XS.ifYes X0.here hx rfl (pc0 := 20) (pc' := 30) rfl (hb hby d1_20) rfl ((if0 _ _).trans (feq (fun q => hc32 ((lw_eq q0 (8 : Int64)).mp q))).2) (by decide) (by decide) ?_
        show Steps p.tables e below (s₁.setTop (mkF m 30 #[.val (.long q0), .second, .unset] [])) _
        refine XS.lloadN X0.here hx rfl (hb hby d1_30) rfl ?_
        show Steps p.tables e below (s₁.setTop (mkF m 31 #[.val (.long q0), .second, .unset] [(.long q0)])) _
        refine X0.ldc2Long hx hown (mvT hZ (hw _ (List.mem_of_getElem? (i := 6) rfl))) (g := (mkF m 31 #[.val (.long q0), .second, .unset] [(.long q0)])) rfl (hb hby d1_31) _ ?_
        show Steps p.tables e below (s₁.setTop (mkF m 34 #[.val (.long q0), .second, .unset] [(.long (11 : Int64)), (.long q0)])) _
        refine XS.lcmp X0.here hx rfl (hb hby d1_34) rfl ?_
        exact kt)
      by_cases hc36 : q0 = (11 : Int64)
      · --
        obtain ⟨T37, X37, e37, st37⟩ := getS2 X0 hx hZ hown (host := "") (Or.inl (hw _ (List.mem_of_getElem? (i := 22) rfl))) Via.refl e0 (B.2.2.2.2.2.2.1.ext O.2) (g := (mkF m 38 #[.val (.long q0), .second, .unset] [])) rfl (hb hby d1_38)
        obtain ⟨fs, hr, hrun, hended, hW, hsame⟩ := X37.leave (v := some (.ref (u 3))) (fun h => by rw [Bd.returns] at h; cases h)
        refine ⟨_, _, pre35 _ ?_, hrun, hended, _, _, rfl, ?_, ⟨_, rfl⟩, hW, hsame.mono (by decide) (by decide)⟩
        · show Steps p.tables e below (s₁.setTop (mkF m 35 #[.val (.long q0), .second, .unset] [(.int (lcmpW q0 (11 : Int64)))])) _
          refine XS.ifNo X0.here hx rfl (hb hby d1_35) rfl ((if0 _ _).trans (teq ((lw_eq q0 (11 : Int64)).mpr hc36)).2) ?_
          show Steps p.tables e below (s₁.setTop (mkF m 38 #[.val (.long q0), .second, .unset] [])) _
          refine st37 _ ?_
          show Steps p.tables e below (T37.setTop (mkF m 41 #[.val (.long q0), .second, .unset] [(.ref (u 3))])) _
          refine XS.astoreN X37.here hx rfl (hb hby d1_41) rfl rfl (l' := #[.val (.long q0), .second, .val (.ref (u 3))]) rfl ?_
          show Steps p.tables e below (T37.setTop (mkF m 42 #[.val (.long q0), .second, .val (.ref (u 3))] [])) _
          refine XS.goto X37.here hx rfl (pc0 := 42) (pc' := 64) rfl (hb hby d1_42) (by decide) (by decide) ?_
          show Steps p.tables e below (T37.setTop (mkF m 64 #[.val (.long q0), .second, .val (.ref (u 3))] [])) _
          refine XS.aloadN X37.here hx rfl (hb hby d1_64) rfl rfl ?_
          show Steps p.tables e below (T37.setTop (mkF m 65 #[.val (.long q0), .second, .val (.ref (u 3))] [(.ref (u 3))])) _
          exact retOut X37 hx Bd.returns (own_narref rfl rfl) (Or.inr (Or.inr (Or.inr (Or.inr ⟨rfl, rfl, rfl⟩)))) (hb hby d1_65) hr
        · show own_Q1 Z u q0 h0 n0 _ T37.heap _
          rw [e37]
          exact ⟨(by unfold own_r1; rw [if_neg hc28, if_neg hc32, if_pos hc36]), N0, rfl⟩
      · --
        have pre39 : ∀ t, Steps p.tables e below (s₁.setTop (mkF m 50 #[.val (.long q0), .second, .unset] [(.int (lcmpW q0 (12 : Int64)))])) t → Steps p.tables e below (s₁.setTop (entryFrame m #[(.long q0)] 3)) t := fun t kt => pre35 t (by
          show Steps p.tables e below (s₁.setTop (mkF m 35 #[.val (.long q0), .second, .unset] [(.int (lcmpW q0 (11 : Int64)))])) _
          refine XS.ifYes X0.here hx rfl (pc0 := 35) (pc' := 45) rfl (hb hby d1_35) rfl ((if0 _ _).trans (feq (fun q => hc36 ((lw_eq q0 (11 : Int64)).mp q))).2) (by decide) (by decide) ?_
          show Steps p.tables e below (s₁.setTop (mkF m 45 #[.val (.long q0), .second, .unset] [])) _
          refine XS.lloadN X0.here hx rfl (hb hby d1_45) rfl ?_
          show Steps p.tables e below (s₁.setTop (mkF m 46 #[.val (.long q0), .second, .unset] [(.long q0)])) _
          refine X0.ldc2Long hx hown (mvT hZ (hw _ (List.mem_of_getElem? (i := 7) rfl))) (g := (mkF m 46 #[.val (.long q0), .second, .unset] [(.long q0)])) rfl (hb hby d1_46) _ ?_
          show Steps p.tables e below (s₁.setTop (mkF m 49 #[.val (.long q0), .second, .unset] [(.long (12 : Int64)), (.long q0)])) _
          refine XS.lcmp X0.here hx rfl (hb hby d1_49) rfl ?_
          exact kt)
        by_cases hc40 : q0 = (12 : Int64)
        · --
          obtain ⟨T41, X41, e41, st41⟩ := getS2 X0 hx hZ hown (host := "") (Or.inl (hw _ (List.mem_of_getElem? (i := 16) rfl))) Via.refl e0 (B.2.2.1.ext O.2) (g := (mkF m 53 #[.val (.long q0), .second, .unset] [])) rfl (hb hby d1_53)
          obtain ⟨fs, hr, hrun, hended, hW, hsame⟩ := X41.leave (v := some (.ref (u 1))) (fun h => by rw [Bd.returns] at h; cases h)
          refine ⟨_, _, pre39 _ ?_, hrun, hended, _, _, rfl, ?_, ⟨_, rfl⟩, hW, hsame.mono (by decide) (by decide)⟩
          · show Steps p.tables e below (s₁.setTop (mkF m 50 #[.val (.long q0), .second, .unset] [(.int (lcmpW q0 (12 : Int64)))])) _
            refine XS.ifNo X0.here hx rfl (hb hby d1_50) rfl ((if0 _ _).trans (teq ((lw_eq q0 (12 : Int64)).mpr hc40)).2) ?_
            show Steps p.tables e below (s₁.setTop (mkF m 53 #[.val (.long q0), .second, .unset] [])) _
            refine st41 _ ?_
            show Steps p.tables e below (T41.setTop (mkF m 56 #[.val (.long q0), .second, .unset] [(.ref (u 1))])) _
            refine XS.astoreN X41.here hx rfl (hb hby d1_56) rfl rfl (l' := #[.val (.long q0), .second, .val (.ref (u 1))]) rfl ?_
            show Steps p.tables e below (T41.setTop (mkF m 57 #[.val (.long q0), .second, .val (.ref (u 1))] [])) _
            refine XS.goto X41.here hx rfl (pc0 := 57) (pc' := 64) rfl (hb hby d1_57) (by decide) (by decide) ?_
            show Steps p.tables e below (T41.setTop (mkF m 64 #[.val (.long q0), .second, .val (.ref (u 1))] [])) _
            refine XS.aloadN X41.here hx rfl (hb hby d1_64) rfl rfl ?_
            show Steps p.tables e below (T41.setTop (mkF m 65 #[.val (.long q0), .second, .val (.ref (u 1))] [(.ref (u 1))])) _
            exact retOut X41 hx Bd.returns (own_narref rfl rfl) (Or.inr (Or.inr (Or.inr (Or.inr ⟨rfl, rfl, rfl⟩)))) (hb hby d1_65) hr
          · show own_Q1 Z u q0 h0 n0 _ T41.heap _
            rw [e41]
            exact ⟨(by unfold own_r1; rw [if_neg hc28, if_neg hc32, if_neg hc36, if_pos hc40]), N0, rfl⟩
        · --
          obtain ⟨T43, X43, e43, st43⟩ := getS2 X0 hx hZ hown (host := "") (Or.inl (hw _ (List.mem_of_getElem? (i := 8) rfl))) Via.refl e0 (B.1.ext O.2) (g := (mkF m 60 #[.val (.long q0), .second, .unset] [])) rfl (hb hby d1_60)
          obtain ⟨fs, hr, hrun, hended, hW, hsame⟩ := X43.leave (v := some (.ref (u 0))) (fun h => by rw [Bd.returns] at h; cases h)
          refine ⟨_, _, pre39 _ ?_, hrun, hended, _, _, rfl, ?_, ⟨_, rfl⟩, hW, hsame.mono (by decide) (by decide)⟩
          · show Steps p.tables e below (s₁.setTop (mkF m 50 #[.val (.long q0), .second, .unset] [(.int (lcmpW q0 (12 : Int64)))])) _
            refine XS.ifYes X0.here hx rfl (pc0 := 50) (pc' := 60) rfl (hb hby d1_50) rfl ((if0 _ _).trans (feq (fun q => hc40 ((lw_eq q0 (12 : Int64)).mp q))).2) (by decide) (by decide) ?_
            show Steps p.tables e below (s₁.setTop (mkF m 60 #[.val (.long q0), .second, .unset] [])) _
            refine st43 _ ?_
            show Steps p.tables e below (T43.setTop (mkF m 63 #[.val (.long q0), .second, .unset] [(.ref (u 0))])) _
            refine XS.astoreN X43.here hx rfl (hb hby d1_63) rfl rfl (l' := #[.val (.long q0), .second, .val (.ref (u 0))]) rfl ?_
            show Steps p.tables e below (T43.setTop (mkF m 64 #[.val (.long q0), .second, .val (.ref (u 0))] [])) _
            refine XS.aloadN X43.here hx rfl (hb hby d1_64) rfl rfl ?_
            show Steps p.tables e below (T43.setTop (mkF m 65 #[.val (.long q0), .second, .val (.ref (u 0))] [(.ref (u 0))])) _
            exact retOut X43 hx Bd.returns (own_narref rfl rfl) (Or.inr (Or.inr (Or.inr (Or.inr ⟨rfl, rfl, rfl⟩)))) (hb hby d1_65) hr
          · show own_Q1 Z u q0 h0 n0 _ T43.heap _
            rw [e43]
            exact ⟨(by unfold own_r1; rw [if_neg hc28, if_neg hc32, if_neg hc36, if_neg hc40]), N0, rfl⟩
theorem own_l2i {q : Int64} {c : Int32} {d : Int64} (h1 : ¬ q < 0) (h2 : ¬ (15 : Int64) < q) (hc : c.toInt = d.toInt) (hd : 0 ≤ d.toInt ∧ d.toInt ≤ 15) : (q.toInt32 = c) ↔ (q = d) := by
  have e := c_l2i q
  have r := rng32 q.toInt32
  rw [Int64.lt_iff_toInt_lt] at h1 h2
  have z0 : (0 : Int64).toInt = 0 := rfl
  have z1 : (15 : Int64).toInt = 15 := rfl
  rw [← Int32.toInt_inj, ← Int64.toInt_inj]
  omega
theorem own_out {q d : Int64} (h : q < 0 ∨ (15 : Int64) < q) (hd : 0 ≤ d.toInt ∧ d.toInt ≤ 15) : ¬ (q = d) := by
  rw [← Int64.toInt_inj]
  have z0 : (0 : Int64).toInt = 0 := rfl
  have z1 : (15 : Int64).toInt = 15 := rfl
  rw [Int64.lt_iff_toInt_lt, Int64.lt_iff_toInt_lt] at h
  omega
theorem own_same (u : Nat → Addr) (q : Int64) : own_r1 u q = own_r2 u q := by
  unfold own_r1 own_r2
  by_cases h1 : q < (0 : Int64)
  · rw [if_pos h1, if_neg (own_out (Or.inl h1) (by decide)), if_neg (own_out (Or.inl h1) (by decide)), if_neg (own_out (Or.inl h1) (by decide)), if_neg (own_out (Or.inl h1) (by decide))]
  · rw [if_neg h1]
    by_cases h2 : (15 : Int64) < q
    · rw [if_pos h2, if_neg (own_out (Or.inr h2) (by decide)), if_neg (own_out (Or.inr h2) (by decide)), if_neg (own_out (Or.inr h2) (by decide)), if_neg (own_out (Or.inr h2) (by decide))]
    · rw [if_neg h2]
      simp only [own_l2i (c := 7) (d := 7) h1 h2 rfl (by decide), own_l2i (c := 8) (d := 8) h1 h2 rfl (by decide), own_l2i (c := 11) (d := 11) h1 h2 rfl (by decide), own_l2i (c := 12) (d := 12) h1 h2 rfl (by decide)]
theorem own_pn_0 : plainName "com/example/trailwire/trailwire/status/StatusCodeForHttp2ErrorCodePinLaw" = true := by first | (simp [plainName, overriddenIn]; done) | decide +kernel
theorem own_ef_0 (m : MethodId) (x0 : Int64) (x1 : Int32) : entryFrame m #[(.long x0), (.int x1)] maxLocals = mkF m 0 #[.val (.long x0), .second, .val (.int x1), .unset, .unset, .unset, .unset, .unset, .unset] [] := by first | (simp [entryFrame, mkF, argsToLocals, Value.category, maxLocals]; done) | rfl
def own_Q0 (Z : State) (u : Nat → Addr) (q0 : Int64) (p1 : Int32) (h0 : Heap) (n0 : Nat) (v : Option Value) (h : Heap) (L : List Loc) : Prop := v = some (.int (1 : Int32)) ∧ Fr n0 L ∧ True
set_option maxRecDepth 65536 in
set_option maxHeartbeats 40000000 in
theorem rm0 (l : Launch) (Z : State) (a0 : Array Value) (hw : ∀ d ∈ tables_1, d.before a0 Z = true) (ws : List Jvm.Cond) (u : Nat → Addr) (q0 : Int64) (p1 : Int32) (B : own_Base Z u) (h0 : Heap) (n0 : Nat) (O : Old Z n0 h0) :
    MetFree l x (head1 (Jvm.Cond.code x code maxLocals ret :: ws) room_1) (fun a U => a = #[(.long q0), (.int p1)] ∧ Z.Warmed39 U.vm ∧ U.heap = h0) (fun _ _ _ _ _ => True) (fun _ U o U' => ∃ v L, o = .returned v ∧ own_Q0 Z u q0 p1 h0 n0 v U'.heap L ∧ FrameEnd U o U' L room_1.cells room_1.slots) := by
  refine MetFree.of_bodySF (plainFor_of_name own_pn_0) hisR ?_
  intro p e s m args below meth c s₁ Bd hml0 hP hK
  obtain ⟨rfl, hZ, hh⟩ := hP
  have hx := Bd.exec
  have hby := Bd.bytes
  have hml : c.maxLocals = 9 := hml0
  have hown : s.vm.findClass "com/example/trailwire/trailwire/status/StatusCodeForHttp2ErrorCodePinLaw" = some m.cls := findClass_of_methodNamed Bd.named
  have hnm := (name_of_methodNamed Bd.named Bd.method).1
  have X0 : Stand p l e room_1 s m #[(.long q0), (.int p1)] below meth c s₁ [] 0 0 := Stand.of_body Bd
  have e0 : s₁.heap = h0 := by rw [← hh, Bd.state]; rfl
  have N0 := Fr.nil n0
  have K0 := Keep.refl h0 []
  have Z0 : n0 ≤ h0.size := O.1 ▸ O.2.1
  have pre0 : ∀ t, Steps p.tables e below (s₁.setTop (mkF m 0 #[.val (.long q0), .second, .val (.int p1), .unset, .unset, .unset, .unset, .unset, .unset] [])) t → Steps p.tables e below (s₁.setTop (entryFrame m #[(.long q0), (.int p1)] maxLocals)) t := fun t k => castTop (own_ef_0 m q0 p1) k
  have pre45 : ∀ t, Steps p.tables e below (s₁.setTop (mkF m 14 #[.val (.long q0), .second, .val (.int p1), .val (.int (p1 &&& (3 : Int32))), .val (.long ((((p1.toUInt32 >>> ((2 : Int32) &&& 31).toUInt32).toInt32) &&& (15 : Int32)).toInt64)), .second, .unset, .unset, .unset] [(.int (p1 &&& (3 : Int32)))])) t → Steps p.tables e below (s₁.setTop (entryFrame m #[(.long q0), (.int p1)] maxLocals)) t := fun t kt => pre0 t (by
    show Steps p.tables e below (s₁.setTop (mkF m 0 #[.val (.long q0), .second, .val (.int p1), .unset, .unset, .unset, .unset, .unset, .unset] [])) _
    refine XS.iloadN X0.here hx rfl (hb hby at_0) rfl ?_
    show Steps p.tables e below (s₁.setTop (mkF m 1 #[.val (.long q0), .second, .val (.int p1), .unset, .unset, .unset, .unset, .unset, .unset] [(.int p1)])) _
    refine XS.iconst X0.here hx rfl (hb hby at_1) ?_
    show Steps p.tables e below (s₁.setTop (mkF m 2 #[.val (.long q0), .second, .val (.int p1), .unset, .unset, .unset, .unset, .unset, .unset] [(.int (3 : Int32)), (.int p1)])) _
    refine XS.iand X0.here hx rfl (hb hby at_2) rfl ?_
    show Steps p.tables e below (s₁.setTop (mkF m 3 #[.val (.long q0), .second, .val (.int p1), .unset, .unset, .unset, .unset, .unset, .unset] [(.int (p1 &&& (3 : Int32)))])) _
    refine XS.istoreN X0.here hx rfl (hb hby at_3) rfl (l' := #[.val (.long q0), .second, .val (.int p1), .val (.int (p1 &&& (3 : Int32))), .unset, .unset, .unset, .unset, .unset]) rfl ?_
    show Steps p.tables e below (s₁.setTop (mkF m 4 #[.val (.long q0), .second, .val (.int p1), .val (.int (p1 &&& (3 : Int32))), .unset, .unset, .unset, .unset, .unset] [])) _
    refine XS.iloadN X0.here hx rfl (hb hby at_4) rfl ?_
    show Steps p.tables e below (s₁.setTop (mkF m 5 #[.val (.long q0), .second, .val (.int p1), .val (.int (p1 &&& (3 : Int32))), .unset, .unset, .unset, .unset, .unset] [(.int p1)])) _
    refine XS.iconst X0.here hx rfl (hb hby at_5) ?_
    show Steps p.tables e below (s₁.setTop (mkF m 6 #[.val (.long q0), .second, .val (.int p1), .val (.int (p1 &&& (3 : Int32))), .unset, .unset, .unset, .unset, .unset] [(.int (2 : Int32)), (.int p1)])) _
    refine XS.iushr X0.here hx rfl (hb hby at_6) rfl ?_
    show Steps p.tables e below (s₁.setTop (mkF m 7 #[.val (.long q0), .second, .val (.int p1), .val (.int (p1 &&& (3 : Int32))), .unset, .unset, .unset, .unset, .unset] [(.int ((p1.toUInt32 >>> ((2 : Int32) &&& 31).toUInt32).toInt32))])) _
    refine XS.bipush X0.here hx rfl (hb hby at_7) ?_
    show Steps p.tables e below (s₁.setTop (mkF m 9 #[.val (.long q0), .second, .val (.int p1), .val (.int (p1 &&& (3 : Int32))), .unset, .unset, .unset, .unset, .unset] [(.int (15 : Int32)), (.int ((p1.toUInt32 >>> ((2 : Int32) &&& 31).toUInt32).toInt32))])) _
    refine XS.iand X0.here hx rfl (hb hby at_9) rfl ?_
    show Steps p.tables e below (s₁.setTop (mkF m 10 #[.val (.long q0), .second, .val (.int p1), .val (.int (p1 &&& (3 : Int32))), .unset, .unset, .unset, .unset, .unset] [(.int (((p1.toUInt32 >>> ((2 : Int32) &&& 31).toUInt32).toInt32) &&& (15 : Int32)))])) _
    refine XS.i2l X0.here hx rfl (hb hby at_10) rfl ?_
    show Steps p.tables e below (s₁.setTop (mkF m 11 #[.val (.long q0), .second, .val (.int p1), .val (.int (p1 &&& (3 : Int32))), .unset, .unset, .unset, .unset, .unset] [(.long ((((p1.toUInt32 >>> ((2 : Int32) &&& 31).toUInt32).toInt32) &&& (15 : Int32)).toInt64))])) _
    refine XS.lstore X0.here hx rfl (hb hby at_11) rfl (l' := #[.val (.long q0), .second, .val (.int p1), .val (.int (p1 &&& (3 : Int32))), .val (.long ((((p1.toUInt32 >>> ((2 : Int32) &&& 31).toUInt32).toInt32) &&& (15 : Int32)).toInt64)), .second, .unset, .unset, .unset]) rfl ?_
    show Steps p.tables e below (s₁.setTop (mkF m 13 #[.val (.long q0), .second, .val (.int p1), .val (.int (p1 &&& (3 : Int32))), .val (.long ((((p1.toUInt32 >>> ((2 : Int32) &&& 31).toUInt32).toInt32) &&& (15 : Int32)).toInt64)), .second, .unset, .unset, .unset] [])) _
    refine XS.iloadN X0.here hx rfl (hb hby at_13) rfl ?_
    exact kt)
  by_cases hc46 : (p1 &&& (3 : Int32)) = (0 : Int32)
  · --
    have pre47 : ∀ t, Steps p.tables e below (s₁.setTop (mkF m 61 #[.val (.long q0), .second, .val (.int p1), .val (.int (p1 &&& (3 : Int32))), .val (.long ((((p1.toUInt32 >>> ((2 : Int32) &&& 31).toUInt32).toInt32) &&& (15 : Int32)).toInt64)), .second, .val (.long q0), .second, .unset] [(.long q0)])) t → Steps p.tables e below (s₁.setTop (entryFrame m #[(.long q0), (.int p1)] maxLocals)) t := fun t kt => pre45 t (by
      show Steps p.tables e below (s₁.setTop (mkF m 14 #[.val (.long q0), .second, .val (.int p1), .val (.int (p1 &&& (3 : Int32))), .val (.long ((((p1.toUInt32 >>> ((2 : Int32) &&& 31).toUInt32).toInt32) &&& (15 : Int32)).toInt64)), .second, .unset, .unset, .unset] [(.int (p1 &&& (3 : Int32)))])) _
      refine XS.ifNo X0.here hx rfl (hb hby at_14) rfl ((if0 _ _).trans (teq hc46).2) ?_
      show Steps p.tables e below (s₁.setTop (mkF m 17 #[.val (.long q0), .second, .val (.int p1), .val (.int (p1 &&& (3 : Int32))), .val (.long ((((p1.toUInt32 >>> ((2 : Int32) &&& 31).toUInt32).toInt32) &&& (15 : Int32)).toInt64)), .second, .unset, .unset, .unset] [])) _
      refine XS.lloadN X0.here hx rfl (hb hby at_17) rfl ?_
      show Steps p.tables e below (s₁.setTop (mkF m 18 #[.val (.long q0), .second, .val (.int p1), .val (.int (p1 &&& (3 : Int32))), .val (.long ((((p1.toUInt32 >>> ((2 : Int32) &&& 31).toUInt32).toInt32) &&& (15 : Int32)).toInt64)), .second, .unset, .unset, .unset] [(.long q0)])) _
      refine XS.lstore X0.here hx rfl (hb hby at_18) rfl (l' := #[.val (.long q0), .second, .val (.int p1), .val (.int (p1 &&& (3 : Int32))), .val (.long ((((p1.toUInt32 >>> ((2 : Int32) &&& 31).toUInt32).toInt32) &&& (15 : Int32)).toInt64)), .second, .val (.long q0), .second, .unset]) rfl ?_
      show Steps p.tables e below (s₁.setTop (mkF m 20 #[.val (.long q0), .second, .val (.int p1), .val (.int (p1 &&& (3 : Int32))), .val (.long ((((p1.toUInt32 >>> ((2 : Int32) &&& 31).toUInt32).toInt32) &&& (15 : Int32)).toInt64)), .second, .val (.long q0), .second, .unset] [])) _
      refine XS.goto X0.here hx rfl (pc0 := 20) (pc' := 59) rfl (hb hby at_20) (by decide) (by decide) ?_
      show Steps p.tables e below (s₁.setTop (mkF m 59 #[.val (.long q0), .second, .val (.int p1), .val (.int (p1 &&& (3 : Int32))), .val (.long ((((p1.toUInt32 >>> ((2 : Int32) &&& 31).toUInt32).toInt32) &&& (15 : Int32)).toInt64)), .second, .val (.long q0), .second, .unset] [])) _
      refine XS.lload X0.here hx rfl (hb hby at_59) rfl ?_
      exact kt)
    obtain ⟨vr48, _, ⟨T48, L48, k48, n48⟩, -, X48, ⟨Lc48, hQ48, l48, y48, z48⟩, st48⟩ := Jvm.LawKit.callS X0 hx (y := (⟨"com/example/trailwire/trailwire/status/StatusCode", "forHttp2ErrorCode", "(J)Lcom/example/trailwire/trailwire/status/StatusCode;"⟩ : MethodName)) hown (mvT hZ (hw _ (List.mem_of_getElem? (i := 0) rfl))) (mvT hZ (hw _ (List.mem_of_getElem? (i := 1) rfl))) (mvT hZ (hw _ (List.mem_of_getElem? (i := 2) rfl))) (mvT hZ (hw _ (List.mem_of_getElem? (i := 3) rfl))) (by decide) (backOf (W := 0) (rm1 l Z a0 hw [] u q0 B h0 n0 O ) hZ (hw _ (List.mem_of_getElem? (i := 3) rfl)) (hw _ (List.mem_of_getElem? (i := 2) rfl)) (by decide) (by decide)) (g := (mkF m 61 #[.val (.long q0), .second, .val (.int p1), .val (.int (p1 &&& (3 : Int32))), .val (.long ((((p1.toUInt32 >>> ((2 : Int32) &&& 31).toUInt32).toInt32) &&& (15 : Int32)).toInt64)), .second, .val (.long q0), .second, .unset] [(.long q0)])) rfl (by rw [hml]; rfl) (argsL := [(.long q0)]) (rest := []) (lenOf own_pd0 rfl) rfl (by show 2 * 0 + _ ≤ _; exact Nat.le_of_eq rfl) (hb hby at_61) (fun _ _ => ⟨rfl, e0, (by decide : 0 + 0 ≤ _), (by decide : 0 + 0 ≤ _)⟩)
    dsimp only [Pt.U, Pt.locs, Pt.cells, Pt.slots] at X48 l48 y48 z48 st48 hQ48
    subst l48 y48 z48
    obtain ⟨rfl, N48q, e48⟩ := hQ48
    have N48 := Fr.app N0 N48q
    have pre49 : ∀ t, Steps p.tables e below (T48.setTop (mkF m 70 #[.val (.long q0), .second, .val (.int p1), .val (.int (p1 &&& (3 : Int32))), .val (.long ((((p1.toUInt32 >>> ((2 : Int32) &&& 31).toUInt32).toInt32) &&& (15 : Int32)).toInt64)), .second, .val (.long q0), .second, .val (.ref (own_r1 u q0))] [(.long q0), (.ref (own_r1 u q0))])) t → Steps p.tables e below (s₁.setTop (entryFrame m #[(.long q0), (.int p1)] maxLocals)) t := fun t kt => pre47 t (by
      show Steps p.tables e below (s₁.setTop (mkF m 61 #[.val (.long q0), .second, .val (.int p1), .val (.int (p1 &&& (3 : Int32))), .val (.long ((((p1.toUInt32 >>> ((2 : Int32) &&& 31).toUInt32).toInt32) &&& (15 : Int32)).toInt64)), .second, .val (.long q0), .second, .unset] [(.long q0)])) _
      refine st48 _ ?_
      show Steps p.tables e below (T48.setTop (mkF m 64 #[.val (.long q0), .second, .val (.int p1), .val (.int (p1 &&& (3 : Int32))), .val (.long ((((p1.toUInt32 >>> ((2 : Int32) &&& 31).toUInt32).toInt32) &&& (15 : Int32)).toInt64)), .second, .val (.long q0), .second, .unset] [(.ref (own_r1 u q0))])) _
      refine XS.astore X48.here hx rfl (hb hby at_64) rfl rfl (l' := #[.val (.long q0), .second, .val (.int p1), .val (.int (p1 &&& (3 : Int32))), .val (.long ((((p1.toUInt32 >>> ((2 : Int32) &&& 31).toUInt32).toInt32) &&& (15 : Int32)).toInt64)), .second, .val (.long q0), .second, .val (.ref (own_r1 u q0))]) rfl ?_
      show Steps p.tables e below (T48.setTop (mkF m 66 #[.val (.long q0), .second, .val (.int p1), .val (.int (p1 &&& (3 : Int32))), .val (.long ((((p1.toUInt32 >>> ((2 : Int32) &&& 31).toUInt32).toInt32) &&& (15 : Int32)).toInt64)), .second, .val (.long q0), .second, .val (.ref (own_r1 u q0))] [])) _
      refine XS.aload X48.here hx rfl (hb hby at_66) rfl rfl ?_
      show Steps p.tables e below (T48.setTop (mkF m 68 #[.val (.long q0), .second, .val (.int p1), .val (.int (p1 &&& (3 : Int32))), .val (.long ((((p1.toUInt32 >>> ((2 : Int32) &&& 31).toUInt32).toInt32) &&& (15 : Int32)).toInt64)), .second, .val (.long q0), .second, .val (.ref (own_r1 u q0))] [(.ref (own_r1 u q0))])) _
      refine XS.lload X48.here hx rfl (hb hby at_68) rfl ?_
      exact kt)
    obtain ⟨vr50, _, ⟨T50, L50, k50, n50⟩, -, X50, ⟨Lc50, hQ50, l50, y50, z50⟩, st50⟩ := Jvm.LawKit.callS X48 hx (y := (⟨"com/example/trailwire/trailwire/status/StatusCodeForHttp2ErrorCodePinLaw", "expected", "(J)Lcom/example/trailwire/trailwire/status/StatusCode;"⟩ : MethodName)) hown (mvT hZ (hw _ (List.mem_of_getElem? (i := 10) rfl))) (mvT hZ (hw _ (List.mem_of_getElem? (i := 11) rfl))) (mvT hZ (hw _ (List.mem_of_getElem? (i := 12) rfl))) (mvT hZ (hw _ (List.mem_of_getElem? (i := 13) rfl))) (by decide) (backOf (W := 1) (rm2 l Z a0 hw [] u q0 B h0 n0 O ) hZ (hw _ (List.mem_of_getElem? (i := 13) rfl)) (hw _ (List.mem_of_getElem? (i := 12) rfl)) (by decide) (by decide)) (g := (mkF m 70 #[.val (.long q0), .second, .val (.int p1), .val (.int (p1 &&& (3 : Int32))), .val (.long ((((p1.toUInt32 >>> ((2 : Int32) &&& 31).toUInt32).toInt32) &&& (15 : Int32)).toInt64)), .second, .val (.long q0), .second, .val (.ref (own_r1 u q0))] [(.long q0), (.ref (own_r1 u q0))])) rfl (by rw [hml]; rfl) (argsL := [(.long q0)]) (rest := [(.ref (own_r1 u q0))]) (lenOf own_pd0 rfl) rfl (by show 2 * 0 + _ ≤ _; exact Nat.le_of_eq rfl) (hb hby at_70) (fun _ _ => ⟨rfl, e48, (by decide : 0 + 0 ≤ _), (by decide : 0 + 0 ≤ _)⟩)
    dsimp only [Pt.U, Pt.locs, Pt.cells, Pt.slots] at X50 l50 y50 z50 st50 hQ50
    subst l50 y50 z50
    obtain ⟨rfl, N50q, e50⟩ := hQ50
    have N50 := Fr.app N48 N50q
    obtain ⟨fs, hr, hrun, hended, hW, hsame⟩ := X50.leave (v := some (.int (1 : Int32))) (fun h => by rw [Bd.returns] at h; cases h)
    refine ⟨_, _, pre49 _ ?_, hrun, hended, _, _, rfl, ?_, ⟨_, rfl⟩, hW, hsame.mono (by decide) (by decide)⟩
    · show Steps p.tables e below (T48.setTop (mkF m 70 #[.val (.long q0), .second, .val (.int p1), .val (.int (p1 &&& (3 : Int32))), .val (.long ((((p1.toUInt32 >>> ((2 : Int32) &&& 31).toUInt32).toInt32) &&& (15 : Int32)).toInt64)), .second, .val (.long q0), .second, .val (.ref (own_r1 u q0))] [(.long q0), (.ref (own_r1 u q0))])) _
      refine st50 _ ?_
      show Steps p.tables e below (T50.setTop (mkF m 73 #[.val (.long q0), .second, .val (.int p1), .val (.int (p1 &&& (3 : Int32))), .val (.long ((((p1.toUInt32 >>> ((2 : Int32) &&& 31).toUInt32).toInt32) &&& (15 : Int32)).toInt64)), .second, .val (.long q0), .second, .val (.ref (own_r1 u q0))] [(.ref (own_r2 u q0)), (.ref (own_r1 u q0))])) _
      refine Jvm.RoadKit.acmp (g := (mkF m 73 #[.val (.long q0), .second, .val (.int p1), .val (.int (p1 &&& (3 : Int32))), .val (.long ((((p1.toUInt32 >>> ((2 : Int32) &&& 31).toUInt32).toInt32) &&& (15 : Int32)).toInt64)), .second, .val (.long q0), .second, .val (.ref (own_r1 u q0))] [(.ref (own_r2 u q0)), (.ref (own_r1 u q0))])) X50 hx rfl rfl rfl (pc0 := 73) (pc' := 76) (same := true) rfl (hb hby at_73) rfl (decide_eq_true (congrArg Value.ref (own_same u _))) (by decide) (by decide) ?_
      show Steps p.tables e below (T50.setTop (mkF m 76 #[.val (.long q0), .second, .val (.int p1), .val (.int (p1 &&& (3 : Int32))), .val (.long ((((p1.toUInt32 >>> ((2 : Int32) &&& 31).toUInt32).toInt32) &&& (15 : Int32)).toInt64)), .second, .val (.long q0), .second, .val (.ref (own_r1 u q0))] [])) _
      refine XS.iconst X50.here hx rfl (hb hby at_76) ?_
      show Steps p.tables e below (T50.setTop (mkF m 77 #[.val (.long q0), .second, .val (.int p1), .val (.int (p1 &&& (3 : Int32))), .val (.long ((((p1.toUInt32 >>> ((2 : Int32) &&& 31).toUInt32).toInt32) &&& (15 : Int32)).toInt64)), .second, .val (.long q0), .second, .val (.ref (own_r1 u q0))] [(.int (1 : Int32))])) _
      refine XS.goto X50.here hx rfl (pc0 := 77) (pc' := 81) rfl (hb hby at_77) (by decide) (by decide) ?_
      show Steps p.tables e below (T50.setTop (mkF m 81 #[.val (.long q0), .second, .val (.int p1), .val (.int (p1 &&& (3 : Int32))), .val (.long ((((p1.toUInt32 >>> ((2 : Int32) &&& 31).toUInt32).toInt32) &&& (15 : Int32)).toInt64)), .second, .val (.long q0), .second, .val (.ref (own_r1 u q0))] [(.int (1 : Int32))])) _
      exact retN X50 hx (t := .boolean) Bd.returns (by simp) (hb hby at_81) hr
    · show own_Q0 Z u q0 p1 h0 n0 _ T50.heap _
      rw [e50]
      exact ⟨rfl, N50, trivial⟩
  · --
    have pre52 : ∀ t, Steps p.tables e below (s₁.setTop (mkF m 25 #[.val (.long q0), .second, .val (.int p1), .val (.int (p1 &&& (3 : Int32))), .val (.long ((((p1.toUInt32 >>> ((2 : Int32) &&& 31).toUInt32).toInt32) &&& (15 : Int32)).toInt64)), .second, .unset, .unset, .unset] [(.int (1 : Int32)), (.int (p1 &&& (3 : Int32)))])) t → Steps p.tables e below (s₁.setTop (entryFrame m #[(.long q0), (.int p1)] maxLocals)) t := fun t kt => pre45 t (by
      show Steps p.tables e below (s₁.setTop (mkF m 14 #[.val (.long q0), .second, .val (.int p1), .val (.int (p1 &&& (3 : Int32))), .val (.long ((((p1.toUInt32 >>> ((2 : Int32) &&& 31).toUInt32).toInt32) &&& (15 : Int32)).toInt64)), .second, .unset, .unset, .unset] [(.int (p1 &&& (3 : Int32)))])) _
      refine XS.ifYes X0.here hx rfl (pc0 := 14) (pc' := 23) rfl (hb hby at_14) rfl ((if0 _ _).trans (feq hc46).2) (by decide) (by decide) ?_
      show Steps p.tables e below (s₁.setTop (mkF m 23 #[.val (.long q0), .second, .val (.int p1), .val (.int (p1 &&& (3 : Int32))), .val (.long ((((p1.toUInt32 >>> ((2 : Int32) &&& 31).toUInt32).toInt32) &&& (15 : Int32)).toInt64)), .second, .unset, .unset, .unset] [])) _
      refine XS.iloadN X0.here hx rfl (hb hby at_23) rfl ?_
      show Steps p.tables e below (s₁.setTop (mkF m 24 #[.val (.long q0), .second, .val (.int p1), .val (.int (p1 &&& (3 : Int32))), .val (.long ((((p1.toUInt32 >>> ((2 : Int32) &&& 31).toUInt32).toInt32) &&& (15 : Int32)).toInt64)), .second, .unset, .unset, .unset] [(.int (p1 &&& (3 : Int32)))])) _
      refine XS.iconst X0.here hx rfl (hb hby at_24) ?_
      exact kt)
    by_cases hc53 : (p1 &&& (3 : Int32)) = (1 : Int32)
    · --
      have pre54 : ∀ t, Steps p.tables e below (s₁.setTop (mkF m 61 #[.val (.long q0), .second, .val (.int p1), .val (.int (p1 &&& (3 : Int32))), .val (.long ((((p1.toUInt32 >>> ((2 : Int32) &&& 31).toUInt32).toInt32) &&& (15 : Int32)).toInt64)), .second, .val (.long ((((p1.toUInt32 >>> ((2 : Int32) &&& 31).toUInt32).toInt32) &&& (15 : Int32)).toInt64)), .second, .unset] [(.long ((((p1.toUInt32 >>> ((2 : Int32) &&& 31).toUInt32).toInt32) &&& (15 : Int32)).toInt64))])) t → Steps p.tables e below (s₁.setTop (entryFrame m #[(.long q0), (.int p1)] maxLocals)) t := fun t kt => pre52 t (by
        show Steps p.tables e below (s₁.setTop (mkF m 25 #[.val (.long q0), .second, .val (.int p1), .val (.int (p1 &&& (3 : Int32))), .val (.long ((((p1.toUInt32 >>> ((2 : Int32) &&& 31).toUInt32).toInt32) &&& (15 : Int32)).toInt64)), .second, .unset, .unset, .unset] [(.int (1 : Int32)), (.int (p1 &&& (3 : Int32)))])) _
        refine XS.icmpNo X0.here hx rfl (hb hby at_25) rfl (teq hc53).2 ?_
        show Steps p.tables e below (s₁.setTop (mkF m 28 #[.val (.long q0), .second, .val (.int p1), .val (.int (p1 &&& (3 : Int32))), .val (.long ((((p1.toUInt32 >>> ((2 : Int32) &&& 31).toUInt32).toInt32) &&& (15 : Int32)).toInt64)), .second, .unset, .unset, .unset] [])) _
        refine XS.lload X0.here hx rfl (hb hby at_28) rfl ?_
        show Steps p.tables e below (s₁.setTop (mkF m 30 #[.val (.long q0), .second, .val (.int p1), .val (.int (p1 &&& (3 : Int32))), .val (.long ((((p1.toUInt32 >>> ((2 : Int32) &&& 31).toUInt32).toInt32) &&& (15 : Int32)).toInt64)), .second, .unset, .unset, .unset] [(.long ((((p1.toUInt32 >>> ((2 : Int32) &&& 31).toUInt32).toInt32) &&& (15 : Int32)).toInt64))])) _
        refine XS.lstore X0.here hx rfl (hb hby at_30) rfl (l' := #[.val (.long q0), .second, .val (.int p1), .val (.int (p1 &&& (3 : Int32))), .val (.long ((((p1.toUInt32 >>> ((2 : Int32) &&& 31).toUInt32).toInt32) &&& (15 : Int32)).toInt64)), .second, .val (.long ((((p1.toUInt32 >>> ((2 : Int32) &&& 31).toUInt32).toInt32) &&& (15 : Int32)).toInt64)), .second, .unset]) rfl ?_
        show Steps p.tables e below (s₁.setTop (mkF m 32 #[.val (.long q0), .second, .val (.int p1), .val (.int (p1 &&& (3 : Int32))), .val (.long ((((p1.toUInt32 >>> ((2 : Int32) &&& 31).toUInt32).toInt32) &&& (15 : Int32)).toInt64)), .second, .val (.long ((((p1.toUInt32 >>> ((2 : Int32) &&& 31).toUInt32).toInt32) &&& (15 : Int32)).toInt64)), .second, .unset] [])) _
        refine XS.goto X0.here hx rfl (pc0 := 32) (pc' := 59) rfl (hb hby at_32) (by decide) (by decide) ?_
        show Steps p.tables e below (s₁.setTop (mkF m 59 #[.val (.long q0), .second, .val (.int p1), .val (.int (p1 &&& (3 : Int32))), .val (.long ((((p1.toUInt32 >>> ((2 : Int32) &&& 31).toUInt32).toInt32) &&& (15 : Int32)).toInt64)), .second, .val (.long ((((p1.toUInt32 >>> ((2 : Int32) &&& 31).toUInt32).toInt32) &&& (15 : Int32)).toInt64)), .second, .unset] [])) _
        refine XS.lload X0.here hx rfl (hb hby at_59) rfl ?_
        exact kt)
      obtain ⟨vr55, _, ⟨T55, L55, k55, n55⟩, -, X55, ⟨Lc55, hQ55, l55, y55, z55⟩, st55⟩ := Jvm.LawKit.callS X0 hx (y := (⟨"com/example/trailwire/trailwire/status/StatusCode", "forHttp2ErrorCode", "(J)Lcom/example/trailwire/trailwire/status/StatusCode;"⟩ : MethodName)) hown (mvT hZ (hw _ (List.mem_of_getElem? (i := 0) rfl))) (mvT hZ (hw _ (List.mem_of_getElem? (i := 1) rfl))) (mvT hZ (hw _ (List.mem_of_getElem? (i := 2) rfl))) (mvT hZ (hw _ (List.mem_of_getElem? (i := 3) rfl))) (by decide) (backOf (W := 0) (rm1 l Z a0 hw [] u ((((p1.toUInt32 >>> ((2 : Int32) &&& 31).toUInt32).toInt32) &&& (15 : Int32)).toInt64) B h0 n0 O ) hZ (hw _ (List.mem_of_getElem? (i := 3) rfl)) (hw _ (List.mem_of_getElem? (i := 2) rfl)) (by decide) (by decide)) (g := (mkF m 61 #[.val (.long q0), .second, .val (.int p1), .val (.int (p1 &&& (3 : Int32))), .val (.long ((((p1.toUInt32 >>> ((2 : Int32) &&& 31).toUInt32).toInt32) &&& (15 : Int32)).toInt64)), .second, .val (.long ((((p1.toUInt32 >>> ((2 : Int32) &&& 31).toUInt32).toInt32) &&& (15 : Int32)).toInt64)), .second, .unset] [(.long ((((p1.toUInt32 >>> ((2 : Int32) &&& 31).toUInt32).toInt32) &&& (15 : Int32)).toInt64))])) rfl (by rw [hml]; rfl) (argsL := [(.long ((((p1.toUInt32 >>> ((2 : Int32) &&& 31).toUInt32).toInt32) &&& (15 : Int32)).toInt64))]) (rest := []) (lenOf own_pd0 rfl) rfl (by show 2 * 0 + _ ≤ _; exact Nat.le_of_eq rfl) (hb hby at_61) (fun _ _ => ⟨rfl, e0, (by decide : 0 + 0 ≤ _), (by decide : 0 + 0 ≤ _)⟩)
      dsimp only [Pt.U, Pt.locs, Pt.cells, Pt.slots] at X55 l55 y55 z55 st55 hQ55
      subst l55 y55 z55
      obtain ⟨rfl, N55q, e55⟩ := hQ55
      have N55 := Fr.app N0 N55q
      have pre56 : ∀ t, Steps p.tables e below (T55.setTop (mkF m 70 #[.val (.long q0), .second, .val (.int p1), .val (.int (p1 &&& (3 : Int32))), .val (.long ((((p1.toUInt32 >>> ((2 : Int32) &&& 31).toUInt32).toInt32) &&& (15 : Int32)).toInt64)), .second, .val (.long ((((p1.toUInt32 >>> ((2 : Int32) &&& 31).toUInt32).toInt32) &&& (15 : Int32)).toInt64)), .second, .val (.ref (own_r1 u ((((p1.toUInt32 >>> ((2 : Int32) &&& 31).toUInt32).toInt32) &&& (15 : Int32)).toInt64)))] [(.long ((((p1.toUInt32 >>> ((2 : Int32) &&& 31).toUInt32).toInt32) &&& (15 : Int32)).toInt64)), (.ref (own_r1 u ((((p1.toUInt32 >>> ((2 : Int32) &&& 31).toUInt32).toInt32) &&& (15 : Int32)).toInt64)))])) t → Steps p.tables e below (s₁.setTop (entryFrame m #[(.long q0), (.int p1)] maxLocals)) t := fun t kt => pre54 t (by
        show Steps p.tables e below (s₁.setTop (mkF m 61 #[.val (.long q0), .second, .val (.int p1), .val (.int (p1 &&& (3 : Int32))), .val (.long ((((p1.toUInt32 >>> ((2 : Int32) &&& 31).toUInt32).toInt32) &&& (15 : Int32)).toInt64)), .second, .val (.long ((((p1.toUInt32 >>> ((2 : Int32) &&& 31).toUInt32).toInt32) &&& (15 : Int32)).toInt64)), .second, .unset] [(.long ((((p1.toUInt32 >>> ((2 : Int32) &&& 31).toUInt32).toInt32) &&& (15 : Int32)).toInt64))])) _
        refine st55 _ ?_
        show Steps p.tables e below (T55.setTop (mkF m 64 #[.val (.long q0), .second, .val (.int p1), .val (.int (p1 &&& (3 : Int32))), .val (.long ((((p1.toUInt32 >>> ((2 : Int32) &&& 31).toUInt32).toInt32) &&& (15 : Int32)).toInt64)), .second, .val (.long ((((p1.toUInt32 >>> ((2 : Int32) &&& 31).toUInt32).toInt32) &&& (15 : Int32)).toInt64)), .second, .unset] [(.ref (own_r1 u ((((p1.toUInt32 >>> ((2 : Int32) &&& 31).toUInt32).toInt32) &&& (15 : Int32)).toInt64)))])) _
        refine XS.astore X55.here hx rfl (hb hby at_64) rfl rfl (l' := #[.val (.long q0), .second, .val (.int p1), .val (.int (p1 &&& (3 : Int32))), .val (.long ((((p1.toUInt32 >>> ((2 : Int32) &&& 31).toUInt32).toInt32) &&& (15 : Int32)).toInt64)), .second, .val (.long ((((p1.toUInt32 >>> ((2 : Int32) &&& 31).toUInt32).toInt32) &&& (15 : Int32)).toInt64)), .second, .val (.ref (own_r1 u ((((p1.toUInt32 >>> ((2 : Int32) &&& 31).toUInt32).toInt32) &&& (15 : Int32)).toInt64)))]) rfl ?_
        show Steps p.tables e below (T55.setTop (mkF m 66 #[.val (.long q0), .second, .val (.int p1), .val (.int (p1 &&& (3 : Int32))), .val (.long ((((p1.toUInt32 >>> ((2 : Int32) &&& 31).toUInt32).toInt32) &&& (15 : Int32)).toInt64)), .second, .val (.long ((((p1.toUInt32 >>> ((2 : Int32) &&& 31).toUInt32).toInt32) &&& (15 : Int32)).toInt64)), .second, .val (.ref (own_r1 u ((((p1.toUInt32 >>> ((2 : Int32) &&& 31).toUInt32).toInt32) &&& (15 : Int32)).toInt64)))] [])) _
        refine XS.aload X55.here hx rfl (hb hby at_66) rfl rfl ?_
        show Steps p.tables e below (T55.setTop (mkF m 68 #[.val (.long q0), .second, .val (.int p1), .val (.int (p1 &&& (3 : Int32))), .val (.long ((((p1.toUInt32 >>> ((2 : Int32) &&& 31).toUInt32).toInt32) &&& (15 : Int32)).toInt64)), .second, .val (.long ((((p1.toUInt32 >>> ((2 : Int32) &&& 31).toUInt32).toInt32) &&& (15 : Int32)).toInt64)), .second, .val (.ref (own_r1 u ((((p1.toUInt32 >>> ((2 : Int32) &&& 31).toUInt32).toInt32) &&& (15 : Int32)).toInt64)))] [(.ref (own_r1 u ((((p1.toUInt32 >>> ((2 : Int32) &&& 31).toUInt32).toInt32) &&& (15 : Int32)).toInt64)))])) _
        refine XS.lload X55.here hx rfl (hb hby at_68) rfl ?_
        exact kt)
      obtain ⟨vr57, _, ⟨T57, L57, k57, n57⟩, -, X57, ⟨Lc57, hQ57, l57, y57, z57⟩, st57⟩ := Jvm.LawKit.callS X55 hx (y := (⟨"com/example/trailwire/trailwire/status/StatusCodeForHttp2ErrorCodePinLaw", "expected", "(J)Lcom/example/trailwire/trailwire/status/StatusCode;"⟩ : MethodName)) hown (mvT hZ (hw _ (List.mem_of_getElem? (i := 10) rfl))) (mvT hZ (hw _ (List.mem_of_getElem? (i := 11) rfl))) (mvT hZ (hw _ (List.mem_of_getElem? (i := 12) rfl))) (mvT hZ (hw _ (List.mem_of_getElem? (i := 13) rfl))) (by decide) (backOf (W := 1) (rm2 l Z a0 hw [] u ((((p1.toUInt32 >>> ((2 : Int32) &&& 31).toUInt32).toInt32) &&& (15 : Int32)).toInt64) B h0 n0 O ) hZ (hw _ (List.mem_of_getElem? (i := 13) rfl)) (hw _ (List.mem_of_getElem? (i := 12) rfl)) (by decide) (by decide)) (g := (mkF m 70 #[.val (.long q0), .second, .val (.int p1), .val (.int (p1 &&& (3 : Int32))), .val (.long ((((p1.toUInt32 >>> ((2 : Int32) &&& 31).toUInt32).toInt32) &&& (15 : Int32)).toInt64)), .second, .val (.long ((((p1.toUInt32 >>> ((2 : Int32) &&& 31).toUInt32).toInt32) &&& (15 : Int32)).toInt64)), .second, .val (.ref (own_r1 u ((((p1.toUInt32 >>> ((2 : Int32) &&& 31).toUInt32).toInt32) &&& (15 : Int32)).toInt64)))] [(.long ((((p1.toUInt32 >>> ((2 : Int32) &&& 31).toUInt32).toInt32) &&& (15 : Int32)).toInt64)), (.ref (own_r1 u ((((p1.toUInt32 >>> ((2 : Int32) &&& 31).toUInt32).toInt32) &&& (15 : Int32)).toInt64)))])) rfl (by rw [hml]; rfl) (argsL := [(.long ((((p1.toUInt32 >>> ((2 : Int32) &&& 31).toUInt32).toInt32) &&& (15 : Int32)).toInt64))]) (rest := [(.ref (own_r1 u ((((p1.toUInt32 >>> ((2 : Int32) &&& 31).toUInt32).toInt32) &&& (15 : Int32)).toInt64)))]) (lenOf own_pd0 rfl) rfl (by show 2 * 0 + _ ≤ _; exact Nat.le_of_eq rfl) (hb hby at_70) (fun _ _ => ⟨rfl, e55, (by decide : 0 + 0 ≤ _), (by decide : 0 + 0 ≤ _)⟩)
      dsimp only [Pt.U, Pt.locs, Pt.cells, Pt.slots] at X57 l57 y57 z57 st57 hQ57
      subst l57 y57 z57
      obtain ⟨rfl, N57q, e57⟩ := hQ57
      have N57 := Fr.app N55 N57q
      obtain ⟨fs, hr, hrun, hended, hW, hsame⟩ := X57.leave (v := some (.int (1 : Int32))) (fun h => by rw [Bd.returns] at h; cases h)
      refine ⟨_, _, pre56 _ ?_, hrun, hended, _, _, rfl, ?_, ⟨_, rfl⟩, hW, hsame.mono (by decide) (by decide)⟩
      · show Steps p.tables e below (T55.setTop (mkF m 70 #[.val (.long q0), .second, .val (.int p1), .val (.int (p1 &&& (3 : Int32))), .val (.long ((((p1.toUInt32 >>> ((2 : Int32) &&& 31).toUInt32).toInt32) &&& (15 : Int32)).toInt64)), .second, .val (.long ((((p1.toUInt32 >>> ((2 : Int32) &&& 31).toUInt32).toInt32) &&& (15 : Int32)).toInt64)), .second, .val (.ref (own_r1 u ((((p1.toUInt32 >>> ((2 : Int32) &&& 31).toUInt32).toInt32) &&& (15 : Int32)).toInt64)))] [(.long ((((p1.toUInt32 >>> ((2 : Int32) &&& 31).toUInt32).toInt32) &&& (15 : Int32)).toInt64)), (.ref (own_r1 u ((((p1.toUInt32 >>> ((2 : Int32) &&& 31).toUInt32).toInt32) &&& (15 : Int32)).toInt64)))])) _
        refine st57 _ ?_
        show Steps p.tables e below (T57.setTop (mkF m 73 #[.val (.long q0), .second, .val (.int p1), .val (.int (p1 &&& (3 : Int32))), .val (.long ((((p1.toUInt32 >>> ((2 : Int32) &&& 31).toUInt32).toInt32) &&& (15 : Int32)).toInt64)), .second, .val (.long ((((p1.toUInt32 >>> ((2 : Int32) &&& 31).toUInt32).toInt32) &&& (15 : Int32)).toInt64)), .second, .val (.ref (own_r1 u ((((p1.toUInt32 >>> ((2 : Int32) &&& 31).toUInt32).toInt32) &&& (15 : Int32)).toInt64)))] [(.ref (own_r2 u ((((p1.toUInt32 >>> ((2 : Int32) &&& 31).toUInt32).toInt32) &&& (15 : Int32)).toInt64))), (.ref (own_r1 u ((((p1.toUInt32 >>> ((2 : Int32) &&& 31).toUInt32).toInt32) &&& (15 : Int32)).toInt64)))])) _
        refine Jvm.RoadKit.acmp (g := (mkF m 73 #[.val (.long q0), .second, .val (.int p1), .val (.int (p1 &&& (3 : Int32))), .val (.long ((((p1.toUInt32 >>> ((2 : Int32) &&& 31).toUInt32).toInt32) &&& (15 : Int32)).toInt64)), .second, .val (.long ((((p1.toUInt32 >>> ((2 : Int32) &&& 31).toUInt32).toInt32) &&& (15 : Int32)).toInt64)), .second, .val (.ref (own_r1 u ((((p1.toUInt32 >>> ((2 : Int32) &&& 31).toUInt32).toInt32) &&& (15 : Int32)).toInt64)))] [(.ref (own_r2 u ((((p1.toUInt32 >>> ((2 : Int32) &&& 31).toUInt32).toInt32) &&& (15 : Int32)).toInt64))), (.ref (own_r1 u ((((p1.toUInt32 >>> ((2 : Int32) &&& 31).toUInt32).toInt32) &&& (15 : Int32)).toInt64)))])) X57 hx rfl rfl rfl (pc0 := 73) (pc' := 76) (same := true) rfl (hb hby at_73) rfl (decide_eq_true (congrArg Value.ref (own_same u _))) (by decide) (by decide) ?_
        show Steps p.tables e below (T57.setTop (mkF m 76 #[.val (.long q0), .second, .val (.int p1), .val (.int (p1 &&& (3 : Int32))), .val (.long ((((p1.toUInt32 >>> ((2 : Int32) &&& 31).toUInt32).toInt32) &&& (15 : Int32)).toInt64)), .second, .val (.long ((((p1.toUInt32 >>> ((2 : Int32) &&& 31).toUInt32).toInt32) &&& (15 : Int32)).toInt64)), .second, .val (.ref (own_r1 u ((((p1.toUInt32 >>> ((2 : Int32) &&& 31).toUInt32).toInt32) &&& (15 : Int32)).toInt64)))] [])) _
        refine XS.iconst X57.here hx rfl (hb hby at_76) ?_
        show Steps p.tables e below (T57.setTop (mkF m 77 #[.val (.long q0), .second, .val (.int p1), .val (.int (p1 &&& (3 : Int32))), .val (.long ((((p1.toUInt32 >>> ((2 : Int32) &&& 31).toUInt32).toInt32) &&& (15 : Int32)).toInt64)), .second, .val (.long ((((p1.toUInt32 >>> ((2 : Int32) &&& 31).toUInt32).toInt32) &&& (15 : Int32)).toInt64)), .second, .val (.ref (own_r1 u ((((p1.toUInt32 >>> ((2 : Int32) &&& 31).toUInt32).toInt32) &&& (15 : Int32)).toInt64)))] [(.int (1 : Int32))])) _
        refine XS.goto X57.here hx rfl (pc0 := 77) (pc' := 81) rfl (hb hby at_77) (by decide) (by decide) ?_
        show Steps p.tables e below (T57.setTop (mkF m 81 #[.val (.long q0), .second, .val (.int p1), .val (.int (p1 &&& (3 : Int32))), .val (.long ((((p1.toUInt32 >>> ((2 : Int32) &&& 31).toUInt32).toInt32) &&& (15 : Int32)).toInt64)), .second, .val (.long ((((p1.toUInt32 >>> ((2 : Int32) &&& 31).toUInt32).toInt32) &&& (15 : Int32)).toInt64)), .second, .val (.ref (own_r1 u ((((p1.toUInt32 >>> ((2 : Int32) &&& 31).toUInt32).toInt32) &&& (15 : Int32)).toInt64)))] [(.int (1 : Int32))])) _
        exact retN X57 hx (t := .boolean) Bd.returns (by simp) (hb hby at_81) hr
      · show own_Q0 Z u q0 p1 h0 n0 _ T57.heap _
        rw [e57]
        exact ⟨rfl, N57, trivial⟩
    · --
      have pre59 : ∀ t, Steps p.tables e below (s₁.setTop (mkF m 37 #[.val (.long q0), .second, .val (.int p1), .val (.int (p1 &&& (3 : Int32))), .val (.long ((((p1.toUInt32 >>> ((2 : Int32) &&& 31).toUInt32).toInt32) &&& (15 : Int32)).toInt64)), .second, .unset, .unset, .unset] [(.int (2 : Int32)), (.int (p1 &&& (3 : Int32)))])) t → Steps p.tables e below (s₁.setTop (entryFrame m #[(.long q0), (.int p1)] maxLocals)) t := fun t kt => pre52 t (by
        show Steps p.tables e below (s₁.setTop (mkF m 25 #[.val (.long q0), .second, .val (.int p1), .val (.int (p1 &&& (3 : Int32))), .val (.long ((((p1.toUInt32 >>> ((2 : Int32) &&& 31).toUInt32).toInt32) &&& (15 : Int32)).toInt64)), .second, .unset, .unset, .unset] [(.int (1 : Int32)), (.int (p1 &&& (3 : Int32)))])) _
        refine XS.icmpYes X0.here hx rfl (pc0 := 25) (pc' := 35) rfl (hb hby at_25) rfl (feq hc53).2 (by decide) (by decide) ?_
        show Steps p.tables e below (s₁.setTop (mkF m 35 #[.val (.long q0), .second, .val (.int p1), .val (.int (p1 &&& (3 : Int32))), .val (.long ((((p1.toUInt32 >>> ((2 : Int32) &&& 31).toUInt32).toInt32) &&& (15 : Int32)).toInt64)), .second, .unset, .unset, .unset] [])) _
        refine XS.iloadN X0.here hx rfl (hb hby at_35) rfl ?_
        show Steps p.tables e below (s₁.setTop (mkF m 36 #[.val (.long q0), .second, .val (.int p1), .val (.int (p1 &&& (3 : Int32))), .val (.long ((((p1.toUInt32 >>> ((2 : Int32) &&& 31).toUInt32).toInt32) &&& (15 : Int32)).toInt64)), .second, .unset, .unset, .unset] [(.int (p1 &&& (3 : Int32)))])) _
        refine XS.iconst X0.here hx rfl (hb hby at_36) ?_
        exact kt)
      by_cases hc60 : (p1 &&& (3 : Int32)) = (2 : Int32)
      · --
        have pre61 : ∀ t, Steps p.tables e below (s₁.setTop (mkF m 61 #[.val (.long q0), .second, .val (.int p1), .val (.int (p1 &&& (3 : Int32))), .val (.long ((((p1.toUInt32 >>> ((2 : Int32) &&& 31).toUInt32).toInt32) &&& (15 : Int32)).toInt64)), .second, .val (.long (((((p1.toUInt32 >>> ((2 : Int32) &&& 31).toUInt32).toInt32) &&& (15 : Int32)).toInt64) + (q0 <<< ((32 : Int32) &&& 0x3f).toInt64))), .second, .unset] [(.long (((((p1.toUInt32 >>> ((2 : Int32) &&& 31).toUInt32).toInt32) &&& (15 : Int32)).toInt64) + (q0 <<< ((32 : Int32) &&& 0x3f).toInt64)))])) t → Steps p.tables e below (s₁.setTop (entryFrame m #[(.long q0), (.int p1)] maxLocals)) t := fun t kt => pre59 t (by
          show Steps p.tables e below (s₁.setTop (mkF m 37 #[.val (.long q0), .second, .val (.int p1), .val (.int (p1 &&& (3 : Int32))), .val (.long ((((p1.toUInt32 >>> ((2 : Int32) &&& 31).toUInt32).toInt32) &&& (15 : Int32)).toInt64)), .second, .unset, .unset, .unset] [(.int (2 : Int32)), (.int (p1 &&& (3 : Int32)))])) _
          refine XS.icmpNo X0.here hx rfl (hb hby at_37) rfl (teq hc60).2 ?_
          show Steps p.tables e below (s₁.setTop (mkF m 40 #[.val (.long q0), .second, .val (.int p1), .val (.int (p1 &&& (3 : Int32))), .val (.long ((((p1.toUInt32 >>> ((2 : Int32) &&& 31).toUInt32).toInt32) &&& (15 : Int32)).toInt64)), .second, .unset, .unset, .unset] [])) _
          refine XS.lload X0.here hx rfl (hb hby at_40) rfl ?_
          show Steps p.tables e below (s₁.setTop (mkF m 42 #[.val (.long q0), .second, .val (.int p1), .val (.int (p1 &&& (3 : Int32))), .val (.long ((((p1.toUInt32 >>> ((2 : Int32) &&& 31).toUInt32).toInt32) &&& (15 : Int32)).toInt64)), .second, .unset, .unset, .unset] [(.long ((((p1.toUInt32 >>> ((2 : Int32) &&& 31).toUInt32).toInt32) &&& (15 : Int32)).toInt64))])) _
          refine XS.lloadN X0.here hx rfl (hb hby at_42) rfl ?_
          show Steps p.tables e below (s₁.setTop (mkF m 43 #[.val (.long q0), .second, .val (.int p1), .val (.int (p1 &&& (3 : Int32))), .val (.long ((((p1.toUInt32 >>> ((2 : Int32) &&& 31).toUInt32).toInt32) &&& (15 : Int32)).toInt64)), .second, .unset, .unset, .unset] [(.long q0), (.long ((((p1.toUInt32 >>> ((2 : Int32) &&& 31).toUInt32).toInt32) &&& (15 : Int32)).toInt64))])) _
          refine XS.bipush X0.here hx rfl (hb hby at_43) ?_
          show Steps p.tables e below (s₁.setTop (mkF m 45 #[.val (.long q0), .second, .val (.int p1), .val (.int (p1 &&& (3 : Int32))), .val (.long ((((p1.toUInt32 >>> ((2 : Int32) &&& 31).toUInt32).toInt32) &&& (15 : Int32)).toInt64)), .second, .unset, .unset, .unset] [(.int (32 : Int32)), (.long q0), (.long ((((p1.toUInt32 >>> ((2 : Int32) &&& 31).toUInt32).toInt32) &&& (15 : Int32)).toInt64))])) _
          refine XS.lshl X0.here hx rfl (hb hby at_45) rfl ?_
          show Steps p.tables e below (s₁.setTop (mkF m 46 #[.val (.long q0), .second, .val (.int p1), .val (.int (p1 &&& (3 : Int32))), .val (.long ((((p1.toUInt32 >>> ((2 : Int32) &&& 31).toUInt32).toInt32) &&& (15 : Int32)).toInt64)), .second, .unset, .unset, .unset] [(.long (q0 <<< ((32 : Int32) &&& 0x3f).toInt64)), (.long ((((p1.toUInt32 >>> ((2 : Int32) &&& 31).toUInt32).toInt32) &&& (15 : Int32)).toInt64))])) _
          refine XS.ladd X0.here hx rfl (hb hby at_46) rfl ?_
          show Steps p.tables e below (s₁.setTop (mkF m 47 #[.val (.long q0), .second, .val (.int p1), .val (.int (p1 &&& (3 : Int32))), .val (.long ((((p1.toUInt32 >>> ((2 : Int32) &&& 31).toUInt32).toInt32) &&& (15 : Int32)).toInt64)), .second, .unset, .unset, .unset] [(.long (((((p1.toUInt32 >>> ((2 : Int32) &&& 31).toUInt32).toInt32) &&& (15 : Int32)).toInt64) + (q0 <<< ((32 : Int32) &&& 0x3f).toInt64)))])) _
          refine XS.lstore X0.here hx rfl (hb hby at_47) rfl (l' := #[.val (.long q0), .second, .val (.int p1), .val (.int (p1 &&& (3 : Int32))), .val (.long ((((p1.toUInt32 >>> ((2 : Int32) &&& 31).toUInt32).toInt32) &&& (15 : Int32)).toInt64)), .second, .val (.long (((((p1.toUInt32 >>> ((2 : Int32) &&& 31).toUInt32).toInt32) &&& (15 : Int32)).toInt64) + (q0 <<< ((32 : Int32) &&& 0x3f).toInt64))), .second, .unset]) rfl ?_
          show Steps p.tables e below (s₁.setTop (mkF m 49 #[.val (.long q0), .second, .val (.int p1), .val (.int (p1 &&& (3 : Int32))), .val (.long ((((p1.toUInt32 >>> ((2 : Int32) &&& 31).toUInt32).toInt32) &&& (15 : Int32)).toInt64)), .second, .val (.long (((((p1.toUInt32 >>> ((2 : Int32) &&& 31).toUInt32).toInt32) &&& (15 : Int32)).toInt64) + (q0 <<< ((32 : Int32) &&& 0x3f).toInt64))), .second, .unset] [])) _
          refine XS.goto X0.here hx rfl (pc0 := 49) (pc' := 59) rfl (hb hby at_49) (by decide) (by decide) ?_
          show Steps p.tables e below (s₁.setTop (mkF m 59 #[.val (.long q0), .second, .val (.int p1), .val (.int (p1 &&& (3 : Int32))), .val (.long ((((p1.toUInt32 >>> ((2 : Int32) &&& 31).toUInt32).toInt32) &&& (15 : Int32)).toInt64)), .second, .val (.long (((((p1.toUInt32 >>> ((2 : Int32) &&& 31).toUInt32).toInt32) &&& (15 : Int32)).toInt64) + (q0 <<< ((32 : Int32) &&& 0x3f).toInt64))), .second, .unset] [])) _
          refine XS.lload X0.here hx rfl (hb hby at_59) rfl ?_
          exact kt)
        obtain ⟨vr62, _, ⟨T62, L62, k62, n62⟩, -, X62, ⟨Lc62, hQ62, l62, y62, z62⟩, st62⟩ := Jvm.LawKit.callS X0 hx (y := (⟨"com/example/trailwire/trailwire/status/StatusCode", "forHttp2ErrorCode", "(J)Lcom/example/trailwire/trailwire/status/StatusCode;"⟩ : MethodName)) hown (mvT hZ (hw _ (List.mem_of_getElem? (i := 0) rfl))) (mvT hZ (hw _ (List.mem_of_getElem? (i := 1) rfl))) (mvT hZ (hw _ (List.mem_of_getElem? (i := 2) rfl))) (mvT hZ (hw _ (List.mem_of_getElem? (i := 3) rfl))) (by decide) (backOf (W := 0) (rm1 l Z a0 hw [] u (((((p1.toUInt32 >>> ((2 : Int32) &&& 31).toUInt32).toInt32) &&& (15 : Int32)).toInt64) + (q0 <<< ((32 : Int32) &&& 0x3f).toInt64)) B h0 n0 O ) hZ (hw _ (List.mem_of_getElem? (i := 3) rfl)) (hw _ (List.mem_of_getElem? (i := 2) rfl)) (by decide) (by decide)) (g := (mkF m 61 #[.val (.long q0), .second, .val (.int p1), .val (.int (p1 &&& (3 : Int32))), .val (.long ((((p1.toUInt32 >>> ((2 : Int32) &&& 31).toUInt32).toInt32) &&& (15 : Int32)).toInt64)), .second, .val (.long (((((p1.toUInt32 >>> ((2 : Int32) &&& 31).toUInt32).toInt32) &&& (15 : Int32)).toInt64) + (q0 <<< ((32 : Int32) &&& 0x3f).toInt64))), .second, .unset] [(.long (((((p1.toUInt32 >>> ((2 : Int32) &&& 31).toUInt32).toInt32) &&& (15 : Int32)).toInt64) + (q0 <<< ((32 : Int32) &&& 0x3f).toInt64)))])) rfl (by rw [hml]; rfl) (argsL := [(.long (((((p1.toUInt32 >>> ((2 : Int32) &&& 31).toUInt32).toInt32) &&& (15 : Int32)).toInt64) + (q0 <<< ((32 : Int32) &&& 0x3f).toInt64)))]) (rest := []) (lenOf own_pd0 rfl) rfl (by show 2 * 0 + _ ≤ _; exact Nat.le_of_eq rfl) (hb hby at_61) (fun _ _ => ⟨rfl, e0, (by decide : 0 + 0 ≤ _), (by decide : 0 + 0 ≤ _)⟩)
        dsimp only [Pt.U, Pt.locs, Pt.cells, Pt.slots] at X62 l62 y62 z62 st62 hQ62
        subst l62 y62 z62
        obtain ⟨rfl, N62q, e62⟩ := hQ62
        have N62 := Fr.app N0 N62q
        have pre63 : ∀ t, Steps p.tables e below (T62.setTop (mkF m 70 #[.val (.long q0), .second, .val (.int p1), .val (.int (p1 &&& (3 : Int32))), .val (.long ((((p1.toUInt32 >>> ((2 : Int32) &&& 31).toUInt32).toInt32) &&& (15 : Int32)).toInt64)), .second, .val (.long (((((p1.toUInt32 >>> ((2 : Int32) &&& 31).toUInt32).toInt32) &&& (15 : Int32)).toInt64) + (q0 <<< ((32 : Int32) &&& 0x3f).toInt64))), .second, .val (.ref (own_r1 u (((((p1.toUInt32 >>> ((2 : Int32) &&& 31).toUInt32).toInt32) &&& (15 : Int32)).toInt64) + (q0 <<< ((32 : Int32) &&& 0x3f).toInt64))))] [(.long (((((p1.toUInt32 >>> ((2 : Int32) &&& 31).toUInt32).toInt32) &&& (15 : Int32)).toInt64) + (q0 <<< ((32 : Int32) &&& 0x3f).toInt64))), (.ref (own_r1 u (((((p1.toUInt32 >>> ((2 : Int32) &&& 31).toUInt32).toInt32) &&& (15 : Int32)).toInt64) + (q0 <<< ((32 : Int32) &&& 0x3f).toInt64))))])) t → Steps p.tables e below (s₁.setTop (entryFrame m #[(.long q0), (.int p1)] maxLocals)) t := fun t kt => pre61 t (by
          show Steps p.tables e below (s₁.setTop (mkF m 61 #[.val (.long q0), .second, .val (.int p1), .val (.int (p1 &&& (3 : Int32))), .val (.long ((((p1.toUInt32 >>> ((2 : Int32) &&& 31).toUInt32).toInt32) &&& (15 : Int32)).toInt64)), .second, .val (.long (((((p1.toUInt32 >>> ((2 : Int32) &&& 31).toUInt32).toInt32) &&& (15 : Int32)).toInt64) + (q0 <<< ((32 : Int32) &&& 0x3f).toInt64))), .second, .unset] [(.long (((((p1.toUInt32 >>> ((2 : Int32) &&& 31).toUInt32).toInt32) &&& (15 : Int32)).toInt64) + (q0 <<< ((32 : Int32) &&& 0x3f).toInt64)))])) _
          refine st62 _ ?_
          show Steps p.tables e below (T62.setTop (mkF m 64 #[.val (.long q0), .second, .val (.int p1), .val (.int (p1 &&& (3 : Int32))), .val (.long ((((p1.toUInt32 >>> ((2 : Int32) &&& 31).toUInt32).toInt32) &&& (15 : Int32)).toInt64)), .second, .val (.long (((((p1.toUInt32 >>> ((2 : Int32) &&& 31).toUInt32).toInt32) &&& (15 : Int32)).toInt64) + (q0 <<< ((32 : Int32) &&& 0x3f).toInt64))), .second, .unset] [(.ref (own_r1 u (((((p1.toUInt32 >>> ((2 : Int32) &&& 31).toUInt32).toInt32) &&& (15 : Int32)).toInt64) + (q0 <<< ((32 : Int32) &&& 0x3f).toInt64))))])) _
          refine XS.astore X62.here hx rfl (hb hby at_64) rfl rfl (l' := #[.val (.long q0), .second, .val (.int p1), .val (.int (p1 &&& (3 : Int32))), .val (.long ((((p1.toUInt32 >>> ((2 : Int32) &&& 31).toUInt32).toInt32) &&& (15 : Int32)).toInt64)), .second, .val (.long (((((p1.toUInt32 >>> ((2 : Int32) &&& 31).toUInt32).toInt32) &&& (15 : Int32)).toInt64) + (q0 <<< ((32 : Int32) &&& 0x3f).toInt64))), .second, .val (.ref (own_r1 u (((((p1.toUInt32 >>> ((2 : Int32) &&& 31).toUInt32).toInt32) &&& (15 : Int32)).toInt64) + (q0 <<< ((32 : Int32) &&& 0x3f).toInt64))))]) rfl ?_
          show Steps p.tables e below (T62.setTop (mkF m 66 #[.val (.long q0), .second, .val (.int p1), .val (.int (p1 &&& (3 : Int32))), .val (.long ((((p1.toUInt32 >>> ((2 : Int32) &&& 31).toUInt32).toInt32) &&& (15 : Int32)).toInt64)), .second, .val (.long (((((p1.toUInt32 >>> ((2 : Int32) &&& 31).toUInt32).toInt32) &&& (15 : Int32)).toInt64) + (q0 <<< ((32 : Int32) &&& 0x3f).toInt64))), .second, .val (.ref (own_r1 u (((((p1.toUInt32 >>> ((2 : Int32) &&& 31).toUInt32).toInt32) &&& (15 : Int32)).toInt64) + (q0 <<< ((32 : Int32) &&& 0x3f).toInt64))))] [])) _
          refine XS.aload X62.here hx rfl (hb hby at_66) rfl rfl ?_
          show Steps p.tables e below (T62.setTop (mkF m 68 #[.val (.long q0), .second, .val (.int p1), .val (.int (p1 &&& (3 : Int32))), .val (.long ((((p1.toUInt32 >>> ((2 : Int32) &&& 31).toUInt32).toInt32) &&& (15 : Int32)).toInt64)), .second, .val (.long (((((p1.toUInt32 >>> ((2 : Int32) &&& 31).toUInt32).toInt32) &&& (15 : Int32)).toInt64) + (q0 <<< ((32 : Int32) &&& 0x3f).toInt64))), .second, .val (.ref (own_r1 u (((((p1.toUInt32 >>> ((2 : Int32) &&& 31).toUInt32).toInt32) &&& (15 : Int32)).toInt64) + (q0 <<< ((32 : Int32) &&& 0x3f).toInt64))))] [(.ref (own_r1 u (((((p1.toUInt32 >>> ((2 : Int32) &&& 31).toUInt32).toInt32) &&& (15 : Int32)).toInt64) + (q0 <<< ((32 : Int32) &&& 0x3f).toInt64))))])) _
          refine XS.lload X62.here hx rfl (hb hby at_68) rfl ?_
          exact kt)
        obtain ⟨vr64, _, ⟨T64, L64, k64, n64⟩, -, X64, ⟨Lc64, hQ64, l64, y64, z64⟩, st64⟩ := Jvm.LawKit.callS X62 hx (y := (⟨"com/example/trailwire/trailwire/status/StatusCodeForHttp2ErrorCodePinLaw", "expected", "(J)Lcom/example/trailwire/trailwire/status/StatusCode;"⟩ : MethodName)) hown (mvT hZ (hw _ (List.mem_of_getElem? (i := 10) rfl))) (mvT hZ (hw _ (List.mem_of_getElem? (i := 11) rfl))) (mvT hZ (hw _ (List.mem_of_getElem? (i := 12) rfl))) (mvT hZ (hw _ (List.mem_of_getElem? (i := 13) rfl))) (by decide) (backOf (W := 1) (rm2 l Z a0 hw [] u (((((p1.toUInt32 >>> ((2 : Int32) &&& 31).toUInt32).toInt32) &&& (15 : Int32)).toInt64) + (q0 <<< ((32 : Int32) &&& 0x3f).toInt64)) B h0 n0 O ) hZ (hw _ (List.mem_of_getElem? (i := 13) rfl)) (hw _ (List.mem_of_getElem? (i := 12) rfl)) (by decide) (by decide)) (g := (mkF m 70 #[.val (.long q0), .second, .val (.int p1), .val (.int (p1 &&& (3 : Int32))), .val (.long ((((p1.toUInt32 >>> ((2 : Int32) &&& 31).toUInt32).toInt32) &&& (15 : Int32)).toInt64)), .second, .val (.long (((((p1.toUInt32 >>> ((2 : Int32) &&& 31).toUInt32).toInt32) &&& (15 : Int32)).toInt64) + (q0 <<< ((32 : Int32) &&& 0x3f).toInt64))), .second, .val (.ref (own_r1 u (((((p1.toUInt32 >>> ((2 : Int32) &&& 31).toUInt32).toInt32) &&& (15 : Int32)).toInt64) + (q0 <<< ((32 : Int32) &&& 0x3f).toInt64))))] [(.long (((((p1.toUInt32 >>> ((2 : Int32) &&& 31).toUInt32).toInt32) &&& (15 : Int32)).toInt64) + (q0 <<< ((32 : Int32) &&& 0x3f).toInt64))), (.ref (own_r1 u (((((p1.toUInt32 >>> ((2 : Int32) &&& 31).toUInt32).toInt32) &&& (15 : Int32)).toInt64) + (q0 <<< ((32 : Int32) &&& 0x3f).toInt64))))])) rfl (by rw [hml]; rfl) (argsL := [(.long (((((p1.toUInt32 >>> ((2 : Int32) &&& 31).toUInt32).toInt32) &&& (15 : Int32)).toInt64) + (q0 <<< ((32 : Int32) &&& 0x3f).toInt64)))]) (rest := [(.ref (own_r1 u (((((p1.toUInt32 >>> ((2 : Int32) &&& 31).toUInt32).toInt32) &&& (15 : Int32)).toInt64) + (q0 <<< ((32 : Int32) &&& 0x3f).toInt64))))]) (lenOf own_pd0 rfl) rfl (by show 2 * 0 + _ ≤ _; exact Nat.le_of_eq rfl) (hb hby at_70) (fun _ _ => ⟨rfl, e62, (by decide : 0 + 0 ≤ _), (by decide : 0 + 0 ≤ _)⟩)
        dsimp only [Pt.U, Pt.locs, Pt.cells, Pt.slots] at X64 l64 y64 z64 st64 hQ64
        subst l64 y64 z64
        obtain ⟨rfl, N64q, e64⟩ := hQ64
        have N64 := Fr.app N62 N64q
        obtain ⟨fs, hr, hrun, hended, hW, hsame⟩ := X64.leave (v := some (.int (1 : Int32))) (fun h => by rw [Bd.returns] at h; cases h)
        refine ⟨_, _, pre63 _ ?_, hrun, hended, _, _, rfl, ?_, ⟨_, rfl⟩, hW, hsame.mono (by decide) (by decide)⟩
        · show Steps p.tables e below (T62.setTop (mkF m 70 #[.val (.long q0), .second, .val (.int p1), .val (.int (p1 &&& (3 : Int32))), .val (.long ((((p1.toUInt32 >>> ((2 : Int32) &&& 31).toUInt32).toInt32) &&& (15 : Int32)).toInt64)), .second, .val (.long (((((p1.toUInt32 >>> ((2 : Int32) &&& 31).toUInt32).toInt32) &&& (15 : Int32)).toInt64) + (q0 <<< ((32 : Int32) &&& 0x3f).toInt64))), .second, .val (.ref (own_r1 u (((((p1.toUInt32 >>> ((2 : Int32) &&& 31).toUInt32).toInt32) &&& (15 : Int32)).toInt64) + (q0 <<< ((32 : Int32) &&& 0x3f).toInt64))))] [(.long (((((p1.toUInt32 >>> ((2 : Int32) &&& 31).toUInt32).toInt32) &&& (15 : Int32)).toInt64) + (q0 <<< ((32 : Int32) &&& 0x3f).toInt64))), (.ref (own_r1 u (((((p1.toUInt32 >>> ((2 : Int32) &&& 31).toUInt32).toInt32) &&& (15 : Int32)).toInt64) + (q0 <<< ((32 : Int32) &&& 0x3f).toInt64))))])) _
          refine st64 _ ?_
          show Steps p.tables e below (T64.setTop (mkF m 73 #[.val (.long q0), .second, .val (.int p1), .val (.int (p1 &&& (3 : Int32))), .val (.long ((((p1.toUInt32 >>> ((2 : Int32) &&& 31).toUInt32).toInt32) &&& (15 : Int32)).toInt64)), .second, .val (.long (((((p1.toUInt32 >>> ((2 : Int32) &&& 31).toUInt32).toInt32) &&& (15 : Int32)).toInt64) + (q0 <<< ((32 : Int32) &&& 0x3f).toInt64))), .second, .val (.ref (own_r1 u (((((p1.toUInt32 >>> ((2 : Int32) &&& 31).toUInt32).toInt32) &&& (15 : Int32)).toInt64) + (q0 <<< ((32 : Int32) &&& 0x3f).toInt64))))] [(.ref (own_r2 u (((((p1.toUInt32 >>> ((2 : Int32) &&& 31).toUInt32).toInt32) &&& (15 : Int32)).toInt64) + (q0 <<< ((32 : Int32) &&& 0x3f).toInt64)))), (.ref (own_r1 u (((((p1.toUInt32 >>> ((2 : Int32) &&& 31).toUInt32).toInt32) &&& (15 : Int32)).toInt64) + (q0 <<< ((32 : Int32) &&& 0x3f).toInt64))))])) _
          refine Jvm.RoadKit.acmp (g := (mkF m 73 #[.val (.long q0), .second, .val (.int p1), .val (.int (p1 &&& (3 : Int32))), .val (.long ((((p1.toUInt32 >>> ((2 : Int32) &&& 31).toUInt32).toInt32) &&& (15 : Int32)).toInt64)), .second, .val (.long (((((p1.toUInt32 >>> ((2 : Int32) &&& 31).toUInt32).toInt32) &&& (15 : Int32)).toInt64) + (q0 <<< ((32 : Int32) &&& 0x3f).toInt64))), .second, .val (.ref (own_r1 u (((((p1.toUInt32 >>> ((2 : Int32) &&& 31).toUInt32).toInt32) &&& (15 : Int32)).toInt64) + (q0 <<< ((32 : Int32) &&& 0x3f).toInt64))))] [(.ref (own_r2 u (((((p1.toUInt32 >>> ((2 : Int32) &&& 31).toUInt32).toInt32) &&& (15 : Int32)).toInt64) + (q0 <<< ((32 : Int32) &&& 0x3f).toInt64)))), (.ref (own_r1 u (((((p1.toUInt32 >>> ((2 : Int32) &&& 31).toUInt32).toInt32) &&& (15 : Int32)).toInt64) + (q0 <<< ((32 : Int32) &&& 0x3f).toInt64))))])) X64 hx rfl rfl rfl (pc0 := 73) (pc' := 76) (same := true) rfl (hb hby at_73) rfl (decide_eq_true (congrArg Value.ref (own_same u _))) (by decide) (by decide) ?_
          show Steps p.tables e below (T64.setTop (mkF m 76 #[.val (.long q0), .second, .val (.int p1), .val (.int (p1 &&& (3 : Int32))), .val (.long ((((p1.toUInt32 >>> ((2 : Int32) &&& 31).toUInt32).toInt32) &&& (15 : Int32)).toInt64)), .second, .val (.long (((((p1.toUInt32 >>> ((2 : Int32) &&& 31).toUInt32).toInt32) &&& (15 : Int32)).toInt64) + (q0 <<< ((32 : Int32) &&& 0x3f).toInt64))), .second, .val (.ref (own_r1 u (((((p1.toUInt32 >>> ((2 : Int32) &&& 31).toUInt32).toInt32) &&& (15 : Int32)).toInt64) + (q0 <<< ((32 : Int32) &&& 0x3f).toInt64))))] [])) _
          refine XS.iconst X64.here hx rfl (hb hby at_76) ?_
          show Steps p.tables e below (T64.setTop (mkF m 77 #[.val (.long q0), .second, .val (.int p1), .val (.int (p1 &&& (3 : Int32))), .val (.long ((((p1.toUInt32 >>> ((2 : Int32) &&& 31).toUInt32).toInt32) &&& (15 : Int32)).toInt64)), .second, .val (.long (((((p1.toUInt32 >>> ((2 : Int32) &&& 31).toUInt32).toInt32) &&& (15 : Int32)).toInt64) + (q0 <<< ((32 : Int32) &&& 0x3f).toInt64))), .second, .val (.ref (own_r1 u (((((p1.toUInt32 >>> ((2 : Int32) &&& 31).toUInt32).toInt32) &&& (15 : Int32)).toInt64) + (q0 <<< ((32 : Int32) &&& 0x3f).toInt64))))] [(.int (1 : Int32))])) _
          refine XS.goto X64.here hx rfl (pc0 := 77) (pc' := 81) rfl (hb hby at_77) (by decide) (by decide) ?_
          show Steps p.tables e below (T64.setTop (mkF m 81 #[.val (.long q0), .second, .val (.int p1), .val (.int (p1 &&& (3 : Int32))), .val (.long ((((p1.toUInt32 >>> ((2 : Int32) &&& 31).toUInt32).toInt32) &&& (15 : Int32)).toInt64)), .second, .val (.long (((((p1.toUInt32 >>> ((2 : Int32) &&& 31).toUInt32).toInt32) &&& (15 : Int32)).toInt64) + (q0 <<< ((32 : Int32) &&& 0x3f).toInt64))), .second, .val (.ref (own_r1 u (((((p1.toUInt32 >>> ((2 : Int32) &&& 31).toUInt32).toInt32) &&& (15 : Int32)).toInt64) + (q0 <<< ((32 : Int32) &&& 0x3f).toInt64))))] [(.int (1 : Int32))])) _
          exact retN X64 hx (t := .boolean) Bd.returns (by simp) (hb hby at_81) hr
        · show own_Q0 Z u q0 p1 h0 n0 _ T64.heap _
          rw [e64]
          exact ⟨rfl, N64, trivial⟩
      · --
        have pre66 : ∀ t, Steps p.tables e below (s₁.setTop (mkF m 61 #[.val (.long q0), .second, .val (.int p1), .val (.int (p1 &&& (3 : Int32))), .val (.long ((((p1.toUInt32 >>> ((2 : Int32) &&& 31).toUInt32).toInt32) &&& (15 : Int32)).toInt64)), .second, .val (.long ((-((((p1.toUInt32 >>> ((2 : Int32) &&& 31).toUInt32).toInt32) &&& (15 : Int32)).toInt64)) - (1 : Int64))), .second, .unset] [(.long ((-((((p1.toUInt32 >>> ((2 : Int32) &&& 31).toUInt32).toInt32) &&& (15 : Int32)).toInt64)) - (1 : Int64)))])) t → Steps p.tables e below (s₁.setTop (entryFrame m #[(.long q0), (.int p1)] maxLocals)) t := fun t kt => pre59 t (by
          show Steps p.tables e below (s₁.setTop (mkF m 37 #[.val (.long q0), .second, .val (.int p1), .val (.int (p1 &&& (3 : Int32))), .val (.long ((((p1.toUInt32 >>> ((2 : Int32) &&& 31).toUInt32).toInt32) &&& (15 : Int32)).toInt64)), .second, .unset, .unset, .unset] [(.int (2 : Int32)), (.int (p1 &&& (3 : Int32)))])) _
          refine XS.icmpYes X0.here hx rfl (pc0 := 37) (pc' := 52) rfl (hb hby at_37) rfl (feq hc60).2 (by decide) (by decide) ?_
          show Steps p.tables e below (s₁.setTop (mkF m 52 #[.val (.long q0), .second, .val (.int p1), .val (.int (p1 &&& (3 : Int32))), .val (.long ((((p1.toUInt32 >>> ((2 : Int32) &&& 31).toUInt32).toInt32) &&& (15 : Int32)).toInt64)), .second, .unset, .unset, .unset] [])) _
          refine XS.lload X0.here hx rfl (hb hby at_52) rfl ?_
          show Steps p.tables e below (s₁.setTop (mkF m 54 #[.val (.long q0), .second, .val (.int p1), .val (.int (p1 &&& (3 : Int32))), .val (.long ((((p1.toUInt32 >>> ((2 : Int32) &&& 31).toUInt32).toInt32) &&& (15 : Int32)).toInt64)), .second, .unset, .unset, .unset] [(.long ((((p1.toUInt32 >>> ((2 : Int32) &&& 31).toUInt32).toInt32) &&& (15 : Int32)).toInt64))])) _
          refine XS.lneg X0.here hx rfl (hb hby at_54) rfl ?_
          show Steps p.tables e below (s₁.setTop (mkF m 55 #[.val (.long q0), .second, .val (.int p1), .val (.int (p1 &&& (3 : Int32))), .val (.long ((((p1.toUInt32 >>> ((2 : Int32) &&& 31).toUInt32).toInt32) &&& (15 : Int32)).toInt64)), .second, .unset, .unset, .unset] [(.long (-((((p1.toUInt32 >>> ((2 : Int32) &&& 31).toUInt32).toInt32) &&& (15 : Int32)).toInt64)))])) _
          refine XS.lconst X0.here hx rfl (hb hby at_55) ?_
          show Steps p.tables e below (s₁.setTop (mkF m 56 #[.val (.long q0), .second, .val (.int p1), .val (.int (p1 &&& (3 : Int32))), .val (.long ((((p1.toUInt32 >>> ((2 : Int32) &&& 31).toUInt32).toInt32) &&& (15 : Int32)).toInt64)), .second, .unset, .unset, .unset] [(.long (1 : Int64)), (.long (-((((p1.toUInt32 >>> ((2 : Int32) &&& 31).toUInt32).toInt32) &&& (15 : Int32)).toInt64)))])) _
          refine XS.lsub X0.here hx rfl (hb hby at_56) rfl ?_
          show Steps p.tables e below (s₁.setTop (mkF m 57 #[.val (.long q0), .second, .val (.int p1), .val (.int (p1 &&& (3 : Int32))), .val (.long ((((p1.toUInt32 >>> ((2 : Int32) &&& 31).toUInt32).toInt32) &&& (15 : Int32)).toInt64)), .second, .unset, .unset, .unset] [(.long ((-((((p1.toUInt32 >>> ((2 : Int32) &&& 31).toUInt32).toInt32) &&& (15 : Int32)).toInt64)) - (1 : Int64)))])) _
          refine XS.lstore X0.here hx rfl (hb hby at_57) rfl (l' := #[.val (.long q0), .second, .val (.int p1), .val (.int (p1 &&& (3 : Int32))), .val (.long ((((p1.toUInt32 >>> ((2 : Int32) &&& 31).toUInt32).toInt32) &&& (15 : Int32)).toInt64)), .second, .val (.long ((-((((p1.toUInt32 >>> ((2 : Int32) &&& 31).toUInt32).toInt32) &&& (15 : Int32)).toInt64)) - (1 : Int64))), .second, .unset]) rfl ?_
          show Steps p.tables e below (s₁.setTop (mkF m 59 #[.val (.long q0), .second, .val (.int p1), .val (.int (p1 &&& (3 : Int32))), .val (.long ((((p1.toUInt32 >>> ((2 : Int32) &&& 31).toUInt32).toInt32) &&& (15 : Int32)).toInt64)), .second, .val (.long ((-((((p1.toUInt32 >>> ((2 : Int32) &&& 31).toUInt32).toInt32) &&& (15 : Int32)).toInt64)) - (1 : Int64))), .second, .unset] [])) _
          refine XS.lload X0.here hx rfl (hb hby at_59) rfl ?_
          exact kt)
        obtain ⟨vr67, _, ⟨T67, L67, k67, n67⟩, -, X67, ⟨Lc67, hQ67, l67, y67, z67⟩, st67⟩ := Jvm.LawKit.callS X0 hx (y := (⟨"com/example/trailwire/trailwire/status/StatusCode", "forHttp2ErrorCode", "(J)Lcom/example/trailwire/trailwire/status/StatusCode;"⟩ : MethodName)) hown (mvT hZ (hw _ (List.mem_of_getElem? (i := 0) rfl))) (mvT hZ (hw _ (List.mem_of_getElem? (i := 1) rfl))) (mvT hZ (hw _ (List.mem_of_getElem? (i := 2) rfl))) (mvT hZ (hw _ (List.mem_of_getElem? (i := 3) rfl))) (by decide) (backOf (W := 0) (rm1 l Z a0 hw [] u ((-((((p1.toUInt32 >>> ((2 : Int32) &&& 31).toUInt32).toInt32) &&& (15 : Int32)).toInt64)) - (1 : Int64)) B h0 n0 O ) hZ (hw _ (List.mem_of_getElem? (i := 3) rfl)) (hw _ (List.mem_of_getElem? (i := 2) rfl)) (by decide) (by decide)) (g := (mkF m 61 #[.val (.long q0), .second, .val (.int p1), .val (.int (p1 &&& (3 : Int32))), .val (.long ((((p1.toUInt32 >>> ((2 : Int32) &&& 31).toUInt32).toInt32) &&& (15 : Int32)).toInt64)), .second, .val (.long ((-((((p1.toUInt32 >>> ((2 : Int32) &&& 31).toUInt32).toInt32) &&& (15 : Int32)).toInt64)) - (1 : Int64))), .second, .unset] [(.long ((-((((p1.toUInt32 >>> ((2 : Int32) &&& 31).toUInt32).toInt32) &&& (15 : Int32)).toInt64)) - (1 : Int64)))])) rfl (by rw [hml]; rfl) (argsL := [(.long ((-((((p1.toUInt32 >>> ((2 : Int32) &&& 31).toUInt32).toInt32) &&& (15 : Int32)).toInt64)) - (1 : Int64)))]) (rest := []) (lenOf own_pd0 rfl) rfl (by show 2 * 0 + _ ≤ _; exact Nat.le_of_eq rfl) (hb hby at_61) (fun _ _ => ⟨rfl, e0, (by decide : 0 + 0 ≤ _), (by decide : 0 + 0 ≤ _)⟩)
        dsimp only [Pt.U, Pt.locs, Pt.cells, Pt.slots] at X67 l67 y67 z67 st67 hQ67
        subst l67 y67 z67
        obtain ⟨rfl, N67q, e67⟩ := hQ67
        have N67 := Fr.app N0 N67q
        have pre68 : ∀ t, Steps p.tables e below (T67.setTop (mkF m 70 #[.val (.long q0), .second, .val (.int p1), .val (.int (p1 &&& (3 : Int32))), .val (.long ((((p1.toUInt32 >>> ((2 : Int32) &&& 31).toUInt32).toInt32) &&& (15 : Int32)).toInt64)), .second, .val (.long ((-((((p1.toUInt32 >>> ((2 : Int32) &&& 31).toUInt32).toInt32) &&& (15 : Int32)).toInt64)) - (1 : Int64))), .second, .val (.ref (own_r1 u ((-((((p1.toUInt32 >>> ((2 : Int32) &&& 31).toUInt32).toInt32) &&& (15 : Int32)).toInt64)) - (1 : Int64))))] [(.long ((-((((p1.toUInt32 >>> ((2 : Int32) &&& 31).toUInt32).toInt32) &&& (15 : Int32)).toInt64)) - (1 : Int64))), (.ref (own_r1 u ((-((((p1.toUInt32 >>> ((2 : Int32) &&& 31).toUInt32).toInt32) &&& (15 : Int32)).toInt64)) - (1 : Int64))))])) t → Steps p.tables e below (s₁.setTop (entryFrame m #[(.long q0), (.int p1)] maxLocals)) t := fun t kt => pre66 t (by
          show Steps p.tables e below (s₁.setTop (mkF m 61 #[.val (.long q0), .second, .val (.int p1), .val (.int (p1 &&& (3 : Int32))), .val (.long ((((p1.toUInt32 >>> ((2 : Int32) &&& 31).toUInt32).toInt32) &&& (15 : Int32)).toInt64)), .second, .val (.long ((-((((p1.toUInt32 >>> ((2 : Int32) &&& 31).toUInt32).toInt32) &&& (15 : Int32)).toInt64)) - (1 : Int64))), .second, .unset] [(.long ((-((((p1.toUInt32 >>> ((2 : Int32) &&& 31).toUInt32).toInt32) &&& (15 : Int32)).toInt64)) - (1 : Int64)))])) _
          refine st67 _ ?_
          show Steps p.tables e below (T67.setTop (mkF m 64 #[.val (.long q0), .second, .val (.int p1), .val (.int (p1 &&& (3 : Int32))), .val (.long ((((p1.toUInt32 >>> ((2 : Int32) &&& 31).toUInt32).toInt32) &&& (15 : Int32)).toInt64)), .second, .val (.long ((-((((p1.toUInt32 >>> ((2 : Int32) &&& 31).toUInt32).toInt32) &&& (15 : Int32)).toInt64)) - (1 : Int64))), .second, .unset] [(.ref (own_r1 u ((-((((p1.toUInt32 >>> ((2 : Int32) &&& 31).toUInt32).toInt32) &&& (15 : Int32)).toInt64)) - (1 : Int64))))])) _
          refine XS.astore X67.here hx rfl (hb hby at_64) rfl rfl (l' := #[.val (.long q0), .second, .val (.int p1), .val (.int (p1 &&& (3 : Int32))), .val (.long ((((p1.toUInt32 >>> ((2 : Int32) &&& 31).toUInt32).toInt32) &&& (15 : Int32)).toInt64)), .second, .val (.long ((-((((p1.toUInt32 >>> ((2 : Int32) &&& 31).toUInt32).toInt32) &&& (15 : Int32)).toInt64)) - (1 : Int64))), .second, .val (.ref (own_r1 u ((-((((p1.toUInt32 >>> ((2 : Int32) &&& 31).toUInt32).toInt32) &&& (15 : Int32)).toInt64)) - (1 : Int64))))]) rfl ?_
          show Steps p.tables e below (T67.setTop (mkF m 66 #[.val (.long q0), .second, .val (.int p1), .val (.int (p1 &&& (3 : Int32))), .val (.long ((((p1.toUInt32 >>> ((2 : Int32) &&& 31).toUInt32).toInt32) &&& (15 : Int32)).toInt64)), .second, .val (.long ((-((((p1.toUInt32 >>> ((2 : Int32) &&& 31).toUInt32).toInt32) &&& (15 : Int32)).toInt64)) - (1 : Int64))), .second, .val (.ref (own_r1 u ((-((((p1.toUInt32 >>> ((2 : Int32) &&& 31).toUInt32).toInt32) &&& (15 : Int32)).toInt64)) - (1 : Int64))))] [])) _
          refine XS.aload X67.here hx rfl (hb hby at_66) rfl rfl ?_
          show Steps p.tables e below (T67.setTop (mkF m 68 #[.val (.long q0), .second, .val (.int p1), .val (.int (p1 &&& (3 : Int32))), .val (.long ((((p1.toUInt32 >>> ((2 : Int32) &&& 31).toUInt32).toInt32) &&& (15 : Int32)).toInt64)), .second, .val (.long ((-((((p1.toUInt32 >>> ((2 : Int32) &&& 31).toUInt32).toInt32) &&& (15 : Int32)).toInt64)) - (1 : Int64))), .second, .val (.ref (own_r1 u ((-((((p1.toUInt32 >>> ((2 : Int32) &&& 31).toUInt32).toInt32) &&& (15 : Int32)).toInt64)) - (1 : Int64))))] [(.ref (own_r1 u ((-((((p1.toUInt32 >>> ((2 : Int32) &&& 31).toUInt32).toInt32) &&& (15 : Int32)).toInt64)) - (1 : Int64))))])) _
          refine XS.lload X67.here hx rfl (hb hby at_68) rfl ?_
          exact kt)
        obtain ⟨vr69, _, ⟨T69, L69, k69, n69⟩, -, X69, ⟨Lc69, hQ69, l69, y69, z69⟩, st69⟩ := Jvm.LawKit.callS X67 hx (y := (⟨"com/example/trailwire/trailwire/status/StatusCodeForHttp2ErrorCodePinLaw", "expected", "(J)Lcom/example/trailwire/trailwire/status/StatusCode;"⟩ : MethodName)) hown (mvT hZ (hw _ (List.mem_of_getElem? (i := 10) rfl))) (mvT hZ (hw _ (List.mem_of_getElem? (i := 11) rfl))) (mvT hZ (hw _ (List.mem_of_getElem? (i := 12) rfl))) (mvT hZ (hw _ (List.mem_of_getElem? (i := 13) rfl))) (by decide) (backOf (W := 1) (rm2 l Z a0 hw [] u ((-((((p1.toUInt32 >>> ((2 : Int32) &&& 31).toUInt32).toInt32) &&& (15 : Int32)).toInt64)) - (1 : Int64)) B h0 n0 O ) hZ (hw _ (List.mem_of_getElem? (i := 13) rfl)) (hw _ (List.mem_of_getElem? (i := 12) rfl)) (by decide) (by decide)) (g := (mkF m 70 #[.val (.long q0), .second, .val (.int p1), .val (.int (p1 &&& (3 : Int32))), .val (.long ((((p1.toUInt32 >>> ((2 : Int32) &&& 31).toUInt32).toInt32) &&& (15 : Int32)).toInt64)), .second, .val (.long ((-((((p1.toUInt32 >>> ((2 : Int32) &&& 31).toUInt32).toInt32) &&& (15 : Int32)).toInt64)) - (1 : Int64))), .second, .val (.ref (own_r1 u ((-((((p1.toUInt32 >>> ((2 : Int32) &&& 31).toUInt32).toInt32) &&& (15 : Int32)).toInt64)) - (1 : Int64))))] [(.long ((-((((p1.toUInt32 >>> ((2 : Int32) &&& 31).toUInt32).toInt32) &&& (15 : Int32)).toInt64)) - (1 : Int64))), (.ref (own_r1 u ((-((((p1.toUInt32 >>> ((2 : Int32) &&& 31).toUInt32).toInt32) &&& (15 : Int32)).toInt64)) - (1 : Int64))))])) rfl (by rw [hml]; rfl) (argsL := [(.long ((-((((p1.toUInt32 >>> ((2 : Int32) &&& 31).toUInt32).toInt32) &&& (15 : Int32)).toInt64)) - (1 : Int64)))]) (rest := [(.ref (own_r1 u ((-((((p1.toUInt32 >>> ((2 : Int32) &&& 31).toUInt32).toInt32) &&& (15 : Int32)).toInt64)) - (1 : Int64))))]) (lenOf own_pd0 rfl) rfl (by show 2 * 0 + _ ≤ _; exact Nat.le_of_eq rfl) (hb hby at_70) (fun _ _ => ⟨rfl, e67, (by decide : 0 + 0 ≤ _), (by decide : 0 + 0 ≤ _)⟩)
        dsimp only [Pt.U, Pt.locs, Pt.cells, Pt.slots] at X69 l69 y69 z69 st69 hQ69
        subst l69 y69 z69
        obtain ⟨rfl, N69q, e69⟩ := hQ69
        have N69 := Fr.app N67 N69q
        obtain ⟨fs, hr, hrun, hended, hW, hsame⟩ := X69.leave (v := some (.int (1 : Int32))) (fun h => by rw [Bd.returns] at h; cases h)
        refine ⟨_, _, pre68 _ ?_, hrun, hended, _, _, rfl, ?_, ⟨_, rfl⟩, hW, hsame.mono (by decide) (by decide)⟩
        · show Steps p.tables e below (T67.setTop (mkF m 70 #[.val (.long q0), .second, .val (.int p1), .val (.int (p1 &&& (3 : Int32))), .val (.long ((((p1.toUInt32 >>> ((2 : Int32) &&& 31).toUInt32).toInt32) &&& (15 : Int32)).toInt64)), .second, .val (.long ((-((((p1.toUInt32 >>> ((2 : Int32) &&& 31).toUInt32).toInt32) &&& (15 : Int32)).toInt64)) - (1 : Int64))), .second, .val (.ref (own_r1 u ((-((((p1.toUInt32 >>> ((2 : Int32) &&& 31).toUInt32).toInt32) &&& (15 : Int32)).toInt64)) - (1 : Int64))))] [(.long ((-((((p1.toUInt32 >>> ((2 : Int32) &&& 31).toUInt32).toInt32) &&& (15 : Int32)).toInt64)) - (1 : Int64))), (.ref (own_r1 u ((-((((p1.toUInt32 >>> ((2 : Int32) &&& 31).toUInt32).toInt32) &&& (15 : Int32)).toInt64)) - (1 : Int64))))])) _
          refine st69 _ ?_
          show Steps p.tables e below (T69.setTop (mkF m 73 #[.val (.long q0), .second, .val (.int p1), .val (.int (p1 &&& (3 : Int32))), .val (.long ((((p1.toUInt32 >>> ((2 : Int32) &&& 31).toUInt32).toInt32) &&& (15 : Int32)).toInt64)), .second, .val (.long ((-((((p1.toUInt32 >>> ((2 : Int32) &&& 31).toUInt32).toInt32) &&& (15 : Int32)).toInt64)) - (1 : Int64))), .second, .val (.ref (own_r1 u ((-((((p1.toUInt32 >>> ((2 : Int32) &&& 31).toUInt32).toInt32) &&& (15 : Int32)).toInt64)) - (1 : Int64))))] [(.ref (own_r2 u ((-((((p1.toUInt32 >>> ((2 : Int32) &&& 31).toUInt32).toInt32) &&& (15 : Int32)).toInt64)) - (1 : Int64)))), (.ref (own_r1 u ((-((((p1.toUInt32 >>> ((2 : Int32) &&& 31).toUInt32).toInt32) &&& (15 : Int32)).toInt64)) - (1 : Int64))))])) _
          refine Jvm.RoadKit.acmp (g := (mkF m 73 #[.val (.long q0), .second, .val (.int p1), .val (.int (p1 &&& (3 : Int32))), .val (.long ((((p1.toUInt32 >>> ((2 : Int32) &&& 31).toUInt32).toInt32) &&& (15 : Int32)).toInt64)), .second, .val (.long ((-((((p1.toUInt32 >>> ((2 : Int32) &&& 31).toUInt32).toInt32) &&& (15 : Int32)).toInt64)) - (1 : Int64))), .second, .val (.ref (own_r1 u ((-((((p1.toUInt32 >>> ((2 : Int32) &&& 31).toUInt32).toInt32) &&& (15 : Int32)).toInt64)) - (1 : Int64))))] [(.ref (own_r2 u ((-((((p1.toUInt32 >>> ((2 : Int32) &&& 31).toUInt32).toInt32) &&& (15 : Int32)).toInt64)) - (1 : Int64)))), (.ref (own_r1 u ((-((((p1.toUInt32 >>> ((2 : Int32) &&& 31).toUInt32).toInt32) &&& (15 : Int32)).toInt64)) - (1 : Int64))))])) X69 hx rfl rfl rfl (pc0 := 73) (pc' := 76) (same := true) rfl (hb hby at_73) rfl (decide_eq_true (congrArg Value.ref (own_same u _))) (by decide) (by decide) ?_
          show Steps p.tables e below (T69.setTop (mkF m 76 #[.val (.long q0), .second, .val (.int p1), .val (.int (p1 &&& (3 : Int32))), .val (.long ((((p1.toUInt32 >>> ((2 : Int32) &&& 31).toUInt32).toInt32) &&& (15 : Int32)).toInt64)), .second, .val (.long ((-((((p1.toUInt32 >>> ((2 : Int32) &&& 31).toUInt32).toInt32) &&& (15 : Int32)).toInt64)) - (1 : Int64))), .second, .val (.ref (own_r1 u ((-((((p1.toUInt32 >>> ((2 : Int32) &&& 31).toUInt32).toInt32) &&& (15 : Int32)).toInt64)) - (1 : Int64))))] [])) _
          refine XS.iconst X69.here hx rfl (hb hby at_76) ?_
          show Steps p.tables e below (T69.setTop (mkF m 77 #[.val (.long q0), .second, .val (.int p1), .val (.int (p1 &&& (3 : Int32))), .val (.long ((((p1.toUInt32 >>> ((2 : Int32) &&& 31).toUInt32).toInt32) &&& (15 : Int32)).toInt64)), .second, .val (.long ((-((((p1.toUInt32 >>> ((2 : Int32) &&& 31).toUInt32).toInt32) &&& (15 : Int32)).toInt64)) - (1 : Int64))), .second, .val (.ref (own_r1 u ((-((((p1.toUInt32 >>> ((2 : Int32) &&& 31).toUInt32).toInt32) &&& (15 : Int32)).toInt64)) - (1 : Int64))))] [(.int (1 : Int32))])) _
          refine XS.goto X69.here hx rfl (pc0 := 77) (pc' := 81) rfl (hb hby at_77) (by decide) (by decide) ?_
          show Steps p.tables e below (T69.setTop (mkF m 81 #[.val (.long q0), .second, .val (.int p1), .val (.int (p1 &&& (3 : Int32))), .val (.long ((((p1.toUInt32 >>> ((2 : Int32) &&& 31).toUInt32).toInt32) &&& (15 : Int32)).toInt64)), .second, .val (.long ((-((((p1.toUInt32 >>> ((2 : Int32) &&& 31).toUInt32).toInt32) &&& (15 : Int32)).toInt64)) - (1 : Int64))), .second, .val (.ref (own_r1 u ((-((((p1.toUInt32 >>> ((2 : Int32) &&& 31).toUInt32).toInt32) &&& (15 : Int32)).toInt64)) - (1 : Int64))))] [(.int (1 : Int32))])) _
          exact retN X69 hx (t := .boolean) Bd.returns (by simp) (hb hby at_81) hr
        · show own_Q0 Z u q0 p1 h0 n0 _ T69.heap _
          rw [e69]
          exact ⟨rfl, N69, trivial⟩
set_option maxRecDepth 65536 in
set_option maxHeartbeats 40000000 in
theorem comes_1 {Post : Tables → Env → Array Value → State → Outcome → State → Prop} (hpost : ∀ tb e args s v u, (limb_1_1.after args s (.returned v) u = true ∧ limb_1_2.after args s (.returned v) u = true ∧ True) → FrameEnd s (.returned v) u (Jvm.fieldLocs frame_1_writes args s ++ Jvm.arrayLocs frame_1_arrays args s ++ Jvm.staticLocs frame_1_statics s) 0 0 → Post tb e args s (.returned v) u) :
    ArmFor flags0 classFile x code maxLocals ret World_1 tables_1 room_1 Calls_1 rest_1 Pre_1 Post := by
  intro l hfl _ _ p e ha hc hk s m args below hf hA hF happ hP
  obtain ⟨hcalls, hrest, hpre⟩ := hP
  obtain ⟨-, -, -, hnamed, -, -, -, hat⟩ := (Spec.applies_iff hf).mp happ
  obtain ⟨hg, hn⟩ := and_e (Cond.before_iff.mp (show (Jvm.Cond.and given_1 narrow_1).before args s = true from hpre))
  obtain ⟨g0, gr0⟩ := and_e hg
  obtain ⟨g1, gr1⟩ := and_e gr0
  have g2 := gr1
  obtain ⟨w0, w1, rfl⟩ : ∃ w0 w1 : Value, args = #[w0, w1] := by
    have hs : args.size = 2 := by simpa [Cond.value, given_1] using g0
    obtain ⟨L⟩ := args
    match L, hs with
    | [w0, w1], _ => exact ⟨w0, w1, rfl⟩
  have hw := fun d (hd : d ∈ tables_1) => atoms_spec (ws := Jvm.Cond.code x code maxLocals ret :: tables_1) hat d (List.mem_cons_of_mem _ hd)
  have hfit : Fit s := fun {y c} hc i hi => by
    obtain ⟨ha, rfl⟩ := Array.getElem?_eq_some_iff.mp hc
    have q := List.all_eq_true.mp ((Array.all_eq_true_iff_forall_mem.mp hF) _ (Array.getElem_mem ha)) i (List.mem_range.mpr hi)
    simpa [Array.getElem?_eq_getElem hi] using q
  obtain ⟨i0, ei0⟩ := isL_v g1
  obtain rfl : w0 = (.long i0) := Option.some.inj ei0
  obtain ⟨i1, ei1⟩ := is_v g2
  obtain rfl : w1 = (.int i1) := Option.some.inj ei1
  obtain ⟨b0, hn0⟩ := and_e hn
  obtain ⟨b1, hn1⟩ := and_e hn0
  obtain ⟨b2, hn2⟩ := and_e hn1
  obtain ⟨b3, hn3⟩ := and_e hn2
  have b4 := hn3
  obtain ⟨x0, v0⟩ := exa_v b0
  obtain ⟨x1, v1⟩ := exa_v b1
  obtain ⟨x2, v2⟩ := exa_v b2
  obtain ⟨x3, v3⟩ := exa_v b3
  obtain ⟨x4, v4⟩ := exa_v b4
  have B : own_Base s (fun i => ([x0, x1, x2, x3, x4] : List Addr).getD i 0) := ⟨Sta.start v0 (Or.inr ⟨(hw _ (List.mem_of_getElem? (i := 2) rfl)), (hw _ (List.mem_of_getElem? (i := 9) rfl))⟩),
    Exa.start v0 b0,
    Sta.start v1 (Or.inr ⟨(hw _ (List.mem_of_getElem? (i := 2) rfl)), (hw _ (List.mem_of_getElem? (i := 17) rfl))⟩),
    Exa.start v1 b1,
    Sta.start v2 (Or.inr ⟨(hw _ (List.mem_of_getElem? (i := 2) rfl)), (hw _ (List.mem_of_getElem? (i := 20) rfl))⟩),
    Exa.start v2 b2,
    Sta.start v3 (Or.inr ⟨(hw _ (List.mem_of_getElem? (i := 2) rfl)), (hw _ (List.mem_of_getElem? (i := 23) rfl))⟩),
    Exa.start v3 b3,
    Sta.start v4 (Or.inr ⟨(hw _ (List.mem_of_getElem? (i := 2) rfl)), (hw _ (List.mem_of_getElem? (i := 26) rfl))⟩),
    Exa.start v4 b4⟩
  obtain ⟨n, o, h1, h2, h3, _, L, rfl, ⟨rfl, N, -⟩, hq⟩ := rm0 l s _ hw tables_1 (fun i => ([x0, x1, x2, x3, x4] : List Addr).getD i 0) i0 i1 B s.heap s.heap.size (Old.start s)  p e ha hc hk s m _ below hf ((Spec.applies_iff_loose hf).mp happ).1 ⟨rfl, State.Warmed39.refl s, rfl⟩ trivial
  refine ⟨n, _, h1, h2, h3, hpost _ _ _ _ _ _ ⟨Cond.after_iff.mpr rfl, Cond.after_iff.mpr (eq_i res_at (Term.int_eval (1)) rfl), trivial⟩ ⟨hq.1, hq.2.1, (hq.2.2.sift fun y hy => Or.inr (N y hy)).mono (by decide) (by decide)⟩⟩
theorem main_1_1 : Claimed_1_1 := comes_1 fun _ _ _ _ _ _ h hF => ⟨h.1, hF⟩
theorem main_1_2 : Claimed_1_2 := comes_1 fun _ _ _ _ _ _ h hF => ⟨h.2.1, hF⟩
end Jvm.Pilot.@@N@@
namespace Jvm.Pilot.@@N@@
open Jvm Jvm.ClassFile Sem Op Lib Jvm.Free Jvm.Stand Jvm.Pilot.@@N@@.Jvm.D
/-! MADE BY PROGRAM (witnessworld.py) out of the Statement's table words and the real class files: 12 classes; the members and pool entries that the words name. The judged class is class 1, her method 1. -/
namespace start1
open Jvm.ClassFile
def u (s : String) : CpInfo := .utf8 (stringToUtf16 s)
/-- a pool by its gaps: so many unusable entries, then the entry; so many at the end -/
def gap : Nat → List CpInfo → List CpInfo
  | 0, r => r
  | n + 1, r => .unusable :: gap n r
def poolList (es : List (Nat × CpInfo)) (last : Nat) : List CpInfo := es.foldr (fun e r => gap e.1 (e.2 :: r)) (gap last [])
def pool (es : List (Nat × CpInfo)) (last : Nat) : Array CpInfo := ⟨poolList es last⟩
def fileOf (pool : Array CpInfo) (this : Nat) (attrs : Array Attribute := #[]) (ms : Array MethodInfo := #[]) (fl : Nat := 33) (sup : Nat := 0) (ifs : Array Nat := #[]) (fds : Array FieldInfo := #[]) : ClassFile where
  minorVersion := 0
  majorVersion := 65
  constantPool := pool
  accessFlags := fl
  thisClass := this
  superClass := sup
  interfaces := ifs
  fields := fds
  methods := ms
  attributes := attrs
def plain (name : String) (sup : Option ClassId) : Class where
  name := name
  kind := .ordinary
  loader := none
  accessFlags := 33
  super := sup
  interfaces := #[]
  cf := none
  fields := #[]
  methods := #[]
  instanceTypes := #[]
  staticTypes := #[]
  resolved := #[]
  callSites := []
  init := .initialized
  statics := none
  mirror := none

def pool0 : Array CpInfo := pool [(5, u "<init>"), (0, u "()V"), (1, .class_ 10), (1, u "java/lang/Object")] 113

def k0m0 : Method := { name := "<init>", desc := "()V", sig := { parameters := [], returnType := none }, accessFlags := 1, code := none }
/-- java/lang/Object -/
def k0 : Class := { plain "java/lang/Object" none with
  accessFlags := 33
  interfaces := #[]
  cf := some (fileOf pool0 8 #[] #[{ accessFlags := 1, nameIndex := 5, descriptorIndex := 6, attributes := #[] }] 33 0 #[] #[])
  fields := #[]
  methods := #[k0m0]
  instanceTypes := #[]
  staticTypes := #[]
  resolved := Array.replicate 124 none
  statics := none }

def pool1 : Array CpInfo := pool [(2, .class_ 4), (1, u "java/lang/Object"), (0, u "<init>"), (0, u "()V"), (0, .methodref 8 9), (0, .class_ 10), (0, .nameAndType 11 12), (0, u "com/example/trailwire/trailwire/status/StatusCode"), (0, u "forHttp2ErrorCode"), (0, u "(J)Lcom/example/trailwire/trailwire/status/StatusCode;"), (0, .methodref 14 15), (0, .class_ 16), (0, .nameAndType 17 12), (0, u "com/example/trailwire/trailwire/status/StatusCodeForHttp2ErrorCodePinLaw"), (0, u "expected"), (0, .long 15), (1, .fieldref 8 21), (0, .nameAndType 22 23), (0, u "INTERNAL"), (0, u "Lcom/example/trailwire/trailwire/status/StatusCode;"), (0, .fieldref 8 25), (0, .nameAndType 26 23), (0, u "UNAVAILABLE"), (0, .fieldref 8 28), (0, .nameAndType 29 23), (0, u "CANCELLED"), (0, .fieldref 8 31), (0, .nameAndType 32 23), (0, u "RESOURCE_EXHAUSTED"), (0, .fieldref 8 34), (0, .nameAndType 35 23), (0, u "PERMISSION_DENIED"), (2, u "law"), (0, u "(JI)Z")] 3

def k1m0 : Method := { name := "<init>", desc := "()V", sig := { parameters := [], returnType := none }, accessFlags := 1, code := none }
def k1c1 : Code := { maxStack := 5, maxLocals := 9, code := code, exceptionTable := #[], attributes := #[] }
def k1m1 : Method := { name := "law", desc := "(JI)Z", sig := { parameters := [.long, .int], returnType := some .boolean }, accessFlags := 9, code := some k1c1 }
def k1c2 : Code := { maxStack := 4, maxLocals := 3, code := method_3_code, exceptionTable := #[], attributes := #[] }
def k1m2 : Method := { name := "expected", desc := "(J)Lcom/example/trailwire/trailwire/status/StatusCode;", sig := { parameters := [.long], returnType := some (.object "com/example/trailwire/trailwire/status/StatusCode") }, accessFlags := 10, code := some k1c2 }
/-- com/example/trailwire/trailwire/status/StatusCodeForHttp2ErrorCodePinLaw -/
def k1 : Class := { plain "com/example/trailwire/trailwire/status/StatusCodeForHttp2ErrorCodePinLaw" (some 0) with
  accessFlags := 49
  interfaces := #[]
  cf := some (fileOf pool1 14 #[] #[{ accessFlags := 1, nameIndex := 5, descriptorIndex := 6, attributes := #[] }, { accessFlags := 9, nameIndex := 38, descriptorIndex := 39, attributes := #[] }, { accessFlags := 10, nameIndex := 17, descriptorIndex := 12, attributes := #[] }] 49 2 #[] #[])
  fields := #[]
  methods := #[k1m0, k1m1, k1m2]
  instanceTypes := #[]
  staticTypes := #[]
  resolved := Array.replicate 43 none
  statics := none }

def pool2 : Array CpInfo := pool [(1, .class_ 2), (0, u "java/lang/constant/Constable"), (0, .class_ 4), (0, u "java/lang/Object")] 6

/-- java/lang/constant/Constable -/
def k2 : Class := { plain "java/lang/constant/Constable" (some 0) with
  accessFlags := 1537
  interfaces := #[]
  cf := some (fileOf pool2 1 #[] #[] 1537 3 #[] #[])
  fields := #[]
  methods := #[]
  instanceTypes := #[]
  staticTypes := #[]
  resolved := Array.replicate 11 none
  statics := none }

def pool3 : Array CpInfo := pool [(1, .class_ 2), (0, u "java/lang/Comparable"), (0, .class_ 4), (0, u "java/lang/Object")] 7

/-- java/lang/Comparable -/
def k3 : Class := { plain "java/lang/Comparable" (some 0) with
  accessFlags := 1537
  interfaces := #[]
  cf := some (fileOf pool3 1 #[] #[] 1537 3 #[] #[])
  fields := #[]
  methods := #[]
  instanceTypes := #[]
  staticTypes := #[]
  resolved := Array.replicate 12 none
  statics := none }

def pool4 : Array CpInfo := pool [(1, .class_ 2), (0, u "java/io/Serializable"), (0, .class_ 4), (0, u "java/lang/Object")] 2

/-- java/io/Serializable -/
def k4 : Class := { plain "java/io/Serializable" (some 0) with
  accessFlags := 1537
  interfaces := #[]
  cf := some (fileOf pool4 1 #[] #[] 1537 3 #[] #[])
  fields := #[]
  methods := #[]
  instanceTypes := #[]
  staticTypes := #[]
  resolved := Array.replicate 7 none
  statics := none }

def pool5 : Array CpInfo := pool [(2, .class_ 4), (1, u "java/lang/Enum"), (0, u "name"), (0, u "Ljava/lang/String;"), (2, u "ordinal"), (0, u "I"), (1, .class_ 14), (1, u "java/lang/Object"), (4, u "hash"), (86, .class_ 108), (1, u "java/lang/Enum$EnumDesc"), (2, .class_ 112), (0, u "java/lang/constant/Constable"), (0, .class_ 114), (0, u "java/lang/Comparable"), (0, .class_ 116), (0, u "java/io/Serializable")] 87

/-- java/lang/Enum -/
def k5 : Class := { plain "java/lang/Enum" (some 0) with
  accessFlags := 1057
  interfaces := #[2, 3, 4]
  cf := some (fileOf pool5 2 #[.nestMembers #[106]] #[] 1057 12 #[111, 113, 115] #[{ accessFlags := 18, nameIndex := 5, descriptorIndex := 6, attributes := #[] }, { accessFlags := 18, nameIndex := 9, descriptorIndex := 10, attributes := #[] }, { accessFlags := 2, nameIndex := 19, descriptorIndex := 10, attributes := #[] }])
  fields := #[{ name := "name", type := (.object "java/lang/String"), accessFlags := 18, slot := 0, constantValue := 0 }, { name := "ordinal", type := .int, accessFlags := 18, slot := 1, constantValue := 0 }, { name := "hash", type := .int, accessFlags := 2, slot := 2, constantValue := 0 }]
  methods := #[]
  instanceTypes := #[(.object "java/lang/String"), .int, .int]
  staticTypes := #[]
  resolved := Array.replicate 204 none
  statics := none }

def pool6 : Array CpInfo := pool [(1, .class_ 2), (0, u "com/example/trailwire/trailwire/status/StatusCode"), (2, u "OK"), (0, u "Lcom/example/trailwire/trailwire/status/StatusCode;"), (0, .fieldref 1 8), (0, .nameAndType 9 6), (0, u "CANCELLED"), (2, u "UNKNOWN"), (2, u "INVALID_ARGUMENT"), (2, u "DEADLINE_EXCEEDED"), (2, u "NOT_FOUND"), (2, u "ALREADY_EXISTS"), (0, .fieldref 1 26), (0, .nameAndType 27 6), (0, u "PERMISSION_DENIED"), (0, .fieldref 1 29), (0, .nameAndType 30 6), (0, u "RESOURCE_EXHAUSTED"), (2, u "FAILED_PRECONDITION"), (2, u "ABORTED"), (2, u "OUT_OF_RANGE"), (2, u "UNIMPLEMENTED"), (0, .fieldref 1 44), (0, .nameAndType 45 6), (0, u "INTERNAL"), (0, .fieldref 1 47), (0, .nameAndType 48 6), (0, u "UNAVAILABLE"), (2, u "DATA_LOSS"), (2, u "UNAUTHENTICATED"), (2, u "$VALUES"), (0, u "[Lcom/example/trailwire/trailwire/status/StatusCode;"), (6, .class_ 67), (1, u "java/lang/Enum"), (8, u "number"), (0, u "I"), (8, u "headerValue"), (0, u "Ljava/lang/String;"), (2, u "BY_NUMBER"), (26, .long 7), (1, .long 8), (1, .long 11), (1, .long 12), (31, u "HTTP2_REFUSED_STREAM"), (0, u "J"), (1, u "HTTP2_CANCEL"), (0, u "HTTP2_ENHANCE_YOUR_CALM"), (0, u "HTTP2_INADEQUATE_SECURITY"), (11, u "forHttp2ErrorCode"), (0, u "(J)Lcom/example/trailwire/trailwire/status/StatusCode;")] 5

def k6c0 : Code := { maxStack := 4, maxLocals := 3, code := prog_23_method_10_code, exceptionTable := #[], attributes := #[] }
def k6m0 : Method := { name := "forHttp2ErrorCode", desc := "(J)Lcom/example/trailwire/trailwire/status/StatusCode;", sig := { parameters := [.long], returnType := some (.object "com/example/trailwire/trailwire/status/StatusCode") }, accessFlags := 9, code := some k6c0 }
/-- com/example/trailwire/trailwire/status/StatusCode -/
def k6 : Class := { plain "com/example/trailwire/trailwire/status/StatusCode" (some 5) with
  accessFlags := 16433
  interfaces := #[]
  cf := some (fileOf pool6 1 #[] #[{ accessFlags := 9, nameIndex := 172, descriptorIndex := 173, attributes := #[] }] 16433 65 #[] #[{ accessFlags := 16409, nameIndex := 5, descriptorIndex := 6, attributes := #[] }, { accessFlags := 16409, nameIndex := 9, descriptorIndex := 6, attributes := #[] }, { accessFlags := 16409, nameIndex := 12, descriptorIndex := 6, attributes := #[] }, { accessFlags := 16409, nameIndex := 15, descriptorIndex := 6, attributes := #[] }, { accessFlags := 16409, nameIndex := 18, descriptorIndex := 6, attributes := #[] }, { accessFlags := 16409, nameIndex := 21, descriptorIndex := 6, attributes := #[] }, { accessFlags := 16409, nameIndex := 24, descriptorIndex := 6, attributes := #[] }, { accessFlags := 16409, nameIndex := 27, descriptorIndex := 6, attributes := #[] }, { accessFlags := 16409, nameIndex := 30, descriptorIndex := 6, attributes := #[] }, { accessFlags := 16409, nameIndex := 33, descriptorIndex := 6, attributes := #[] }, { accessFlags := 16409, nameIndex := 36, descriptorIndex := 6, attributes := #[] }, { accessFlags := 16409, nameIndex := 39, descriptorIndex := 6, attributes := #[] }, { accessFlags := 16409, nameIndex := 42, descriptorIndex := 6, attributes := #[] }, { accessFlags := 16409, nameIndex := 45, descriptorIndex := 6, attributes := #[] }, { accessFlags := 16409, nameIndex := 48, descriptorIndex := 6, attributes := #[] }, { accessFlags := 16409, nameIndex := 51, descriptorIndex := 6, attributes := #[] }, { accessFlags := 16409, nameIndex := 54, descriptorIndex := 6, attributes := #[] }, { accessFlags := 26, nameIndex := 90, descriptorIndex := 58, attributes := #[] }, { accessFlags := 26, nameIndex := 155, descriptorIndex := 156, attributes := #[] }, { accessFlags := 26, nameIndex := 158, descriptorIndex := 156, attributes := #[] }, { accessFlags := 26, nameIndex := 159, descriptorIndex := 156, attributes := #[] }, { accessFlags := 26, nameIndex := 160, descriptorIndex := 156, attributes := #[] }, { accessFlags := 18, nameIndex := 76, descriptorIndex := 77, attributes := #[] }, { accessFlags := 18, nameIndex := 86, descriptorIndex := 87, attributes := #[] }, { accessFlags := 4122, nameIndex := 57, descriptorIndex := 58, attributes := #[] }])
  fields := #[{ name := "OK", type := (.object "com/example/trailwire/trailwire/status/StatusCode"), accessFlags := 16409, slot := 0, constantValue := 0 }, { name := "CANCELLED", type := (.object "com/example/trailwire/trailwire/status/StatusCode"), accessFlags := 16409, slot := 1, constantValue := 0 }, { name := "UNKNOWN", type := (.object "com/example/trailwire/trailwire/status/StatusCode"), accessFlags := 16409, slot := 2, constantValue := 0 }, { name := "INVALID_ARGUMENT", type := (.object "com/example/trailwire/trailwire/status/StatusCode"), accessFlags := 16409, slot := 3, constantValue := 0 }, { name := "DEADLINE_EXCEEDED", type := (.object "com/example/trailwire/trailwire/status/StatusCode"), accessFlags := 16409, slot := 4, constantValue := 0 }, { name := "NOT_FOUND", type := (.object "com/example/trailwire/trailwire/status/StatusCode"), accessFlags := 16409, slot := 5, constantValue := 0 }, { name := "ALREADY_EXISTS", type := (.object "com/example/trailwire/trailwire/status/StatusCode"), accessFlags := 16409, slot := 6, constantValue := 0 }, { name := "PERMISSION_DENIED", type := (.object "com/example/trailwire/trailwire/status/StatusCode"), accessFlags := 16409, slot := 7, constantValue := 0 }, { name := "RESOURCE_EXHAUSTED", type := (.object "com/example/trailwire/trailwire/status/StatusCode"), accessFlags := 16409, slot := 8, constantValue := 0 }, { name := "FAILED_PRECONDITION", type := (.object "com/example/trailwire/trailwire/status/StatusCode"), accessFlags := 16409, slot := 9, constantValue := 0 }, { name := "ABORTED", type := (.object "com/example/trailwire/trailwire/status/StatusCode"), accessFlags := 16409, slot := 10, constantValue := 0 }, { name := "OUT_OF_RANGE", type := (.object "com/example/trailwire/trailwire/status/StatusCode"), accessFlags := 16409, slot := 11, constantValue := 0 }, { name := "UNIMPLEMENTED", type := (.object "com/example/trailwire/trailwire/status/StatusCode"), accessFlags := 16409, slot := 12, constantValue := 0 }, { name := "INTERNAL", type := (.object "com/example/trailwire/trailwire/status/StatusCode"), accessFlags := 16409, slot := 13, constantValue := 0 }, { name := "UNAVAILABLE", type := (.object "com/example/trailwire/trailwire/status/StatusCode"), accessFlags := 16409, slot := 14, constantValue := 0 }, { name := "DATA_LOSS", type := (.object "com/example/trailwire/trailwire/status/StatusCode"), accessFlags := 16409, slot := 15, constantValue := 0 }, { name := "UNAUTHENTICATED", type := (.object "com/example/trailwire/trailwire/status/StatusCode"), accessFlags := 16409, slot := 16, constantValue := 0 }, { name := "BY_NUMBER", type := (.array (.object "com/example/trailwire/trailwire/status/StatusCode")), accessFlags := 26, slot := 17, constantValue := 0 }, { name := "HTTP2_REFUSED_STREAM", type := .long, accessFlags := 26, slot := 18, constantValue := 0 }, { name := "HTTP2_CANCEL", type := .long, accessFlags := 26, slot := 19, constantValue := 0 }, { name := "HTTP2_ENHANCE_YOUR_CALM", type := .long, accessFlags := 26, slot := 20, constantValue := 0 }, { name := "HTTP2_INADEQUATE_SECURITY", type := .long, accessFlags := 26, slot := 21, constantValue := 0 }, { name := "number", type := .int, accessFlags := 18, slot := 3, constantValue := 0 }, { name := "headerValue", type := (.object "java/lang/String"), accessFlags := 18, slot := 4, constantValue := 0 }, { name := "$VALUES", type := (.array (.object "com/example/trailwire/trailwire/status/StatusCode")), accessFlags := 4122, slot := 22, constantValue := 0 }]
  methods := #[k6m0]
  instanceTypes := #[(.object "java/lang/String"), .int, .int, .int, (.object "java/lang/String")]
  staticTypes := #[(.object "com/example/trailwire/trailwire/status/StatusCode"), (.object "com/example/trailwire/trailwire/status/StatusCode"), (.object "com/example/trailwire/trailwire/status/StatusCode"), (.object "com/example/trailwire/trailwire/status/StatusCode"), (.object "com/example/trailwire/trailwire/status/StatusCode"), (.object "com/example/trailwire/trailwire/status/StatusCode"), (.object "com/example/trailwire/trailwire/status/StatusCode"), (.object "com/example/trailwire/trailwire/status/StatusCode"), (.object "com/example/trailwire/trailwire/status/StatusCode"), (.object "com/example/trailwire/trailwire/status/StatusCode"), (.object "com/example/trailwire/trailwire/status/StatusCode"), (.object "com/example/trailwire/trailwire/status/StatusCode"), (.object "com/example/trailwire/trailwire/status/StatusCode"), (.object "com/example/trailwire/trailwire/status/StatusCode"), (.object "com/example/trailwire/trailwire/status/StatusCode"), (.object "com/example/trailwire/trailwire/status/StatusCode"), (.object "com/example/trailwire/trailwire/status/StatusCode"), (.array (.object "com/example/trailwire/trailwire/status/StatusCode")), .long, .long, .long, .long, (.array (.object "com/example/trailwire/trailwire/status/StatusCode"))]
  resolved := Array.replicate 179 none
  statics := some 0 }

def pool7 : Array CpInfo := pool [(1, u "java/lang/Cloneable"), (0, .class_ 1), (0, u "java/lang/Object"), (0, .class_ 3)] 3

/-- java/lang/Cloneable -/
def k7 : Class := { plain "java/lang/Cloneable" (some 0) with
  accessFlags := 1537
  interfaces := #[]
  cf := some (fileOf pool7 2 #[] #[] 1537 4 #[] #[])
  fields := #[]
  methods := #[]
  instanceTypes := #[]
  staticTypes := #[]
  resolved := Array.replicate 8 none
  statics := none }

/-- the primitive byte -/
def k8 : Class := { plain "byte" none with kind := .primitive 'B', accessFlags := 0x411 }
/-- [B -/
def k9 : Class := { plain "[B" (some 0) with kind := .array 8 .byte, interfaces := #[7, 4], accessFlags := 1041 }

/-- the primitive int -/
def k10 : Class := { plain "int" none with kind := .primitive 'I', accessFlags := 0x411 }
/-- [I -/
def k11 : Class := { plain "[I" (some 0) with kind := .array 10 .int, interfaces := #[7, 4], accessFlags := 1041 }

def heap : Heap := #[{ cls := 6, slots := #[.null, .ref 5, .null, .null, .null, .null, .null, .ref 2, .ref 4, .null, .null, .null, .null, .ref 1, .ref 3, .null, .null, .null, .long 0, .long 0, .long 0, .long 0, .null], vm := .statics 6 },
  { cls := 6, slots := #[.null, .int 0, .int 0, .int 0, .null], vm := .none },
  { cls := 6, slots := #[.null, .int 0, .int 0, .int 0, .null], vm := .none },
  { cls := 6, slots := #[.null, .int 0, .int 0, .int 0, .null], vm := .none },
  { cls := 6, slots := #[.null, .int 0, .int 0, .int 0, .null], vm := .none },
  { cls := 6, slots := #[.null, .int 0, .int 0, .int 0, .null], vm := .none }]
def classes : Array Class := #[k0, k1, k2, k3, k4, k5, k6, k7, k8, k9, k10, k11]
def interned : List (Array UInt16 × Addr) := []
def slotsUsed : Nat := 48
def theMethod : MethodId := ⟨1, 1⟩
def args0 : Array Value := #[.long 5, .int 6]
def aboutOver (below : List Frame) : State where
  vm := { classes := classes, interned := interned.toArray }
  heap := heap
  slotsUsed := slotsUsed
  threads := #[{ frames := .invoking theMethod args0 :: below }]
def below0 : List Frame := [.native { method := ⟨0, 0⟩, args := #[] }]
def about1 : State := aboutOver below0
def p0 : Program := .bare "" "" ""
def e0 : Env := launch0.env 0 0 0
theorem w_frames : about1.frames = Frame.invoking theMethod args0 :: below0 := rfl
set_option maxRecDepth 65536 in
theorem w_args : argsFit about1.vm theMethod args0 = true := by decide +kernel
set_option maxRecDepth 65536 in
theorem w_heap : heapFits about1 = true := by decide +kernel
set_option maxRecDepth 65536 in
theorem w_runnable : about1.curStatus? = some .runnable := by decide +kernel
set_option maxRecDepth 65536 in
theorem w_alone : about1.alone = true := by decide +kernel
set_option maxRecDepth 65536 in
theorem w_named : about1.methodNamed? x = some theMethod := by decide +kernel
set_option maxRecDepth 65536 in
theorem w_hears : about1.hears theMethod below0 = true := by decide +kernel
set_option maxRecDepth 65536 in
theorem w_ripe : about1.ripe theMethod args0 below0 = true := by decide +kernel
theorem w_running : about1.status = .running := rfl
set_option maxRecDepth 65536 in
theorem w_room : about1.hasRoom e0.platform room_1 = true :=
  launch0.hasRoom_least _ room_1 (by decide +kernel) (by decide +kernel) (by decide +kernel) (by decide +kernel) (by decide +kernel) (by decide +kernel)
theorem allAtoms_all (ts : List Jvm.Cond) (a : Array Jvm.Value) (st : Jvm.State) : (allAtoms ts).before a st = ts.all (fun c => c.before a st) := by
  induction ts with
  | nil => rfl
  | cons c t ih =>
    show (Jvm.Cond.and c (allAtoms t)).before a st = _
    rw [Jvm.Cond.before_and, ih, List.all_cons]
def words1 : List Jvm.Cond := Jvm.Cond.code x code maxLocals ret :: tables_1
/-- a 'code' word, met by the world's own term for the bytes: nothing is compared byte by byte -/
theorem code_word {y : MethodName} {bytes : ByteArray} {mx : Nat} {rt : Option FieldType} {a : Array Value} {s : State} {m : MethodId} {meth : Method} {c : Code} (h1 : s.methodNamed? y = some m) (h2 : s.vm.method? m = some meth) (h3 : meth.code = some c) (h4 : c.code = bytes)
    (h5 : (c.maxLocals == mx && c.exceptionTable.isEmpty && decide (c.maxStack ≤ mostOperands) && decide (meth.sig.returnType = rt) && !meth.locks && decide (parseMethodDescriptor y.desc = some meth.sig)) = true) : (Jvm.Cond.code y bytes mx rt).before a s = true := by
  simp only [Bool.and_eq_true, beq_iff_eq, Bool.not_eq_true', decide_eq_true_eq] at h5
  obtain ⟨⟨⟨⟨⟨g1, g2⟩, g3⟩, g4⟩, g5⟩, g6⟩ := h5
  simp [Cond.before, Cond.holds, Cond.value, h1, h2, h3, h4, g1, g2, g3, g4, g5, g6]
def isCode : Jvm.Cond → Bool
  | .code _ _ _ _ => true
  | _ => false
theorem all_split {L : List Jvm.Cond} {P : Jvm.Cond → Bool} (h1 : L.all (fun c => isCode c || P c) = true) (h2 : ∀ c ∈ L.filter isCode, P c = true) : L.all P = true := by
  refine List.all_eq_true.mpr fun c hc => ?_
  have h := List.all_eq_true.mp h1 c hc
  rcases Bool.eq_false_or_eq_true (isCode c) with hi | hi
  · exact h2 c (List.mem_filter.mpr ⟨hc, hi⟩)
  · simpa [hi] using h
set_option maxRecDepth 65536 in
theorem w_c0 : (Jvm.Cond.code x code maxLocals ret).before args0 about1 = true := code_word (m := ⟨1, 1⟩) (meth := k1m1) (c := k1c1) (by decide +kernel) rfl rfl rfl (by decide +kernel)
set_option maxRecDepth 65536 in
theorem w_c1 : (Jvm.Cond.code ({ cls := "com/example/trailwire/trailwire/status/StatusCode", name := "forHttp2ErrorCode", desc := "(J)Lcom/example/trailwire/trailwire/status/StatusCode;" } : Jvm.MethodName) prog_23_method_10_code (3 : Nat) (Option.some (Jvm.ClassFile.FieldType.object "com/example/trailwire/trailwire/status/StatusCode"))).before args0 about1 = true := code_word (m := ⟨6, 0⟩) (meth := k6m0) (c := k6c0) (by decide +kernel) rfl rfl rfl (by decide +kernel)
set_option maxRecDepth 65536 in
theorem w_c2 : (Jvm.Cond.code ({ cls := "com/example/trailwire/trailwire/status/StatusCodeForHttp2ErrorCodePinLaw", name := "expected", desc := "(J)Lcom/example/trailwire/trailwire/status/StatusCode;" } : Jvm.MethodName) method_3_code (3 : Nat) (Option.some (Jvm.ClassFile.FieldType.object "com/example/trailwire/trailwire/status/StatusCode"))).before args0 about1 = true := code_word (m := ⟨1, 2⟩) (meth := k1m2) (c := k1c2) (by decide +kernel) rfl rfl rfl (by decide +kernel)
def codes1 : List Jvm.Cond := [Jvm.Cond.code x code maxLocals ret, Jvm.Cond.code ({ cls := "com/example/trailwire/trailwire/status/StatusCode", name := "forHttp2ErrorCode", desc := "(J)Lcom/example/trailwire/trailwire/status/StatusCode;" } : Jvm.MethodName) prog_23_method_10_code (3 : Nat) (Option.some (Jvm.ClassFile.FieldType.object "com/example/trailwire/trailwire/status/StatusCode")), Jvm.Cond.code ({ cls := "com/example/trailwire/trailwire/status/StatusCodeForHttp2ErrorCodePinLaw", name := "expected", desc := "(J)Lcom/example/trailwire/trailwire/status/StatusCode;" } : Jvm.MethodName) method_3_code (3 : Nat) (Option.some (Jvm.ClassFile.FieldType.object "com/example/trailwire/trailwire/status/StatusCode"))]
set_option maxRecDepth 65536 in
theorem codes_eq : words1.filter isCode = codes1 := rfl
theorem w_codes : ∀ c ∈ words1.filter isCode, c.before args0 about1 = true := by
  rw [codes_eq]
  intro c hc
  simp only [codes1, List.mem_cons, List.not_mem_nil, or_false] at hc
  rcases hc with rfl | rfl | rfl
  · exact w_c0
  · exact w_c1
  · exact w_c2
set_option maxRecDepth 65536 in
theorem w_t1 : (words1.take 24).all (fun c => isCode c || c.before args0 about1) = true := by decide +kernel
set_option maxRecDepth 65536 in
theorem w_t2 : (words1.drop 24).all (fun c => isCode c || c.before args0 about1) = true := by decide +kernel
theorem w_tables : (allAtoms (Jvm.Cond.code x code maxLocals ret :: tables_1)).before args0 about1 = true := by
  rw [allAtoms_all]
  show words1.all (fun c => c.before args0 about1) = true
  refine all_split ?_ w_codes
  rw [← List.take_append_drop 24 words1, List.all_append, w_t1, w_t2]
  rfl
set_option maxRecDepth 65536 in
theorem w_case : (Jvm.Cond.and given_1 narrow_1).before args0 about1 = true := by decide +kernel
theorem w_applies : (headSpec (Jvm.Cond.code x code maxLocals ret :: tables_1) room_1).applies x e0.platform about1 = true :=
  (Spec.applies_iff w_frames).mpr ⟨w_running, w_runnable, w_alone, w_named, w_hears, w_ripe, w_room, w_tables⟩
theorem atStart : AtStart classFile x code maxLocals ret World_1 tables_1 room_1 Calls_1 rest_1 Pre_1 launch0 p0 e0 about1 theMethod args0 below0 :=
  ⟨lists_1, trivial, launch0.admits_env _ _ _, launch0.least_env, fairChoices_fair.cas, fairChoices_fair.clock, w_frames, w_args, w_heap, w_applies, trivial, trivial, w_case⟩
end start1
theorem witness_1 : WitnessClaimed_1 := ⟨start1.p0, start1.e0, start1.about1, start1.theMethod, start1.args0, start1.below0, start1.atStart⟩
end Jvm.Pilot.@@N@@
