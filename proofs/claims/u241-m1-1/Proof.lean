import JvmDerived
import JvmDerived.Pilot.@@N@@Statement
import JvmDerived.Pilot.@@N@@Code
set_option linter.unusedVariables false
set_option linter.unusedSimpArgs false
namespace Jvm.RoadKit
open Sem ClassFile Op Lib Jvm.Stand Jvm.Free Jvm.LawKit
section New
variable {p : Program} {l : Launch} {e : Env} {R : Room} {s : State} {m : MethodId} {args : Array Value} {below : List Frame} {meth : Method} {c : Code} {T : State} {locs : List Loc} {cells slots : Nat}
theorem retI (X : Stand p l e R s m args below meth c T locs cells slots) (hx : p.tables.exec = Jvm.exec) {pc : Nat} {Ls : Array Slot} {z : Int32} {rest : List Value} (hret : meth.sig.returnType = some .int) (hd : decode c.code pc = .ok (.ireturn, 1)) {fs : List Frame}
    (hl : ∀ (f : JFrame) (acts : List Action), f.method = m → f.locked = none → f.entered = [] → (doReturn e (T.setTop f) acts (some (.int z))).1 = T.setFrames fs) : Steps p.tables e below (T.setTop (mkF m pc Ls (.int z :: rest))) (T.setFrames fs) :=
  retOut X hx hret rfl (Or.inl ⟨rfl, Or.inl rfl, z, rfl⟩) hd hl
end New
end Jvm.RoadKit
namespace Jvm.Pilot.@@N@@
open Jvm Jvm.ClassFile Sem Op Lib Jvm.Free Jvm.Stand Jvm.LawKit Jvm.RoadKit Bundle Jvm.Pilot.@@N@@.Jvm.D
/-! small laws of this text's own -/
theorem own_eqv {args : Array Value} {first s : State} {o : Option Outcome} {idx : List Nat} {a b : Term} {v : Value} (h : (Jvm.Cond.eq a b).value args first o s idx = some true) (hb : b.eval args first o idx s = some v) : a.eval args first o idx s = some v := by
  cases ha : a.eval args first o idx s with
  | none => simp [Cond.value, ha] at h
  | some x => cases x <;> cases v <;> simp_all [Cond.value]
theorem own_fld {args : Array Value} {s : State} {t b : Term} {x : Addr} {C n d : String} {v : Value} (ht : t.eval args s none [] s = some (.ref x)) (h : (Jvm.Cond.eq (.field t C n d) b).value args s none s [] = some true) (hb : b.eval args s none [] s = some v) : Fld s s.heap x C n d v :=
  Fld.start ((fld_at ht).symm.trans (own_eqv h hb))
theorem own_len {args : Array Value} {s : State} {t : Term} {x : Addr} {c : Cell} {n : Int32} (ht : t.eval args s none [] s = some (.ref x)) (hc : s.heap[x]? = some c) (h : (Jvm.Cond.eq (.length t) (.int n)).value args s none s [] = some true) : c.slots.size < 2 ^ 31 ∧ c.slots.size.toInt32 = n := by
  have e := own_eqv h (v := .int n) rfl
  simp only [Term.eval, ht, Option.bind_eq_bind, Option.bind_some] at e
  cases hq : s.arrayAt? x with
  | none => simp [hq] at e
  | some c' =>
    have h1 := (State.arrayAt?_spec hq).1
    cases hc.symm.trans h1
    simp only [hq, Option.bind_some] at e
    split at e
    · rename_i hl; exact ⟨hl, by simpa using e⟩
    · cases e
theorem own_elem {args : Array Value} {s : State} {t b : Term} {x : Addr} {c : Cell} {j : Int32} {v : Value} (ht : t.eval args s none [] s = some (.ref x)) (hc : s.heap[x]? = some c) (h : (Jvm.Cond.eq (.elem t (.int j)) b).value args s none s [] = some true) (hb : b.eval args s none [] s = some v) : c.slots[j.toNatClampNeg]? = some v :=
  (elem_in (own_eqv h hb) ht rfl hc).2
theorem own_selpriv {y : MethodName} {s : State} {args : Array Value} {n : Nat} (hy : y.cls ≠ "java/lang/invoke/MethodHandle" ∧ y.cls ≠ "java/lang/invoke/VarHandle") (hins : (Jvm.Cond.instantiable y.cls n).before args s = true) (hpriv : (Jvm.Cond.privateMethod y).before args s = true) (hinst : (Jvm.Cond.instanceMethod y).before args s = true) : (Jvm.Cond.selects y.cls y y).before args s = true := by
  obtain ⟨c, k, hc, hk, -, hniab, -, -⟩ := Cond.instantiable_spec hins
  exact Stand.selects_self_of_private hc hk (Bool.or_eq_false_iff.mp hniab).1 (Cond.privateMethod_at hpriv) hinst hy
theorem own_ext {h0 h : Heap} (K : Keep h0 h []) : Ext h0 h := ⟨K.1, fun x c q => K.2.1 x c q (fun z => nomatch z)⟩
theorem own_cat1 {v : Value} (h : v.isRef = true) : v.category = 1 := by cases v <;> first | rfl | simp [Value.isRef] at h
theorem own_narref {t : FieldType} {v : Value} (h : t.isReference = true) (hv : v.isRef = true) : narrow t v = v := by
  cases v <;> first | (simp [Value.isRef] at hv; done) | (cases t <;> first | rfl | simp [FieldType.isReference] at h)
theorem own_store1 {l : Array Slot} {i : Nat} {v : Value} {o : Slot} (hold : l[i]? = some o) (ho : o = .unset ∨ ∃ w, o = .val w ∧ w.category = 1) (hv : v.category = 1) : storeLocals l i v = some (l.setIfInBounds i (.val v)) := XS.store1 hold ho hv
def own_Base (Z : State) (u : Nat → Addr) : Prop :=
  (Sta Z Z.heap "com/example/trailwire/trailwire/status/StatusCode" "INTERNAL" "Lcom/example/trailwire/trailwire/status/StatusCode;" (.ref (u 0))) ∧
  (Exa Z Z.heap (u 0) "com/example/trailwire/trailwire/status/StatusCode") ∧
  (Sta Z Z.heap "com/example/trailwire/trailwire/status/StatusCode" "UNKNOWN" "Lcom/example/trailwire/trailwire/status/StatusCode;" (.ref (u 1))) ∧
  (Exa Z Z.heap (u 1) "com/example/trailwire/trailwire/status/StatusCode") ∧
  (Sta Z Z.heap "com/example/trailwire/trailwire/status/StatusCode" "PERMISSION_DENIED" "Lcom/example/trailwire/trailwire/status/StatusCode;" (.ref (u 2))) ∧
  (Exa Z Z.heap (u 2) "com/example/trailwire/trailwire/status/StatusCode") ∧
  (Sta Z Z.heap "com/example/trailwire/trailwire/status/StatusCode" "UNAVAILABLE" "Lcom/example/trailwire/trailwire/status/StatusCode;" (.ref (u 3))) ∧
  (Exa Z Z.heap (u 3) "com/example/trailwire/trailwire/status/StatusCode") ∧
  (Sta Z Z.heap "com/example/trailwire/trailwire/status/StatusCode" "UNIMPLEMENTED" "Lcom/example/trailwire/trailwire/status/StatusCode;" (.ref (u 4))) ∧
  (Exa Z Z.heap (u 4) "com/example/trailwire/trailwire/status/StatusCode") ∧
  (Sta Z Z.heap "com/example/trailwire/trailwire/status/StatusCode" "UNAUTHENTICATED" "Lcom/example/trailwire/trailwire/status/StatusCode;" (.ref (u 5))) ∧
  (Exa Z Z.heap (u 5) "com/example/trailwire/trailwire/status/StatusCode")
theorem own_pd0 : parseMethodDescriptor "(I)Lcom/example/trailwire/trailwire/status/StatusCode;" = some ⟨[.int], some (.object "com/example/trailwire/trailwire/status/StatusCode")⟩ := by decide +kernel
theorem d2_0 : decode method_2_code 0 = .ok (.iload_n 0, 1) := by decide +kernel
theorem d2_1 : decode method_2_code 1 = .ok (.sipush 400, 3) := by decide +kernel
theorem d2_4 : decode method_2_code 4 = .ok (.if_icmp .ne 7, 3) := by decide +kernel
theorem d2_7 : decode method_2_code 7 = .ok (.getstatic 7, 3) := by decide +kernel
theorem d2_10 : decode method_2_code 10 = .ok (.areturn, 1) := by decide +kernel
theorem d2_11 : decode method_2_code 11 = .ok (.iload_n 0, 1) := by decide +kernel
theorem d2_12 : decode method_2_code 12 = .ok (.sipush 401, 3) := by decide +kernel
theorem d2_15 : decode method_2_code 15 = .ok (.if_icmp .ne 7, 3) := by decide +kernel
theorem d2_18 : decode method_2_code 18 = .ok (.getstatic 13, 3) := by decide +kernel
theorem d2_21 : decode method_2_code 21 = .ok (.areturn, 1) := by decide +kernel
theorem d2_22 : decode method_2_code 22 = .ok (.iload_n 0, 1) := by decide +kernel
theorem d2_23 : decode method_2_code 23 = .ok (.sipush 403, 3) := by decide +kernel
theorem d2_26 : decode method_2_code 26 = .ok (.if_icmp .ne 7, 3) := by decide +kernel
theorem d2_29 : decode method_2_code 29 = .ok (.getstatic 16, 3) := by decide +kernel
theorem d2_32 : decode method_2_code 32 = .ok (.areturn, 1) := by decide +kernel
theorem d2_33 : decode method_2_code 33 = .ok (.iload_n 0, 1) := by decide +kernel
theorem d2_34 : decode method_2_code 34 = .ok (.sipush 404, 3) := by decide +kernel
theorem d2_37 : decode method_2_code 37 = .ok (.if_icmp .ne 7, 3) := by decide +kernel
theorem d2_40 : decode method_2_code 40 = .ok (.getstatic 19, 3) := by decide +kernel
theorem d2_43 : decode method_2_code 43 = .ok (.areturn, 1) := by decide +kernel
theorem d2_44 : decode method_2_code 44 = .ok (.iload_n 0, 1) := by decide +kernel
theorem d2_45 : decode method_2_code 45 = .ok (.sipush 429, 3) := by decide +kernel
theorem d2_48 : decode method_2_code 48 = .ok (.if_icmp .eq 24, 3) := by decide +kernel
theorem d2_51 : decode method_2_code 51 = .ok (.iload_n 0, 1) := by decide +kernel
theorem d2_52 : decode method_2_code 52 = .ok (.sipush 502, 3) := by decide +kernel
theorem d2_55 : decode method_2_code 55 = .ok (.if_icmp .eq 17, 3) := by decide +kernel
theorem d2_58 : decode method_2_code 58 = .ok (.iload_n 0, 1) := by decide +kernel
theorem d2_59 : decode method_2_code 59 = .ok (.sipush 503, 3) := by decide +kernel
theorem d2_62 : decode method_2_code 62 = .ok (.if_icmp .eq 10, 3) := by decide +kernel
theorem d2_65 : decode method_2_code 65 = .ok (.iload_n 0, 1) := by decide +kernel
theorem d2_66 : decode method_2_code 66 = .ok (.sipush 504, 3) := by decide +kernel
theorem d2_69 : decode method_2_code 69 = .ok (.if_icmp .ne 7, 3) := by decide +kernel
theorem d2_72 : decode method_2_code 72 = .ok (.getstatic 22, 3) := by decide +kernel
theorem d2_75 : decode method_2_code 75 = .ok (.areturn, 1) := by decide +kernel
theorem d2_76 : decode method_2_code 76 = .ok (.getstatic 25, 3) := by decide +kernel
theorem d2_79 : decode method_2_code 79 = .ok (.areturn, 1) := by decide +kernel
theorem own_pn_2 : plainName "com/example/trailwire/trailwire/status/StatusCodeForHttpStatusPinLaw" = true := by first | (simp [plainName, overriddenIn]; done) | decide +kernel
theorem own_ef_2 (m : MethodId) (x0 : Int32) : entryFrame m #[(.int x0)] 1 = mkF m 0 #[.val (.int x0)] [] := by first | (simp [entryFrame, mkF, argsToLocals, Value.category]; done) | rfl
def own_r2 (u : Nat → Addr) (p0 : Int32) : Addr :=
  if p0 = (400 : Int32) then
    (u 0)
  else
    if p0 = (401 : Int32) then
      (u 5)
    else
      if p0 = (403 : Int32) then
        (u 2)
      else
        if p0 = (404 : Int32) then
          (u 4)
        else
          if p0 = (429 : Int32) then
            (u 3)
          else
            if p0 = (502 : Int32) then
              (u 3)
            else
              if p0 = (503 : Int32) then
                (u 3)
              else
                if p0 = (504 : Int32) then
                  (u 3)
                else
                  (u 1)
def own_Q2 (Z : State) (u : Nat → Addr) (p0 : Int32) (h0 : Heap) (n0 : Nat) (v : Option Value) (h : Heap) (L : List Loc) : Prop := v = some (.ref (own_r2 u p0)) ∧ Fr n0 L ∧ h = h0
set_option maxRecDepth 65536 in
set_option maxHeartbeats 40000000 in
theorem rm2 (l : Launch) (Z : State) (a0 : Array Value) (hw : ∀ d ∈ tables_1, d.before a0 Z = true) (ws : List Jvm.Cond) (u : Nat → Addr) (p0 : Int32) (B : own_Base Z u) (h0 : Heap) (n0 : Nat) (O : Old Z n0 h0) :
    MetFree l (⟨"com/example/trailwire/trailwire/status/StatusCodeForHttpStatusPinLaw", "expected", "(I)Lcom/example/trailwire/trailwire/status/StatusCode;"⟩ : MethodName) (head1 (Jvm.Cond.code (⟨"com/example/trailwire/trailwire/status/StatusCodeForHttpStatusPinLaw", "expected", "(I)Lcom/example/trailwire/trailwire/status/StatusCode;"⟩ : MethodName) method_2_code 1 (some (.object "com/example/trailwire/trailwire/status/StatusCode")) :: ws) ({ frames := 0, cells := 0, slots := 0, locals := 0 } : Room)) (fun a U => a = #[(.int p0)] ∧ Z.Warmed39 U.vm ∧ U.heap = h0) (fun _ _ _ _ _ => True) (fun _ U o U' => ∃ v L, o = .returned v ∧ own_Q2 Z u p0 h0 n0 v U'.heap L ∧ FrameEnd U o U' L ({ frames := 0, cells := 0, slots := 0, locals := 0 } : Room).cells ({ frames := 0, cells := 0, slots := 0, locals := 0 } : Room).slots) := by
  refine MetFree.of_bodySF (plainFor_of_name own_pn_2) hisR ?_
  intro p e s m args below meth c s₁ Bd hml0 hP hK
  obtain ⟨rfl, hZ, hh⟩ := hP
  have hx := Bd.exec
  have hby := Bd.bytes
  have hml : c.maxLocals = 1 := hml0
  have hown : s.vm.findClass "com/example/trailwire/trailwire/status/StatusCodeForHttpStatusPinLaw" = some m.cls := findClass_of_methodNamed Bd.named
  have hnm := (name_of_methodNamed Bd.named Bd.method).1
  have X0 : Stand p l e ({ frames := 0, cells := 0, slots := 0, locals := 0 } : Room) s m #[(.int p0)] below meth c s₁ [] 0 0 := Stand.of_body Bd
  have e0 : s₁.heap = h0 := by rw [← hh, Bd.state]; rfl
  have N0 := Fr.nil n0
  have K0 := Keep.refl h0 []
  have Z0 : n0 ≤ h0.size := O.1 ▸ O.2.1
  have pre0 : ∀ t, Steps p.tables e below (s₁.setTop (mkF m 0 #[.val (.int p0)] [])) t → Steps p.tables e below (s₁.setTop (entryFrame m #[(.int p0)] 1)) t := fun t k => castTop (own_ef_2 m p0) k
  have pre1 : ∀ t, Steps p.tables e below (s₁.setTop (mkF m 4 #[.val (.int p0)] [(.int (400 : Int32)), (.int p0)])) t → Steps p.tables e below (s₁.setTop (entryFrame m #[(.int p0)] 1)) t := fun t kt => pre0 t (by
    show Steps p.tables e below (s₁.setTop (mkF m 0 #[.val (.int p0)] [])) _
    refine XS.iloadN X0.here hx rfl (hb hby d2_0) rfl ?_
    show Steps p.tables e below (s₁.setTop (mkF m 1 #[.val (.int p0)] [(.int p0)])) _
    refine XS.sipush X0.here hx rfl (hb hby d2_1) ?_
    exact kt)
  by_cases hc2 : p0 = (400 : Int32)
  · --
    obtain ⟨T3, X3, e3, st3⟩ := getS2 X0 hx hZ hown (host := "") (Or.inl (hw _ (List.mem_of_getElem? (i := 10) rfl))) Via.refl e0 (B.1.ext O.2) (g := (mkF m 7 #[.val (.int p0)] [])) rfl (hb hby d2_7)
    obtain ⟨fs, hr, hrun, hended, hW, hsame⟩ := X3.leave (v := some (.ref (u 0))) (fun h => by rw [Bd.returns] at h; cases h)
    refine ⟨_, _, pre1 _ ?_, hrun, hended, _, _, rfl, ?_, ⟨_, rfl⟩, hW, hsame.mono (by decide) (by decide)⟩
    · show Steps p.tables e below (s₁.setTop (mkF m 4 #[.val (.int p0)] [(.int (400 : Int32)), (.int p0)])) _
      refine XS.icmpNo X0.here hx rfl (hb hby d2_4) rfl (teq hc2).2 ?_
      show Steps p.tables e below (s₁.setTop (mkF m 7 #[.val (.int p0)] [])) _
      refine st3 _ ?_
      show Steps p.tables e below (T3.setTop (mkF m 10 #[.val (.int p0)] [(.ref (u 0))])) _
      exact retOut X3 hx Bd.returns (own_narref rfl rfl) (Or.inr (Or.inr (Or.inr (Or.inr ⟨rfl, rfl, rfl⟩)))) (hb hby d2_10) hr
    · show own_Q2 Z u p0 h0 n0 _ T3.heap _
      rw [e3]
      exact ⟨(by unfold own_r2; rw [if_pos hc2]), N0, rfl⟩
  · --
    have pre5 : ∀ t, Steps p.tables e below (s₁.setTop (mkF m 15 #[.val (.int p0)] [(.int (401 : Int32)), (.int p0)])) t → Steps p.tables e below (s₁.setTop (entryFrame m #[(.int p0)] 1)) t := fun t kt => pre1 t (by
      show Steps p.tables e below (s₁.setTop (mkF m 4 #[.val (.int p0)] [(.int (400 : Int32)), (.int p0)])) _
      refine XS.icmpYes X0.here hx rfl (pc0 := 4) (pc' := 11) rfl (hb hby d2_4) rfl (feq hc2).2 (by decide) (by decide) ?_
      show Steps p.tables e below (s₁.setTop (mkF m 11 #[.val (.int p0)] [])) _
      refine XS.iloadN X0.here hx rfl (hb hby d2_11) rfl ?_
      show Steps p.tables e below (s₁.setTop (mkF m 12 #[.val (.int p0)] [(.int p0)])) _
      refine XS.sipush X0.here hx rfl (hb hby d2_12) ?_
      exact kt)
    by_cases hc6 : p0 = (401 : Int32)
    · --
      obtain ⟨T7, X7, e7, st7⟩ := getS2 X0 hx hZ hown (host := "") (Or.inl (hw _ (List.mem_of_getElem? (i := 25) rfl))) Via.refl e0 (B.2.2.2.2.2.2.2.2.2.2.1.ext O.2) (g := (mkF m 18 #[.val (.int p0)] [])) rfl (hb hby d2_18)
      obtain ⟨fs, hr, hrun, hended, hW, hsame⟩ := X7.leave (v := some (.ref (u 5))) (fun h => by rw [Bd.returns] at h; cases h)
      refine ⟨_, _, pre5 _ ?_, hrun, hended, _, _, rfl, ?_, ⟨_, rfl⟩, hW, hsame.mono (by decide) (by decide)⟩
      · show Steps p.tables e below (s₁.setTop (mkF m 15 #[.val (.int p0)] [(.int (401 : Int32)), (.int p0)])) _
        refine XS.icmpNo X0.here hx rfl (hb hby d2_15) rfl (teq hc6).2 ?_
        show Steps p.tables e below (s₁.setTop (mkF m 18 #[.val (.int p0)] [])) _
        refine st7 _ ?_
        show Steps p.tables e below (T7.setTop (mkF m 21 #[.val (.int p0)] [(.ref (u 5))])) _
        exact retOut X7 hx Bd.returns (own_narref rfl rfl) (Or.inr (Or.inr (Or.inr (Or.inr ⟨rfl, rfl, rfl⟩)))) (hb hby d2_21) hr
      · show own_Q2 Z u p0 h0 n0 _ T7.heap _
        rw [e7]
        exact ⟨(by unfold own_r2; rw [if_neg hc2, if_pos hc6]), N0, rfl⟩
    · --
      have pre9 : ∀ t, Steps p.tables e below (s₁.setTop (mkF m 26 #[.val (.int p0)] [(.int (403 : Int32)), (.int p0)])) t → Steps p.tables e below (s₁.setTop (entryFrame m #[(.int p0)] 1)) t := fun t kt => pre5 t (by
        show Steps p.tables e below (s₁.setTop (mkF m 15 #[.val (.int p0)] [(.int (401 : Int32)), (.int p0)])) _
        refine XS.icmpYes X0.here hx rfl (pc0 := 15) (pc' := 22) rfl (hb hby d2_15) rfl (feq hc6).2 (by decide) (by decide) ?_
        show Steps p.tables e below (s₁.setTop (mkF m 22 #[.val (.int p0)] [])) _
        refine XS.iloadN X0.here hx rfl (hb hby d2_22) rfl ?_
        show Steps p.tables e below (s₁.setTop (mkF m 23 #[.val (.int p0)] [(.int p0)])) _
        refine XS.sipush X0.here hx rfl (hb hby d2_23) ?_
        exact kt)
      by_cases hc10 : p0 = (403 : Int32)
      · --
        obtain ⟨T11, X11, e11, st11⟩ := getS2 X0 hx hZ hown (host := "") (Or.inl (hw _ (List.mem_of_getElem? (i := 16) rfl))) Via.refl e0 (B.2.2.2.2.1.ext O.2) (g := (mkF m 29 #[.val (.int p0)] [])) rfl (hb hby d2_29)
        obtain ⟨fs, hr, hrun, hended, hW, hsame⟩ := X11.leave (v := some (.ref (u 2))) (fun h => by rw [Bd.returns] at h; cases h)
        refine ⟨_, _, pre9 _ ?_, hrun, hended, _, _, rfl, ?_, ⟨_, rfl⟩, hW, hsame.mono (by decide) (by decide)⟩
        · show Steps p.tables e below (s₁.setTop (mkF m 26 #[.val (.int p0)] [(.int (403 : Int32)), (.int p0)])) _
          refine XS.icmpNo X0.here hx rfl (hb hby d2_26) rfl (teq hc10).2 ?_
          show Steps p.tables e below (s₁.setTop (mkF m 29 #[.val (.int p0)] [])) _
          refine st11 _ ?_
          show Steps p.tables e below (T11.setTop (mkF m 32 #[.val (.int p0)] [(.ref (u 2))])) _
          exact retOut X11 hx Bd.returns (own_narref rfl rfl) (Or.inr (Or.inr (Or.inr (Or.inr ⟨rfl, rfl, rfl⟩)))) (hb hby d2_32) hr
        · show own_Q2 Z u p0 h0 n0 _ T11.heap _
          rw [e11]
          exact ⟨(by unfold own_r2; rw [if_neg hc2, if_neg hc6, if_pos hc10]), N0, rfl⟩
      · --
        have pre13 : ∀ t, Steps p.tables e below (s₁.setTop (mkF m 37 #[.val (.int p0)] [(.int (404 : Int32)), (.int p0)])) t → Steps p.tables e below (s₁.setTop (entryFrame m #[(.int p0)] 1)) t := fun t kt => pre9 t (by
          show Steps p.tables e below (s₁.setTop (mkF m 26 #[.val (.int p0)] [(.int (403 : Int32)), (.int p0)])) _
          refine XS.icmpYes X0.here hx rfl (pc0 := 26) (pc' := 33) rfl (hb hby d2_26) rfl (feq hc10).2 (by decide) (by decide) ?_
          show Steps p.tables e below (s₁.setTop (mkF m 33 #[.val (.int p0)] [])) _
          refine XS.iloadN X0.here hx rfl (hb hby d2_33) rfl ?_
          show Steps p.tables e below (s₁.setTop (mkF m 34 #[.val (.int p0)] [(.int p0)])) _
          refine XS.sipush X0.here hx rfl (hb hby d2_34) ?_
          exact kt)
        by_cases hc14 : p0 = (404 : Int32)
        · --
          obtain ⟨T15, X15, e15, st15⟩ := getS2 X0 hx hZ hown (host := "") (Or.inl (hw _ (List.mem_of_getElem? (i := 22) rfl))) Via.refl e0 (B.2.2.2.2.2.2.2.2.1.ext O.2) (g := (mkF m 40 #[.val (.int p0)] [])) rfl (hb hby d2_40)
          obtain ⟨fs, hr, hrun, hended, hW, hsame⟩ := X15.leave (v := some (.ref (u 4))) (fun h => by rw [Bd.returns] at h; cases h)
          refine ⟨_, _, pre13 _ ?_, hrun, hended, _, _, rfl, ?_, ⟨_, rfl⟩, hW, hsame.mono (by decide) (by decide)⟩
          · show Steps p.tables e below (s₁.setTop (mkF m 37 #[.val (.int p0)] [(.int (404 : Int32)), (.int p0)])) _
            refine XS.icmpNo X0.here hx rfl (hb hby d2_37) rfl (teq hc14).2 ?_
            show Steps p.tables e below (s₁.setTop (mkF m 40 #[.val (.int p0)] [])) _
            refine st15 _ ?_
            show Steps p.tables e below (T15.setTop (mkF m 43 #[.val (.int p0)] [(.ref (u 4))])) _
            exact retOut X15 hx Bd.returns (own_narref rfl rfl) (Or.inr (Or.inr (Or.inr (Or.inr ⟨rfl, rfl, rfl⟩)))) (hb hby d2_43) hr
          · show own_Q2 Z u p0 h0 n0 _ T15.heap _
            rw [e15]
            exact ⟨(by unfold own_r2; rw [if_neg hc2, if_neg hc6, if_neg hc10, if_pos hc14]), N0, rfl⟩
        · --
          have pre17 : ∀ t, Steps p.tables e below (s₁.setTop (mkF m 48 #[.val (.int p0)] [(.int (429 : Int32)), (.int p0)])) t → Steps p.tables e below (s₁.setTop (entryFrame m #[(.int p0)] 1)) t := fun t kt => pre13 t (by
            show Steps p.tables e below (s₁.setTop (mkF m 37 #[.val (.int p0)] [(.int (404 : Int32)), (.int p0)])) _
            refine XS.icmpYes X0.here hx rfl (pc0 := 37) (pc' := 44) rfl (hb hby d2_37) rfl (feq hc14).2 (by decide) (by decide) ?_
            show Steps p.tables e below (s₁.setTop (mkF m 44 #[.val (.int p0)] [])) _
            refine XS.iloadN X0.here hx rfl (hb hby d2_44) rfl ?_
            show Steps p.tables e below (s₁.setTop (mkF m 45 #[.val (.int p0)] [(.int p0)])) _
            refine XS.sipush X0.here hx rfl (hb hby d2_45) ?_
            exact kt)
          by_cases hc18 : p0 = (429 : Int32)
          · --
            obtain ⟨T19, X19, e19, st19⟩ := getS2 X0 hx hZ hown (host := "") (Or.inl (hw _ (List.mem_of_getElem? (i := 19) rfl))) Via.refl e0 (B.2.2.2.2.2.2.1.ext O.2) (g := (mkF m 72 #[.val (.int p0)] [])) rfl (hb hby d2_72)
            obtain ⟨fs, hr, hrun, hended, hW, hsame⟩ := X19.leave (v := some (.ref (u 3))) (fun h => by rw [Bd.returns] at h; cases h)
            refine ⟨_, _, pre17 _ ?_, hrun, hended, _, _, rfl, ?_, ⟨_, rfl⟩, hW, hsame.mono (by decide) (by decide)⟩
            · show Steps p.tables e below (s₁.setTop (mkF m 48 #[.val (.int p0)] [(.int (429 : Int32)), (.int p0)])) _
              refine XS.icmpYes X0.here hx rfl (pc0 := 48) (pc' := 72) rfl (hb hby d2_48) rfl (teq hc18).1 (by decide) (by decide) ?_
              show Steps p.tables e below (s₁.setTop (mkF m 72 #[.val (.int p0)] [])) _
              refine st19 _ ?_
              show Steps p.tables e below (T19.setTop (mkF m 75 #[.val (.int p0)] [(.ref (u 3))])) _
              exact retOut X19 hx Bd.returns (own_narref rfl rfl) (Or.inr (Or.inr (Or.inr (Or.inr ⟨rfl, rfl, rfl⟩)))) (hb hby d2_75) hr
            · show own_Q2 Z u p0 h0 n0 _ T19.heap _
              rw [e19]
              exact ⟨(by unfold own_r2; rw [if_neg hc2, if_neg hc6, if_neg hc10, if_neg hc14, if_pos hc18]), N0, rfl⟩
          · --
            have pre21 : ∀ t, Steps p.tables e below (s₁.setTop (mkF m 55 #[.val (.int p0)] [(.int (502 : Int32)), (.int p0)])) t → Steps p.tables e below (s₁.setTop (entryFrame m #[(.int p0)] 1)) t := fun t kt => pre17 t (by
              show Steps p.tables e below (s₁.setTop (mkF m 48 #[.val (.int p0)] [(.int (429 : Int32)), (.int p0)])) _
              refine XS.icmpNo X0.here hx rfl (hb hby d2_48) rfl (feq hc18).1 ?_
              show Steps p.tables e below (s₁.setTop (mkF m 51 #[.val (.int p0)] [])) _
              refine XS.iloadN X0.here hx rfl (hb hby d2_51) rfl ?_
              show Steps p.tables e below (s₁.setTop (mkF m 52 #[.val (.int p0)] [(.int p0)])) _
              refine XS.sipush X0.here hx rfl (hb hby d2_52) ?_
              exact kt)
            by_cases hc22 : p0 = (502 : Int32)
            · --
              obtain ⟨T23, X23, e23, st23⟩ := getS2 X0 hx hZ hown (host := "") (Or.inl (hw _ (List.mem_of_getElem? (i := 19) rfl))) Via.refl e0 (B.2.2.2.2.2.2.1.ext O.2) (g := (mkF m 72 #[.val (.int p0)] [])) rfl (hb hby d2_72)
              obtain ⟨fs, hr, hrun, hended, hW, hsame⟩ := X23.leave (v := some (.ref (u 3))) (fun h => by rw [Bd.returns] at h; cases h)
              refine ⟨_, _, pre21 _ ?_, hrun, hended, _, _, rfl, ?_, ⟨_, rfl⟩, hW, hsame.mono (by decide) (by decide)⟩
              · show Steps p.tables e below (s₁.setTop (mkF m 55 #[.val (.int p0)] [(.int (502 : Int32)), (.int p0)])) _
                refine XS.icmpYes X0.here hx rfl (pc0 := 55) (pc' := 72) rfl (hb hby d2_55) rfl (teq hc22).1 (by decide) (by decide) ?_
                show Steps p.tables e below (s₁.setTop (mkF m 72 #[.val (.int p0)] [])) _
                refine st23 _ ?_
                show Steps p.tables e below (T23.setTop (mkF m 75 #[.val (.int p0)] [(.ref (u 3))])) _
                exact retOut X23 hx Bd.returns (own_narref rfl rfl) (Or.inr (Or.inr (Or.inr (Or.inr ⟨rfl, rfl, rfl⟩)))) (hb hby d2_75) hr
              · show own_Q2 Z u p0 h0 n0 _ T23.heap _
                rw [e23]
                exact ⟨(by unfold own_r2; rw [if_neg hc2, if_neg hc6, if_neg hc10, if_neg hc14, if_neg hc18, if_pos hc22]), N0, rfl⟩
            · --
              have pre25 : ∀ t, Steps p.tables e below (s₁.setTop (mkF m 62 #[.val (.int p0)] [(.int (503 : Int32)), (.int p0)])) t → Steps p.tables e below (s₁.setTop (entryFrame m #[(.int p0)] 1)) t := fun t kt => pre21 t (by
                show Steps p.tables e below (s₁.setTop (mkF m 55 #[.val (.int p0)] [(.int (502 : Int32)), (.int p0)])) _
                refine XS.icmpNo X0.here hx rfl (hb hby d2_55) rfl (feq hc22).1 ?_
                show Steps p.tables e below (s₁.setTop (mkF m 58 #[.val (.int p0)] [])) _
                refine XS.iloadN X0.here hx rfl (hb hby d2_58) rfl ?_
                show Steps p.tables e below (s₁.setTop (mkF m 59 #[.val (.int p0)] [(.int p0)])) _
                refine XS.sipush X0.here hx rfl (hb hby d2_59) ?_
                exact kt)
              by_cases hc26 : p0 = (503 : Int32)
              · --
                obtain ⟨T27, X27, e27, st27⟩ := getS2 X0 hx hZ hown (host := "") (Or.inl (hw _ (List.mem_of_getElem? (i := 19) rfl))) Via.refl e0 (B.2.2.2.2.2.2.1.ext O.2) (g := (mkF m 72 #[.val (.int p0)] [])) rfl (hb hby d2_72)
                obtain ⟨fs, hr, hrun, hended, hW, hsame⟩ := X27.leave (v := some (.ref (u 3))) (fun h => by rw [Bd.returns] at h; cases h)
                refine ⟨_, _, pre25 _ ?_, hrun, hended, _, _, rfl, ?_, ⟨_, rfl⟩, hW, hsame.mono (by decide) (by decide)⟩
                · show Steps p.tables e below (s₁.setTop (mkF m 62 #[.val (.int p0)] [(.int (503 : Int32)), (.int p0)])) _
                  refine XS.icmpYes X0.here hx rfl (pc0 := 62) (pc' := 72) rfl (hb hby d2_62) rfl (teq hc26).1 (by decide) (by decide) ?_
                  show Steps p.tables e below (s₁.setTop (mkF m 72 #[.val (.int p0)] [])) _
                  refine st27 _ ?_
                  show Steps p.tables e below (T27.setTop (mkF m 75 #[.val (.int p0)] [(.ref (u 3))])) _
                  exact retOut X27 hx Bd.returns (own_narref rfl rfl) (Or.inr (Or.inr (Or.inr (Or.inr ⟨rfl, rfl, rfl⟩)))) (hb hby d2_75) hr
                · show own_Q2 Z u p0 h0 n0 _ T27.heap _
                  rw [e27]
                  exact ⟨(by unfold own_r2; rw [if_neg hc2, if_neg hc6, if_neg hc10, if_neg hc14, if_neg hc18, if_neg hc22, if_pos hc26]), N0, rfl⟩
              · --
                have pre29 : ∀ t, Steps p.tables e below (s₁.setTop (mkF m 69 #[.val (.int p0)] [(.int (504 : Int32)), (.int p0)])) t → Steps p.tables e below (s₁.setTop (entryFrame m #[(.int p0)] 1)) t := fun t kt => pre25 t (by
                  show Steps p.tables e below (s₁.setTop (mkF m 62 #[.val (.int p0)] [(.int (503 : Int32)), (.int p0)])) _
                  refine XS.icmpNo X0.here hx rfl (hb hby d2_62) rfl (feq hc26).1 ?_
                  show Steps p.tables e below (s₁.setTop (mkF m 65 #[.val (.int p0)] [])) _
                  refine XS.iloadN X0.here hx rfl (hb hby d2_65) rfl ?_
                  show Steps p.tables e below (s₁.setTop (mkF m 66 #[.val (.int p0)] [(.int p0)])) _
                  refine XS.sipush X0.here hx rfl (hb hby d2_66) ?_
                  exact kt)
                by_cases hc30 : p0 = (504 : Int32)
                · --
                  obtain ⟨T31, X31, e31, st31⟩ := getS2 X0 hx hZ hown (host := "") (Or.inl (hw _ (List.mem_of_getElem? (i := 19) rfl))) Via.refl e0 (B.2.2.2.2.2.2.1.ext O.2) (g := (mkF m 72 #[.val (.int p0)] [])) rfl (hb hby d2_72)
                  obtain ⟨fs, hr, hrun, hended, hW, hsame⟩ := X31.leave (v := some (.ref (u 3))) (fun h => by rw [Bd.returns] at h; cases h)
                  refine ⟨_, _, pre29 _ ?_, hrun, hended, _, _, rfl, ?_, ⟨_, rfl⟩, hW, hsame.mono (by decide) (by decide)⟩
                  · show Steps p.tables e below (s₁.setTop (mkF m 69 #[.val (.int p0)] [(.int (504 : Int32)), (.int p0)])) _
                    refine XS.icmpNo X0.here hx rfl (hb hby d2_69) rfl (teq hc30).2 ?_
                    show Steps p.tables e below (s₁.setTop (mkF m 72 #[.val (.int p0)] [])) _
                    refine st31 _ ?_
                    show Steps p.tables e below (T31.setTop (mkF m 75 #[.val (.int p0)] [(.ref (u 3))])) _
                    exact retOut X31 hx Bd.returns (own_narref rfl rfl) (Or.inr (Or.inr (Or.inr (Or.inr ⟨rfl, rfl, rfl⟩)))) (hb hby d2_75) hr
                  · show own_Q2 Z u p0 h0 n0 _ T31.heap _
                    rw [e31]
                    exact ⟨(by unfold own_r2; rw [if_neg hc2, if_neg hc6, if_neg hc10, if_neg hc14, if_neg hc18, if_neg hc22, if_neg hc26, if_pos hc30]), N0, rfl⟩
                · --
                  obtain ⟨T33, X33, e33, st33⟩ := getS2 X0 hx hZ hown (host := "") (Or.inl (hw _ (List.mem_of_getElem? (i := 13) rfl))) Via.refl e0 (B.2.2.1.ext O.2) (g := (mkF m 76 #[.val (.int p0)] [])) rfl (hb hby d2_76)
                  obtain ⟨fs, hr, hrun, hended, hW, hsame⟩ := X33.leave (v := some (.ref (u 1))) (fun h => by rw [Bd.returns] at h; cases h)
                  refine ⟨_, _, pre29 _ ?_, hrun, hended, _, _, rfl, ?_, ⟨_, rfl⟩, hW, hsame.mono (by decide) (by decide)⟩
                  · show Steps p.tables e below (s₁.setTop (mkF m 69 #[.val (.int p0)] [(.int (504 : Int32)), (.int p0)])) _
                    refine XS.icmpYes X0.here hx rfl (pc0 := 69) (pc' := 76) rfl (hb hby d2_69) rfl (feq hc30).2 (by decide) (by decide) ?_
                    show Steps p.tables e below (s₁.setTop (mkF m 76 #[.val (.int p0)] [])) _
                    refine st33 _ ?_
                    show Steps p.tables e below (T33.setTop (mkF m 79 #[.val (.int p0)] [(.ref (u 1))])) _
                    exact retOut X33 hx Bd.returns (own_narref rfl rfl) (Or.inr (Or.inr (Or.inr (Or.inr ⟨rfl, rfl, rfl⟩)))) (hb hby d2_79) hr
                  · show own_Q2 Z u p0 h0 n0 _ T33.heap _
                    rw [e33]
                    exact ⟨(by unfold own_r2; rw [if_neg hc2, if_neg hc6, if_neg hc10, if_neg hc14, if_neg hc18, if_neg hc22, if_neg hc26, if_neg hc30]), N0, rfl⟩
theorem d1_0 : decode prog_23_method_9_code 0 = .ok (.iload_n 0, 1) := by decide +kernel
theorem d1_1 : decode prog_23_method_9_code 1 = .ok (.lookupswitch 110 #[(400, 75), (401, 82), (403, 89), (404, 96), (429, 103), (502, 103), (503, 103), (504, 103)], 75) := by decide +kernel
theorem d1_76 : decode prog_23_method_9_code 76 = .ok (.getstatic 43, 3) := by decide +kernel
theorem d1_79 : decode prog_23_method_9_code 79 = .ok (.astore_n 1, 1) := by decide +kernel
theorem d1_80 : decode prog_23_method_9_code 80 = .ok (.goto 35, 3) := by decide +kernel
theorem d1_83 : decode prog_23_method_9_code 83 = .ok (.getstatic 52, 3) := by decide +kernel
theorem d1_86 : decode prog_23_method_9_code 86 = .ok (.astore_n 1, 1) := by decide +kernel
theorem d1_87 : decode prog_23_method_9_code 87 = .ok (.goto 28, 3) := by decide +kernel
theorem d1_90 : decode prog_23_method_9_code 90 = .ok (.getstatic 25, 3) := by decide +kernel
theorem d1_93 : decode prog_23_method_9_code 93 = .ok (.astore_n 1, 1) := by decide +kernel
theorem d1_94 : decode prog_23_method_9_code 94 = .ok (.goto 21, 3) := by decide +kernel
theorem d1_97 : decode prog_23_method_9_code 97 = .ok (.getstatic 40, 3) := by decide +kernel
theorem d1_100 : decode prog_23_method_9_code 100 = .ok (.astore_n 1, 1) := by decide +kernel
theorem d1_101 : decode prog_23_method_9_code 101 = .ok (.goto 14, 3) := by decide +kernel
theorem d1_104 : decode prog_23_method_9_code 104 = .ok (.getstatic 46, 3) := by decide +kernel
theorem d1_107 : decode prog_23_method_9_code 107 = .ok (.astore_n 1, 1) := by decide +kernel
theorem d1_108 : decode prog_23_method_9_code 108 = .ok (.goto 7, 3) := by decide +kernel
theorem d1_111 : decode prog_23_method_9_code 111 = .ok (.getstatic 10, 3) := by decide +kernel
theorem d1_114 : decode prog_23_method_9_code 114 = .ok (.astore_n 1, 1) := by decide +kernel
theorem d1_115 : decode prog_23_method_9_code 115 = .ok (.aload_n 1, 1) := by decide +kernel
theorem d1_116 : decode prog_23_method_9_code 116 = .ok (.areturn, 1) := by decide +kernel
theorem own_pn_1 : plainName "com/example/trailwire/trailwire/status/StatusCode" = true := by first | (simp [plainName, overriddenIn]; done) | decide +kernel
theorem own_ef_1 (m : MethodId) (x0 : Int32) : entryFrame m #[(.int x0)] 2 = mkF m 0 #[.val (.int x0), .unset] [] := by first | (simp [entryFrame, mkF, argsToLocals, Value.category]; done) | rfl
def own_r1 (u : Nat → Addr) (p0 : Int32) : Addr :=
  if p0 = (400 : Int32) then
    (u 0)
  else
    if p0 = (401 : Int32) then
      (u 5)
    else
      if p0 = (403 : Int32) then
        (u 2)
      else
        if p0 = (404 : Int32) then
          (u 4)
        else
          if p0 = (429 : Int32) then
            (u 3)
          else
            if p0 = (502 : Int32) then
              (u 3)
            else
              if p0 = (503 : Int32) then
                (u 3)
              else
                if p0 = (504 : Int32) then
                  (u 3)
                else
                  (u 1)
def own_Q1 (Z : State) (u : Nat → Addr) (p0 : Int32) (h0 : Heap) (n0 : Nat) (v : Option Value) (h : Heap) (L : List Loc) : Prop := v = some (.ref (own_r1 u p0)) ∧ Fr n0 L ∧ h = h0
set_option maxRecDepth 65536 in
set_option maxHeartbeats 40000000 in
theorem rm1 (l : Launch) (Z : State) (a0 : Array Value) (hw : ∀ d ∈ tables_1, d.before a0 Z = true) (ws : List Jvm.Cond) (u : Nat → Addr) (p0 : Int32) (B : own_Base Z u) (h0 : Heap) (n0 : Nat) (O : Old Z n0 h0) :
    MetFree l (⟨"com/example/trailwire/trailwire/status/StatusCode", "forHttpStatus", "(I)Lcom/example/trailwire/trailwire/status/StatusCode;"⟩ : MethodName) (head1 (Jvm.Cond.code (⟨"com/example/trailwire/trailwire/status/StatusCode", "forHttpStatus", "(I)Lcom/example/trailwire/trailwire/status/StatusCode;"⟩ : MethodName) prog_23_method_9_code 2 (some (.object "com/example/trailwire/trailwire/status/StatusCode")) :: ws) ({ frames := 0, cells := 0, slots := 0, locals := 0 } : Room)) (fun a U => a = #[(.int p0)] ∧ Z.Warmed39 U.vm ∧ U.heap = h0) (fun _ _ _ _ _ => True) (fun _ U o U' => ∃ v L, o = .returned v ∧ own_Q1 Z u p0 h0 n0 v U'.heap L ∧ FrameEnd U o U' L ({ frames := 0, cells := 0, slots := 0, locals := 0 } : Room).cells ({ frames := 0, cells := 0, slots := 0, locals := 0 } : Room).slots) := by
  refine MetFree.of_bodySF (plainFor_of_name own_pn_1) hisR ?_
  intro p e s m args below meth c s₁ Bd hml0 hP hK
  obtain ⟨rfl, hZ, hh⟩ := hP
  have hx := Bd.exec
  have hby := Bd.bytes
  have hml : c.maxLocals = 2 := hml0
  have hown : s.vm.findClass "com/example/trailwire/trailwire/status/StatusCode" = some m.cls := findClass_of_methodNamed Bd.named
  have hnm := (name_of_methodNamed Bd.named Bd.method).1
  have X0 : Stand p l e ({ frames := 0, cells := 0, slots := 0, locals := 0 } : Room) s m #[(.int p0)] below meth c s₁ [] 0 0 := Stand.of_body Bd
  have e0 : s₁.heap = h0 := by rw [← hh, Bd.state]; rfl
  have N0 := Fr.nil n0
  have K0 := Keep.refl h0 []
  have Z0 : n0 ≤ h0.size := O.1 ▸ O.2.1
  have pre0 : ∀ t, Steps p.tables e below (s₁.setTop (mkF m 0 #[.val (.int p0), .unset] [])) t → Steps p.tables e below (s₁.setTop (entryFrame m #[(.int p0)] 2)) t := fun t k => castTop (own_ef_1 m p0) k
  have pre35 : ∀ t, Steps p.tables e below (s₁.setTop (mkF m 1 #[.val (.int p0), .unset] [(.int p0)])) t → Steps p.tables e below (s₁.setTop (entryFrame m #[(.int p0)] 2)) t := fun t kt => pre0 t (by
    show Steps p.tables e below (s₁.setTop (mkF m 0 #[.val (.int p0), .unset] [])) _
    refine XS.iloadN X0.here hx rfl (hb hby d1_0) rfl ?_
    exact kt)
  by_cases hc36 : p0 = (400 : Int32)
  · --
    obtain ⟨T37, X37, e37, st37⟩ := getS2 X0 hx hZ hown (host := "") (Or.inl (hw _ (List.mem_of_getElem? (i := 4) rfl))) Via.refl e0 (B.1.ext O.2) (g := (mkF m 76 #[.val (.int p0), .unset] [])) rfl (hb hby d1_76)
    obtain ⟨fs, hr, hrun, hended, hW, hsame⟩ := X37.leave (v := some (.ref (u 0))) (fun h => by rw [Bd.returns] at h; cases h)
    refine ⟨_, _, pre35 _ ?_, hrun, hended, _, _, rfl, ?_, ⟨_, rfl⟩, hW, hsame.mono (by decide) (by decide)⟩
    · show Steps p.tables e below (s₁.setTop (mkF m 1 #[.val (.int p0), .unset] [(.int p0)])) _
      refine X0.lookupswitchHit hx (g := (mkF m 1 #[.val (.int p0), .unset] [(.int p0)])) rfl rfl (hb hby d1_1) (by decide) (a := 400) (off := 75) (by rw [hc36]; decide) (by show (0 : Int) ≤ ((1 : Nat) : Int) + 75; decide) _ ?_
      show Steps p.tables e below (s₁.setTop (mkF m 76 #[.val (.int p0), .unset] [])) _
      refine st37 _ ?_
      show Steps p.tables e below (T37.setTop (mkF m 79 #[.val (.int p0), .unset] [(.ref (u 0))])) _
      refine XS.astoreN X37.here hx rfl (hb hby d1_79) rfl rfl (l' := #[.val (.int p0), .val (.ref (u 0))]) rfl ?_
      show Steps p.tables e below (T37.setTop (mkF m 80 #[.val (.int p0), .val (.ref (u 0))] [])) _
      refine XS.goto X37.here hx rfl (pc0 := 80) (pc' := 115) rfl (hb hby d1_80) (by decide) (by decide) ?_
      show Steps p.tables e below (T37.setTop (mkF m 115 #[.val (.int p0), .val (.ref (u 0))] [])) _
      refine XS.aloadN X37.here hx rfl (hb hby d1_115) rfl rfl ?_
      show Steps p.tables e below (T37.setTop (mkF m 116 #[.val (.int p0), .val (.ref (u 0))] [(.ref (u 0))])) _
      exact retOut X37 hx Bd.returns (own_narref rfl rfl) (Or.inr (Or.inr (Or.inr (Or.inr ⟨rfl, rfl, rfl⟩)))) (hb hby d1_116) hr
    · show own_Q1 Z u p0 h0 n0 _ T37.heap _
      rw [e37]
      exact ⟨(by unfold own_r1; rw [if_pos hc36]), N0, rfl⟩
  · --
    by_cases hc39 : p0 = (401 : Int32)
    · --
      obtain ⟨T40, X40, e40, st40⟩ := getS2 X0 hx hZ hown (host := "") (Or.inl (hw _ (List.mem_of_getElem? (i := 23) rfl))) Via.refl e0 (B.2.2.2.2.2.2.2.2.2.2.1.ext O.2) (g := (mkF m 83 #[.val (.int p0), .unset] [])) rfl (hb hby d1_83)
      obtain ⟨fs, hr, hrun, hended, hW, hsame⟩ := X40.leave (v := some (.ref (u 5))) (fun h => by rw [Bd.returns] at h; cases h)
      refine ⟨_, _, pre35 _ ?_, hrun, hended, _, _, rfl, ?_, ⟨_, rfl⟩, hW, hsame.mono (by decide) (by decide)⟩
      · show Steps p.tables e below (s₁.setTop (mkF m 1 #[.val (.int p0), .unset] [(.int p0)])) _
        refine X0.lookupswitchHit hx (g := (mkF m 1 #[.val (.int p0), .unset] [(.int p0)])) rfl rfl (hb hby d1_1) (by decide) (a := 401) (off := 82) (by rw [hc39]; decide) (by show (0 : Int) ≤ ((1 : Nat) : Int) + 82; decide) _ ?_
        show Steps p.tables e below (s₁.setTop (mkF m 83 #[.val (.int p0), .unset] [])) _
        refine st40 _ ?_
        show Steps p.tables e below (T40.setTop (mkF m 86 #[.val (.int p0), .unset] [(.ref (u 5))])) _
        refine XS.astoreN X40.here hx rfl (hb hby d1_86) rfl rfl (l' := #[.val (.int p0), .val (.ref (u 5))]) rfl ?_
        show Steps p.tables e below (T40.setTop (mkF m 87 #[.val (.int p0), .val (.ref (u 5))] [])) _
        refine XS.goto X40.here hx rfl (pc0 := 87) (pc' := 115) rfl (hb hby d1_87) (by decide) (by decide) ?_
        show Steps p.tables e below (T40.setTop (mkF m 115 #[.val (.int p0), .val (.ref (u 5))] [])) _
        refine XS.aloadN X40.here hx rfl (hb hby d1_115) rfl rfl ?_
        show Steps p.tables e below (T40.setTop (mkF m 116 #[.val (.int p0), .val (.ref (u 5))] [(.ref (u 5))])) _
        exact retOut X40 hx Bd.returns (own_narref rfl rfl) (Or.inr (Or.inr (Or.inr (Or.inr ⟨rfl, rfl, rfl⟩)))) (hb hby d1_116) hr
      · show own_Q1 Z u p0 h0 n0 _ T40.heap _
        rw [e40]
        exact ⟨(by unfold own_r1; rw [if_neg hc36, if_pos hc39]), N0, rfl⟩
    · --
      by_cases hc42 : p0 = (403 : Int32)
      · --
        obtain ⟨T43, X43, e43, st43⟩ := getS2 X0 hx hZ hown (host := "") (Or.inl (hw _ (List.mem_of_getElem? (i := 14) rfl))) Via.refl e0 (B.2.2.2.2.1.ext O.2) (g := (mkF m 90 #[.val (.int p0), .unset] [])) rfl (hb hby d1_90)
        obtain ⟨fs, hr, hrun, hended, hW, hsame⟩ := X43.leave (v := some (.ref (u 2))) (fun h => by rw [Bd.returns] at h; cases h)
        refine ⟨_, _, pre35 _ ?_, hrun, hended, _, _, rfl, ?_, ⟨_, rfl⟩, hW, hsame.mono (by decide) (by decide)⟩
        · show Steps p.tables e below (s₁.setTop (mkF m 1 #[.val (.int p0), .unset] [(.int p0)])) _
          refine X0.lookupswitchHit hx (g := (mkF m 1 #[.val (.int p0), .unset] [(.int p0)])) rfl rfl (hb hby d1_1) (by decide) (a := 403) (off := 89) (by rw [hc42]; decide) (by show (0 : Int) ≤ ((1 : Nat) : Int) + 89; decide) _ ?_
          show Steps p.tables e below (s₁.setTop (mkF m 90 #[.val (.int p0), .unset] [])) _
          refine st43 _ ?_
          show Steps p.tables e below (T43.setTop (mkF m 93 #[.val (.int p0), .unset] [(.ref (u 2))])) _
          refine XS.astoreN X43.here hx rfl (hb hby d1_93) rfl rfl (l' := #[.val (.int p0), .val (.ref (u 2))]) rfl ?_
          show Steps p.tables e below (T43.setTop (mkF m 94 #[.val (.int p0), .val (.ref (u 2))] [])) _
          refine XS.goto X43.here hx rfl (pc0 := 94) (pc' := 115) rfl (hb hby d1_94) (by decide) (by decide) ?_
          show Steps p.tables e below (T43.setTop (mkF m 115 #[.val (.int p0), .val (.ref (u 2))] [])) _
          refine XS.aloadN X43.here hx rfl (hb hby d1_115) rfl rfl ?_
          show Steps p.tables e below (T43.setTop (mkF m 116 #[.val (.int p0), .val (.ref (u 2))] [(.ref (u 2))])) _
          exact retOut X43 hx Bd.returns (own_narref rfl rfl) (Or.inr (Or.inr (Or.inr (Or.inr ⟨rfl, rfl, rfl⟩)))) (hb hby d1_116) hr
        · show own_Q1 Z u p0 h0 n0 _ T43.heap _
          rw [e43]
          exact ⟨(by unfold own_r1; rw [if_neg hc36, if_neg hc39, if_pos hc42]), N0, rfl⟩
      · --
        by_cases hc45 : p0 = (404 : Int32)
        · --
          obtain ⟨T46, X46, e46, st46⟩ := getS2 X0 hx hZ hown (host := "") (Or.inl (hw _ (List.mem_of_getElem? (i := 20) rfl))) Via.refl e0 (B.2.2.2.2.2.2.2.2.1.ext O.2) (g := (mkF m 97 #[.val (.int p0), .unset] [])) rfl (hb hby d1_97)
          obtain ⟨fs, hr, hrun, hended, hW, hsame⟩ := X46.leave (v := some (.ref (u 4))) (fun h => by rw [Bd.returns] at h; cases h)
          refine ⟨_, _, pre35 _ ?_, hrun, hended, _, _, rfl, ?_, ⟨_, rfl⟩, hW, hsame.mono (by decide) (by decide)⟩
          · show Steps p.tables e below (s₁.setTop (mkF m 1 #[.val (.int p0), .unset] [(.int p0)])) _
            refine X0.lookupswitchHit hx (g := (mkF m 1 #[.val (.int p0), .unset] [(.int p0)])) rfl rfl (hb hby d1_1) (by decide) (a := 404) (off := 96) (by rw [hc45]; decide) (by show (0 : Int) ≤ ((1 : Nat) : Int) + 96; decide) _ ?_
            show Steps p.tables e below (s₁.setTop (mkF m 97 #[.val (.int p0), .unset] [])) _
            refine st46 _ ?_
            show Steps p.tables e below (T46.setTop (mkF m 100 #[.val (.int p0), .unset] [(.ref (u 4))])) _
            refine XS.astoreN X46.here hx rfl (hb hby d1_100) rfl rfl (l' := #[.val (.int p0), .val (.ref (u 4))]) rfl ?_
            show Steps p.tables e below (T46.setTop (mkF m 101 #[.val (.int p0), .val (.ref (u 4))] [])) _
            refine XS.goto X46.here hx rfl (pc0 := 101) (pc' := 115) rfl (hb hby d1_101) (by decide) (by decide) ?_
            show Steps p.tables e below (T46.setTop (mkF m 115 #[.val (.int p0), .val (.ref (u 4))] [])) _
            refine XS.aloadN X46.here hx rfl (hb hby d1_115) rfl rfl ?_
            show Steps p.tables e below (T46.setTop (mkF m 116 #[.val (.int p0), .val (.ref (u 4))] [(.ref (u 4))])) _
            exact retOut X46 hx Bd.returns (own_narref rfl rfl) (Or.inr (Or.inr (Or.inr (Or.inr ⟨rfl, rfl, rfl⟩)))) (hb hby d1_116) hr
          · show own_Q1 Z u p0 h0 n0 _ T46.heap _
            rw [e46]
            exact ⟨(by unfold own_r1; rw [if_neg hc36, if_neg hc39, if_neg hc42, if_pos hc45]), N0, rfl⟩
        · --
          by_cases hc48 : p0 = (429 : Int32)
          · --
            obtain ⟨T49, X49, e49, st49⟩ := getS2 X0 hx hZ hown (host := "") (Or.inl (hw _ (List.mem_of_getElem? (i := 17) rfl))) Via.refl e0 (B.2.2.2.2.2.2.1.ext O.2) (g := (mkF m 104 #[.val (.int p0), .unset] [])) rfl (hb hby d1_104)
            obtain ⟨fs, hr, hrun, hended, hW, hsame⟩ := X49.leave (v := some (.ref (u 3))) (fun h => by rw [Bd.returns] at h; cases h)
            refine ⟨_, _, pre35 _ ?_, hrun, hended, _, _, rfl, ?_, ⟨_, rfl⟩, hW, hsame.mono (by decide) (by decide)⟩
            · show Steps p.tables e below (s₁.setTop (mkF m 1 #[.val (.int p0), .unset] [(.int p0)])) _
              refine X0.lookupswitchHit hx (g := (mkF m 1 #[.val (.int p0), .unset] [(.int p0)])) rfl rfl (hb hby d1_1) (by decide) (a := 429) (off := 103) (by rw [hc48]; decide) (by show (0 : Int) ≤ ((1 : Nat) : Int) + 103; decide) _ ?_
              show Steps p.tables e below (s₁.setTop (mkF m 104 #[.val (.int p0), .unset] [])) _
              refine st49 _ ?_
              show Steps p.tables e below (T49.setTop (mkF m 107 #[.val (.int p0), .unset] [(.ref (u 3))])) _
              refine XS.astoreN X49.here hx rfl (hb hby d1_107) rfl rfl (l' := #[.val (.int p0), .val (.ref (u 3))]) rfl ?_
              show Steps p.tables e below (T49.setTop (mkF m 108 #[.val (.int p0), .val (.ref (u 3))] [])) _
              refine XS.goto X49.here hx rfl (pc0 := 108) (pc' := 115) rfl (hb hby d1_108) (by decide) (by decide) ?_
              show Steps p.tables e below (T49.setTop (mkF m 115 #[.val (.int p0), .val (.ref (u 3))] [])) _
              refine XS.aloadN X49.here hx rfl (hb hby d1_115) rfl rfl ?_
              show Steps p.tables e below (T49.setTop (mkF m 116 #[.val (.int p0), .val (.ref (u 3))] [(.ref (u 3))])) _
              exact retOut X49 hx Bd.returns (own_narref rfl rfl) (Or.inr (Or.inr (Or.inr (Or.inr ⟨rfl, rfl, rfl⟩)))) (hb hby d1_116) hr
            · show own_Q1 Z u p0 h0 n0 _ T49.heap _
              rw [e49]
              exact ⟨(by unfold own_r1; rw [if_neg hc36, if_neg hc39, if_neg hc42, if_neg hc45, if_pos hc48]), N0, rfl⟩
          · --
            by_cases hc51 : p0 = (502 : Int32)
            · --
              obtain ⟨T52, X52, e52, st52⟩ := getS2 X0 hx hZ hown (host := "") (Or.inl (hw _ (List.mem_of_getElem? (i := 17) rfl))) Via.refl e0 (B.2.2.2.2.2.2.1.ext O.2) (g := (mkF m 104 #[.val (.int p0), .unset] [])) rfl (hb hby d1_104)
              obtain ⟨fs, hr, hrun, hended, hW, hsame⟩ := X52.leave (v := some (.ref (u 3))) (fun h => by rw [Bd.returns] at h; cases h)
              refine ⟨_, _, pre35 _ ?_, hrun, hended, _, _, rfl, ?_, ⟨_, rfl⟩, hW, hsame.mono (by decide) (by decide)⟩
              · show Steps p.tables e below (s₁.setTop (mkF m 1 #[.val (.int p0), .unset] [(.int p0)])) _
                refine X0.lookupswitchHit hx (g := (mkF m 1 #[.val (.int p0), .unset] [(.int p0)])) rfl rfl (hb hby d1_1) (by decide) (a := 502) (off := 103) (by rw [hc51]; decide) (by show (0 : Int) ≤ ((1 : Nat) : Int) + 103; decide) _ ?_
                show Steps p.tables e below (s₁.setTop (mkF m 104 #[.val (.int p0), .unset] [])) _
                refine st52 _ ?_
                show Steps p.tables e below (T52.setTop (mkF m 107 #[.val (.int p0), .unset] [(.ref (u 3))])) _
                refine XS.astoreN X52.here hx rfl (hb hby d1_107) rfl rfl (l' := #[.val (.int p0), .val (.ref (u 3))]) rfl ?_
                show Steps p.tables e below (T52.setTop (mkF m 108 #[.val (.int p0), .val (.ref (u 3))] [])) _
                refine XS.goto X52.here hx rfl (pc0 := 108) (pc' := 115) rfl (hb hby d1_108) (by decide) (by decide) ?_
                show Steps p.tables e below (T52.setTop (mkF m 115 #[.val (.int p0), .val (.ref (u 3))] [])) _
                refine XS.aloadN X52.here hx rfl (hb hby d1_115) rfl rfl ?_
                show Steps p.tables e below (T52.setTop (mkF m 116 #[.val (.int p0), .val (.ref (u 3))] [(.ref (u 3))])) _
                exact retOut X52 hx Bd.returns (own_narref rfl rfl) (Or.inr (Or.inr (Or.inr (Or.inr ⟨rfl, rfl, rfl⟩)))) (hb hby d1_116) hr
              · show own_Q1 Z u p0 h0 n0 _ T52.heap _
                rw [e52]
                exact ⟨(by unfold own_r1; rw [if_neg hc36, if_neg hc39, if_neg hc42, if_neg hc45, if_neg hc48, if_pos hc51]), N0, rfl⟩
            · --
              by_cases hc54 : p0 = (503 : Int32)
              · --
                obtain ⟨T55, X55, e55, st55⟩ := getS2 X0 hx hZ hown (host := "") (Or.inl (hw _ (List.mem_of_getElem? (i := 17) rfl))) Via.refl e0 (B.2.2.2.2.2.2.1.ext O.2) (g := (mkF m 104 #[.val (.int p0), .unset] [])) rfl (hb hby d1_104)
                obtain ⟨fs, hr, hrun, hended, hW, hsame⟩ := X55.leave (v := some (.ref (u 3))) (fun h => by rw [Bd.returns] at h; cases h)
                refine ⟨_, _, pre35 _ ?_, hrun, hended, _, _, rfl, ?_, ⟨_, rfl⟩, hW, hsame.mono (by decide) (by decide)⟩
                · show Steps p.tables e below (s₁.setTop (mkF m 1 #[.val (.int p0), .unset] [(.int p0)])) _
                  refine X0.lookupswitchHit hx (g := (mkF m 1 #[.val (.int p0), .unset] [(.int p0)])) rfl rfl (hb hby d1_1) (by decide) (a := 503) (off := 103) (by rw [hc54]; decide) (by show (0 : Int) ≤ ((1 : Nat) : Int) + 103; decide) _ ?_
                  show Steps p.tables e below (s₁.setTop (mkF m 104 #[.val (.int p0), .unset] [])) _
                  refine st55 _ ?_
                  show Steps p.tables e below (T55.setTop (mkF m 107 #[.val (.int p0), .unset] [(.ref (u 3))])) _
                  refine XS.astoreN X55.here hx rfl (hb hby d1_107) rfl rfl (l' := #[.val (.int p0), .val (.ref (u 3))]) rfl ?_
                  show Steps p.tables e below (T55.setTop (mkF m 108 #[.val (.int p0), .val (.ref (u 3))] [])) _
                  refine XS.goto X55.here hx rfl (pc0 := 108) (pc' := 115) rfl (hb hby d1_108) (by decide) (by decide) ?_
                  show Steps p.tables e below (T55.setTop (mkF m 115 #[.val (.int p0), .val (.ref (u 3))] [])) _
                  refine XS.aloadN X55.here hx rfl (hb hby d1_115) rfl rfl ?_
                  show Steps p.tables e below (T55.setTop (mkF m 116 #[.val (.int p0), .val (.ref (u 3))] [(.ref (u 3))])) _
                  exact retOut X55 hx Bd.returns (own_narref rfl rfl) (Or.inr (Or.inr (Or.inr (Or.inr ⟨rfl, rfl, rfl⟩)))) (hb hby d1_116) hr
                · show own_Q1 Z u p0 h0 n0 _ T55.heap _
                  rw [e55]
                  exact ⟨(by unfold own_r1; rw [if_neg hc36, if_neg hc39, if_neg hc42, if_neg hc45, if_neg hc48, if_neg hc51, if_pos hc54]), N0, rfl⟩
              · --
                by_cases hc57 : p0 = (504 : Int32)
                · --
                  obtain ⟨T58, X58, e58, st58⟩ := getS2 X0 hx hZ hown (host := "") (Or.inl (hw _ (List.mem_of_getElem? (i := 17) rfl))) Via.refl e0 (B.2.2.2.2.2.2.1.ext O.2) (g := (mkF m 104 #[.val (.int p0), .unset] [])) rfl (hb hby d1_104)
                  obtain ⟨fs, hr, hrun, hended, hW, hsame⟩ := X58.leave (v := some (.ref (u 3))) (fun h => by rw [Bd.returns] at h; cases h)
                  refine ⟨_, _, pre35 _ ?_, hrun, hended, _, _, rfl, ?_, ⟨_, rfl⟩, hW, hsame.mono (by decide) (by decide)⟩
                  · show Steps p.tables e below (s₁.setTop (mkF m 1 #[.val (.int p0), .unset] [(.int p0)])) _
                    refine X0.lookupswitchHit hx (g := (mkF m 1 #[.val (.int p0), .unset] [(.int p0)])) rfl rfl (hb hby d1_1) (by decide) (a := 504) (off := 103) (by rw [hc57]; decide) (by show (0 : Int) ≤ ((1 : Nat) : Int) + 103; decide) _ ?_
                    show Steps p.tables e below (s₁.setTop (mkF m 104 #[.val (.int p0), .unset] [])) _
                    refine st58 _ ?_
                    show Steps p.tables e below (T58.setTop (mkF m 107 #[.val (.int p0), .unset] [(.ref (u 3))])) _
                    refine XS.astoreN X58.here hx rfl (hb hby d1_107) rfl rfl (l' := #[.val (.int p0), .val (.ref (u 3))]) rfl ?_
                    show Steps p.tables e below (T58.setTop (mkF m 108 #[.val (.int p0), .val (.ref (u 3))] [])) _
                    refine XS.goto X58.here hx rfl (pc0 := 108) (pc' := 115) rfl (hb hby d1_108) (by decide) (by decide) ?_
                    show Steps p.tables e below (T58.setTop (mkF m 115 #[.val (.int p0), .val (.ref (u 3))] [])) _
                    refine XS.aloadN X58.here hx rfl (hb hby d1_115) rfl rfl ?_
                    show Steps p.tables e below (T58.setTop (mkF m 116 #[.val (.int p0), .val (.ref (u 3))] [(.ref (u 3))])) _
                    exact retOut X58 hx Bd.returns (own_narref rfl rfl) (Or.inr (Or.inr (Or.inr (Or.inr ⟨rfl, rfl, rfl⟩)))) (hb hby d1_116) hr
                  · show own_Q1 Z u p0 h0 n0 _ T58.heap _
                    rw [e58]
                    exact ⟨(by unfold own_r1; rw [if_neg hc36, if_neg hc39, if_neg hc42, if_neg hc45, if_neg hc48, if_neg hc51, if_neg hc54, if_pos hc57]), N0, rfl⟩
                · --
                  obtain ⟨T60, X60, e60, st60⟩ := getS2 X0 hx hZ hown (host := "") (Or.inl (hw _ (List.mem_of_getElem? (i := 11) rfl))) Via.refl e0 (B.2.2.1.ext O.2) (g := (mkF m 111 #[.val (.int p0), .unset] [])) rfl (hb hby d1_111)
                  obtain ⟨fs, hr, hrun, hended, hW, hsame⟩ := X60.leave (v := some (.ref (u 1))) (fun h => by rw [Bd.returns] at h; cases h)
                  refine ⟨_, _, pre35 _ ?_, hrun, hended, _, _, rfl, ?_, ⟨_, rfl⟩, hW, hsame.mono (by decide) (by decide)⟩
                  · show Steps p.tables e below (s₁.setTop (mkF m 1 #[.val (.int p0), .unset] [(.int p0)])) _
                    refine X0.lookupswitchMiss hx (g := (mkF m 1 #[.val (.int p0), .unset] [(.int p0)])) rfl rfl (hb hby d1_1) (by decide) (find_miss (fun p hp => by
      simp only [List.mem_cons, List.not_mem_nil, or_false] at hp
      rcases hp with rfl | rfl | rfl | rfl | rfl | rfl | rfl | rfl <;> intro q
      · exact hc36 (Int32.toInt_inj.mp q.symm)
      · exact hc39 (Int32.toInt_inj.mp q.symm)
      · exact hc42 (Int32.toInt_inj.mp q.symm)
      · exact hc45 (Int32.toInt_inj.mp q.symm)
      · exact hc48 (Int32.toInt_inj.mp q.symm)
      · exact hc51 (Int32.toInt_inj.mp q.symm)
      · exact hc54 (Int32.toInt_inj.mp q.symm)
      · exact hc57 (Int32.toInt_inj.mp q.symm))) (by show (0 : Int) ≤ ((1 : Nat) : Int) + 110; decide) _ ?_
                    show Steps p.tables e below (s₁.setTop (mkF m 111 #[.val (.int p0), .unset] [])) _
                    refine st60 _ ?_
                    show Steps p.tables e below (T60.setTop (mkF m 114 #[.val (.int p0), .unset] [(.ref (u 1))])) _
                    refine XS.astoreN X60.here hx rfl (hb hby d1_114) rfl rfl (l' := #[.val (.int p0), .val (.ref (u 1))]) rfl ?_
                    show Steps p.tables e below (T60.setTop (mkF m 115 #[.val (.int p0), .val (.ref (u 1))] [])) _
                    refine XS.aloadN X60.here hx rfl (hb hby d1_115) rfl rfl ?_
                    show Steps p.tables e below (T60.setTop (mkF m 116 #[.val (.int p0), .val (.ref (u 1))] [(.ref (u 1))])) _
                    exact retOut X60 hx Bd.returns (own_narref rfl rfl) (Or.inr (Or.inr (Or.inr (Or.inr ⟨rfl, rfl, rfl⟩)))) (hb hby d1_116) hr
                  · show own_Q1 Z u p0 h0 n0 _ T60.heap _
                    rw [e60]
                    exact ⟨(by unfold own_r1; rw [if_neg hc36, if_neg hc39, if_neg hc42, if_neg hc45, if_neg hc48, if_neg hc51, if_neg hc54, if_neg hc57]), N0, rfl⟩
theorem own_pn_0 : plainName "com/example/trailwire/trailwire/status/StatusCodeForHttpStatusPinLaw" = true := by first | (simp [plainName, overriddenIn]; done) | decide +kernel
theorem own_ef_0 (m : MethodId) (x0 : Int32) (x1 : Int32) : entryFrame m #[(.int x0), (.int x1)] maxLocals = mkF m 0 #[.val (.int x0), .val (.int x1), .unset, .unset, .unset] [] := by first | (simp [entryFrame, mkF, argsToLocals, Value.category, maxLocals]; done) | rfl
def own_Q0 (Z : State) (u : Nat → Addr) (p0 : Int32) (p1 : Int32) (h0 : Heap) (n0 : Nat) (v : Option Value) (h : Heap) (L : List Loc) : Prop := v = some (.int (1 : Int32)) ∧ Fr n0 L ∧ True
set_option maxRecDepth 65536 in
set_option maxHeartbeats 40000000 in
theorem rm0 (l : Launch) (Z : State) (a0 : Array Value) (hw : ∀ d ∈ tables_1, d.before a0 Z = true) (ws : List Jvm.Cond) (u : Nat → Addr) (p0 : Int32) (p1 : Int32) (B : own_Base Z u) (h0 : Heap) (n0 : Nat) (O : Old Z n0 h0) :
    MetFree l x (head1 (Jvm.Cond.code x code maxLocals ret :: ws) room_1) (fun a U => a = #[(.int p0), (.int p1)] ∧ Z.Warmed39 U.vm ∧ U.heap = h0) (fun _ _ _ _ _ => True) (fun _ U o U' => ∃ v L, o = .returned v ∧ own_Q0 Z u p0 p1 h0 n0 v U'.heap L ∧ FrameEnd U o U' L room_1.cells room_1.slots) := by
  refine MetFree.of_bodySF (plainFor_of_name own_pn_0) hisR ?_
  intro p e s m args below meth c s₁ Bd hml0 hP hK
  obtain ⟨rfl, hZ, hh⟩ := hP
  have hx := Bd.exec
  have hby := Bd.bytes
  have hml : c.maxLocals = 5 := hml0
  have hown : s.vm.findClass "com/example/trailwire/trailwire/status/StatusCodeForHttpStatusPinLaw" = some m.cls := findClass_of_methodNamed Bd.named
  have hnm := (name_of_methodNamed Bd.named Bd.method).1
  have X0 : Stand p l e room_1 s m #[(.int p0), (.int p1)] below meth c s₁ [] 0 0 := Stand.of_body Bd
  have e0 : s₁.heap = h0 := by rw [← hh, Bd.state]; rfl
  have N0 := Fr.nil n0
  have K0 := Keep.refl h0 []
  have Z0 : n0 ≤ h0.size := O.1 ▸ O.2.1
  have pre0 : ∀ t, Steps p.tables e below (s₁.setTop (mkF m 0 #[.val (.int p0), .val (.int p1), .unset, .unset, .unset] [])) t → Steps p.tables e below (s₁.setTop (entryFrame m #[(.int p0), (.int p1)] maxLocals)) t := fun t k => castTop (own_ef_0 m p0 p1) k
  have pre62 : ∀ t, Steps p.tables e below (s₁.setTop (mkF m 6 #[.val (.int p0), .val (.int p1), .val (.int (p0 &&& (15 : Int32))), .unset, .unset] [(.int (p0 &&& (15 : Int32)))])) t → Steps p.tables e below (s₁.setTop (entryFrame m #[(.int p0), (.int p1)] maxLocals)) t := fun t kt => pre0 t (by
    show Steps p.tables e below (s₁.setTop (mkF m 0 #[.val (.int p0), .val (.int p1), .unset, .unset, .unset] [])) _
    refine XS.iloadN X0.here hx rfl (hb hby at_0) rfl ?_
    show Steps p.tables e below (s₁.setTop (mkF m 1 #[.val (.int p0), .val (.int p1), .unset, .unset, .unset] [(.int p0)])) _
    refine XS.bipush X0.here hx rfl (hb hby at_1) ?_
    show Steps p.tables e below (s₁.setTop (mkF m 3 #[.val (.int p0), .val (.int p1), .unset, .unset, .unset] [(.int (15 : Int32)), (.int p0)])) _
    refine XS.iand X0.here hx rfl (hb hby at_3) rfl ?_
    show Steps p.tables e below (s₁.setTop (mkF m 4 #[.val (.int p0), .val (.int p1), .unset, .unset, .unset] [(.int (p0 &&& (15 : Int32)))])) _
    refine XS.istoreN X0.here hx rfl (hb hby at_4) rfl (l' := #[.val (.int p0), .val (.int p1), .val (.int (p0 &&& (15 : Int32))), .unset, .unset]) rfl ?_
    show Steps p.tables e below (s₁.setTop (mkF m 5 #[.val (.int p0), .val (.int p1), .val (.int (p0 &&& (15 : Int32))), .unset, .unset] [])) _
    refine XS.iloadN X0.here hx rfl (hb hby at_5) rfl ?_
    exact kt)
  by_cases hc63 : (p0 &&& (15 : Int32)) = (0 : Int32)
  · --
    have pre64 : ∀ t, Steps p.tables e below (s₁.setTop (mkF m 175 #[.val (.int p0), .val (.int p1), .val (.int (p0 &&& (15 : Int32))), .val (.int (400 : Int32)), .unset] [(.int (400 : Int32))])) t → Steps p.tables e below (s₁.setTop (entryFrame m #[(.int p0), (.int p1)] maxLocals)) t := fun t kt => pre62 t (by
      show Steps p.tables e below (s₁.setTop (mkF m 6 #[.val (.int p0), .val (.int p1), .val (.int (p0 &&& (15 : Int32))), .unset, .unset] [(.int (p0 &&& (15 : Int32)))])) _
      refine XS.ifNo X0.here hx rfl (hb hby at_6) rfl ((if0 _ _).trans (teq hc63).2) ?_
      show Steps p.tables e below (s₁.setTop (mkF m 9 #[.val (.int p0), .val (.int p1), .val (.int (p0 &&& (15 : Int32))), .unset, .unset] [])) _
      refine XS.sipush X0.here hx rfl (hb hby at_9) ?_
      show Steps p.tables e below (s₁.setTop (mkF m 12 #[.val (.int p0), .val (.int p1), .val (.int (p0 &&& (15 : Int32))), .unset, .unset] [(.int (400 : Int32))])) _
      refine XS.istoreN X0.here hx rfl (hb hby at_12) rfl (l' := #[.val (.int p0), .val (.int p1), .val (.int (p0 &&& (15 : Int32))), .val (.int (400 : Int32)), .unset]) rfl ?_
      show Steps p.tables e below (s₁.setTop (mkF m 13 #[.val (.int p0), .val (.int p1), .val (.int (p0 &&& (15 : Int32))), .val (.int (400 : Int32)), .unset] [])) _
      refine XS.goto X0.here hx rfl (pc0 := 13) (pc' := 174) rfl (hb hby at_13) (by decide) (by decide) ?_
      show Steps p.tables e below (s₁.setTop (mkF m 174 #[.val (.int p0), .val (.int p1), .val (.int (p0 &&& (15 : Int32))), .val (.int (400 : Int32)), .unset] [])) _
      refine XS.iloadN X0.here hx rfl (hb hby at_174) rfl ?_
      exact kt)
    obtain ⟨vr65, _, ⟨T65, L65, k65, n65⟩, -, X65, ⟨Lc65, hQ65, l65, y65, z65⟩, st65⟩ := Jvm.LawKit.callS X0 hx (y := (⟨"com/example/trailwire/trailwire/status/StatusCode", "forHttpStatus", "(I)Lcom/example/trailwire/trailwire/status/StatusCode;"⟩ : MethodName)) hown (mvT hZ (hw _ (List.mem_of_getElem? (i := 0) rfl))) (mvT hZ (hw _ (List.mem_of_getElem? (i := 1) rfl))) (mvT hZ (hw _ (List.mem_of_getElem? (i := 2) rfl))) (mvT hZ (hw _ (List.mem_of_getElem? (i := 3) rfl))) (by decide) (backOf (W := 0) (rm1 l Z a0 hw [] u (400 : Int32) B h0 n0 O ) hZ (hw _ (List.mem_of_getElem? (i := 3) rfl)) (hw _ (List.mem_of_getElem? (i := 2) rfl)) (by decide) (by decide)) (g := (mkF m 175 #[.val (.int p0), .val (.int p1), .val (.int (p0 &&& (15 : Int32))), .val (.int (400 : Int32)), .unset] [(.int (400 : Int32))])) rfl (by rw [hml]; rfl) (argsL := [(.int (400 : Int32))]) (rest := []) (lenOf own_pd0 rfl) rfl (by show 2 * 0 + _ ≤ _; exact Nat.le_of_eq rfl) (hb hby at_175) (fun _ _ => ⟨rfl, e0, (by decide : 0 + 0 ≤ _), (by decide : 0 + 0 ≤ _)⟩)
    dsimp only [Pt.U, Pt.locs, Pt.cells, Pt.slots] at X65 l65 y65 z65 st65 hQ65
    subst l65 y65 z65
    obtain ⟨hv65, N65q, e65⟩ := hQ65
    have N65 := Fr.app N0 N65q
    obtain rfl : vr65 = some (.ref (u 0)) := hv65.trans (by unfold own_r1; rw [if_pos (by decide : (400 : Int32) = (400 : Int32))])
    have pre66 : ∀ t, Steps p.tables e below (T65.setTop (mkF m 183 #[.val (.int p0), .val (.int p1), .val (.int (p0 &&& (15 : Int32))), .val (.int (400 : Int32)), .val (.ref (u 0))] [(.int (400 : Int32)), (.ref (u 0))])) t → Steps p.tables e below (s₁.setTop (entryFrame m #[(.int p0), (.int p1)] maxLocals)) t := fun t kt => pre64 t (by
      show Steps p.tables e below (s₁.setTop (mkF m 175 #[.val (.int p0), .val (.int p1), .val (.int (p0 &&& (15 : Int32))), .val (.int (400 : Int32)), .unset] [(.int (400 : Int32))])) _
      refine st65 _ ?_
      show Steps p.tables e below (T65.setTop (mkF m 178 #[.val (.int p0), .val (.int p1), .val (.int (p0 &&& (15 : Int32))), .val (.int (400 : Int32)), .unset] [(.ref (u 0))])) _
      refine XS.astore X65.here hx rfl (hb hby at_178) rfl rfl (l' := #[.val (.int p0), .val (.int p1), .val (.int (p0 &&& (15 : Int32))), .val (.int (400 : Int32)), .val (.ref (u 0))]) rfl ?_
      show Steps p.tables e below (T65.setTop (mkF m 180 #[.val (.int p0), .val (.int p1), .val (.int (p0 &&& (15 : Int32))), .val (.int (400 : Int32)), .val (.ref (u 0))] [])) _
      refine XS.aload X65.here hx rfl (hb hby at_180) rfl rfl ?_
      show Steps p.tables e below (T65.setTop (mkF m 182 #[.val (.int p0), .val (.int p1), .val (.int (p0 &&& (15 : Int32))), .val (.int (400 : Int32)), .val (.ref (u 0))] [(.ref (u 0))])) _
      refine XS.iloadN X65.here hx rfl (hb hby at_182) rfl ?_
      exact kt)
    obtain ⟨vr67, _, ⟨T67, L67, k67, n67⟩, -, X67, ⟨Lc67, hQ67, l67, y67, z67⟩, st67⟩ := Jvm.LawKit.callS X65 hx (y := (⟨"com/example/trailwire/trailwire/status/StatusCodeForHttpStatusPinLaw", "expected", "(I)Lcom/example/trailwire/trailwire/status/StatusCode;"⟩ : MethodName)) hown (mvT hZ (hw _ (List.mem_of_getElem? (i := 6) rfl))) (mvT hZ (hw _ (List.mem_of_getElem? (i := 7) rfl))) (mvT hZ (hw _ (List.mem_of_getElem? (i := 8) rfl))) (mvT hZ (hw _ (List.mem_of_getElem? (i := 9) rfl))) (by decide) (backOf (W := 1) (rm2 l Z a0 hw [] u (400 : Int32) B h0 n0 O ) hZ (hw _ (List.mem_of_getElem? (i := 9) rfl)) (hw _ (List.mem_of_getElem? (i := 8) rfl)) (by decide) (by decide)) (g := (mkF m 183 #[.val (.int p0), .val (.int p1), .val (.int (p0 &&& (15 : Int32))), .val (.int (400 : Int32)), .val (.ref (u 0))] [(.int (400 : Int32)), (.ref (u 0))])) rfl (by rw [hml]; rfl) (argsL := [(.int (400 : Int32))]) (rest := [(.ref (u 0))]) (lenOf own_pd0 rfl) rfl (by show 2 * 0 + _ ≤ _; exact Nat.le_of_eq rfl) (hb hby at_183) (fun _ _ => ⟨rfl, e65, (by decide : 0 + 0 ≤ _), (by decide : 0 + 0 ≤ _)⟩)
    dsimp only [Pt.U, Pt.locs, Pt.cells, Pt.slots] at X67 l67 y67 z67 st67 hQ67
    subst l67 y67 z67
    obtain ⟨hv67, N67q, e67⟩ := hQ67
    have N67 := Fr.app N65 N67q
    obtain rfl : vr67 = some (.ref (u 0)) := hv67.trans (by unfold own_r2; rw [if_pos (by decide : (400 : Int32) = (400 : Int32))])
    obtain ⟨fs, hr, hrun, hended, hW, hsame⟩ := X67.leave (v := some (.int (1 : Int32))) (fun h => by rw [Bd.returns] at h; cases h)
    refine ⟨_, _, pre66 _ ?_, hrun, hended, _, _, rfl, ?_, ⟨_, rfl⟩, hW, hsame.mono (by decide) (by decide)⟩
    · show Steps p.tables e below (T65.setTop (mkF m 183 #[.val (.int p0), .val (.int p1), .val (.int (p0 &&& (15 : Int32))), .val (.int (400 : Int32)), .val (.ref (u 0))] [(.int (400 : Int32)), (.ref (u 0))])) _
      refine st67 _ ?_
      show Steps p.tables e below (T67.setTop (mkF m 186 #[.val (.int p0), .val (.int p1), .val (.int (p0 &&& (15 : Int32))), .val (.int (400 : Int32)), .val (.ref (u 0))] [(.ref (u 0)), (.ref (u 0))])) _
      refine Jvm.RoadKit.acmp (g := (mkF m 186 #[.val (.int p0), .val (.int p1), .val (.int (p0 &&& (15 : Int32))), .val (.int (400 : Int32)), .val (.ref (u 0))] [(.ref (u 0)), (.ref (u 0))])) X67 hx rfl rfl rfl (pc0 := 186) (pc' := 189) (same := true) rfl (hb hby at_186) rfl (decide_eq_true rfl) (by decide) (by decide) ?_
      show Steps p.tables e below (T67.setTop (mkF m 189 #[.val (.int p0), .val (.int p1), .val (.int (p0 &&& (15 : Int32))), .val (.int (400 : Int32)), .val (.ref (u 0))] [])) _
      refine XS.iconst X67.here hx rfl (hb hby at_189) ?_
      show Steps p.tables e below (T67.setTop (mkF m 190 #[.val (.int p0), .val (.int p1), .val (.int (p0 &&& (15 : Int32))), .val (.int (400 : Int32)), .val (.ref (u 0))] [(.int (1 : Int32))])) _
      refine XS.goto X67.here hx rfl (pc0 := 190) (pc' := 194) rfl (hb hby at_190) (by decide) (by decide) ?_
      show Steps p.tables e below (T67.setTop (mkF m 194 #[.val (.int p0), .val (.int p1), .val (.int (p0 &&& (15 : Int32))), .val (.int (400 : Int32)), .val (.ref (u 0))] [(.int (1 : Int32))])) _
      exact retN X67 hx (t := .boolean) Bd.returns (by simp) (hb hby at_194) hr
    · show own_Q0 Z u p0 p1 h0 n0 _ T67.heap _
      rw [e67]
      exact ⟨rfl, N67, trivial⟩
  · --
    have pre69 : ∀ t, Steps p.tables e below (s₁.setTop (mkF m 18 #[.val (.int p0), .val (.int p1), .val (.int (p0 &&& (15 : Int32))), .unset, .unset] [(.int (1 : Int32)), (.int (p0 &&& (15 : Int32)))])) t → Steps p.tables e below (s₁.setTop (entryFrame m #[(.int p0), (.int p1)] maxLocals)) t := fun t kt => pre62 t (by
      show Steps p.tables e below (s₁.setTop (mkF m 6 #[.val (.int p0), .val (.int p1), .val (.int (p0 &&& (15 : Int32))), .unset, .unset] [(.int (p0 &&& (15 : Int32)))])) _
      refine XS.ifYes X0.here hx rfl (pc0 := 6) (pc' := 16) rfl (hb hby at_6) rfl ((if0 _ _).trans (feq hc63).2) (by decide) (by decide) ?_
      show Steps p.tables e below (s₁.setTop (mkF m 16 #[.val (.int p0), .val (.int p1), .val (.int (p0 &&& (15 : Int32))), .unset, .unset] [])) _
      refine XS.iloadN X0.here hx rfl (hb hby at_16) rfl ?_
      show Steps p.tables e below (s₁.setTop (mkF m 17 #[.val (.int p0), .val (.int p1), .val (.int (p0 &&& (15 : Int32))), .unset, .unset] [(.int (p0 &&& (15 : Int32)))])) _
      refine XS.iconst X0.here hx rfl (hb hby at_17) ?_
      exact kt)
    by_cases hc70 : (p0 &&& (15 : Int32)) = (1 : Int32)
    · --
      have pre71 : ∀ t, Steps p.tables e below (s₁.setTop (mkF m 175 #[.val (.int p0), .val (.int p1), .val (.int (p0 &&& (15 : Int32))), .val (.int (401 : Int32)), .unset] [(.int (401 : Int32))])) t → Steps p.tables e below (s₁.setTop (entryFrame m #[(.int p0), (.int p1)] maxLocals)) t := fun t kt => pre69 t (by
        show Steps p.tables e below (s₁.setTop (mkF m 18 #[.val (.int p0), .val (.int p1), .val (.int (p0 &&& (15 : Int32))), .unset, .unset] [(.int (1 : Int32)), (.int (p0 &&& (15 : Int32)))])) _
        refine XS.icmpNo X0.here hx rfl (hb hby at_18) rfl (teq hc70).2 ?_
        show Steps p.tables e below (s₁.setTop (mkF m 21 #[.val (.int p0), .val (.int p1), .val (.int (p0 &&& (15 : Int32))), .unset, .unset] [])) _
        refine XS.sipush X0.here hx rfl (hb hby at_21) ?_
        show Steps p.tables e below (s₁.setTop (mkF m 24 #[.val (.int p0), .val (.int p1), .val (.int (p0 &&& (15 : Int32))), .unset, .unset] [(.int (401 : Int32))])) _
        refine XS.istoreN X0.here hx rfl (hb hby at_24) rfl (l' := #[.val (.int p0), .val (.int p1), .val (.int (p0 &&& (15 : Int32))), .val (.int (401 : Int32)), .unset]) rfl ?_
        show Steps p.tables e below (s₁.setTop (mkF m 25 #[.val (.int p0), .val (.int p1), .val (.int (p0 &&& (15 : Int32))), .val (.int (401 : Int32)), .unset] [])) _
        refine XS.goto X0.here hx rfl (pc0 := 25) (pc' := 174) rfl (hb hby at_25) (by decide) (by decide) ?_
        show Steps p.tables e below (s₁.setTop (mkF m 174 #[.val (.int p0), .val (.int p1), .val (.int (p0 &&& (15 : Int32))), .val (.int (401 : Int32)), .unset] [])) _
        refine XS.iloadN X0.here hx rfl (hb hby at_174) rfl ?_
        exact kt)
      obtain ⟨vr72, _, ⟨T72, L72, k72, n72⟩, -, X72, ⟨Lc72, hQ72, l72, y72, z72⟩, st72⟩ := Jvm.LawKit.callS X0 hx (y := (⟨"com/example/trailwire/trailwire/status/StatusCode", "forHttpStatus", "(I)Lcom/example/trailwire/trailwire/status/StatusCode;"⟩ : MethodName)) hown (mvT hZ (hw _ (List.mem_of_getElem? (i := 0) rfl))) (mvT hZ (hw _ (List.mem_of_getElem? (i := 1) rfl))) (mvT hZ (hw _ (List.mem_of_getElem? (i := 2) rfl))) (mvT hZ (hw _ (List.mem_of_getElem? (i := 3) rfl))) (by decide) (backOf (W := 0) (rm1 l Z a0 hw [] u (401 : Int32) B h0 n0 O ) hZ (hw _ (List.mem_of_getElem? (i := 3) rfl)) (hw _ (List.mem_of_getElem? (i := 2) rfl)) (by decide) (by decide)) (g := (mkF m 175 #[.val (.int p0), .val (.int p1), .val (.int (p0 &&& (15 : Int32))), .val (.int (401 : Int32)), .unset] [(.int (401 : Int32))])) rfl (by rw [hml]; rfl) (argsL := [(.int (401 : Int32))]) (rest := []) (lenOf own_pd0 rfl) rfl (by show 2 * 0 + _ ≤ _; exact Nat.le_of_eq rfl) (hb hby at_175) (fun _ _ => ⟨rfl, e0, (by decide : 0 + 0 ≤ _), (by decide : 0 + 0 ≤ _)⟩)
      dsimp only [Pt.U, Pt.locs, Pt.cells, Pt.slots] at X72 l72 y72 z72 st72 hQ72
      subst l72 y72 z72
      obtain ⟨hv72, N72q, e72⟩ := hQ72
      have N72 := Fr.app N0 N72q
      obtain rfl : vr72 = some (.ref (u 5)) := hv72.trans (by unfold own_r1; rw [if_neg (by decide : ¬ ((401 : Int32) = (400 : Int32))), if_pos (by decide : (401 : Int32) = (401 : Int32))])
      have pre73 : ∀ t, Steps p.tables e below (T72.setTop (mkF m 183 #[.val (.int p0), .val (.int p1), .val (.int (p0 &&& (15 : Int32))), .val (.int (401 : Int32)), .val (.ref (u 5))] [(.int (401 : Int32)), (.ref (u 5))])) t → Steps p.tables e below (s₁.setTop (entryFrame m #[(.int p0), (.int p1)] maxLocals)) t := fun t kt => pre71 t (by
        show Steps p.tables e below (s₁.setTop (mkF m 175 #[.val (.int p0), .val (.int p1), .val (.int (p0 &&& (15 : Int32))), .val (.int (401 : Int32)), .unset] [(.int (401 : Int32))])) _
        refine st72 _ ?_
        show Steps p.tables e below (T72.setTop (mkF m 178 #[.val (.int p0), .val (.int p1), .val (.int (p0 &&& (15 : Int32))), .val (.int (401 : Int32)), .unset] [(.ref (u 5))])) _
        refine XS.astore X72.here hx rfl (hb hby at_178) rfl rfl (l' := #[.val (.int p0), .val (.int p1), .val (.int (p0 &&& (15 : Int32))), .val (.int (401 : Int32)), .val (.ref (u 5))]) rfl ?_
        show Steps p.tables e below (T72.setTop (mkF m 180 #[.val (.int p0), .val (.int p1), .val (.int (p0 &&& (15 : Int32))), .val (.int (401 : Int32)), .val (.ref (u 5))] [])) _
        refine XS.aload X72.here hx rfl (hb hby at_180) rfl rfl ?_
        show Steps p.tables e below (T72.setTop (mkF m 182 #[.val (.int p0), .val (.int p1), .val (.int (p0 &&& (15 : Int32))), .val (.int (401 : Int32)), .val (.ref (u 5))] [(.ref (u 5))])) _
        refine XS.iloadN X72.here hx rfl (hb hby at_182) rfl ?_
        exact kt)
      obtain ⟨vr74, _, ⟨T74, L74, k74, n74⟩, -, X74, ⟨Lc74, hQ74, l74, y74, z74⟩, st74⟩ := Jvm.LawKit.callS X72 hx (y := (⟨"com/example/trailwire/trailwire/status/StatusCodeForHttpStatusPinLaw", "expected", "(I)Lcom/example/trailwire/trailwire/status/StatusCode;"⟩ : MethodName)) hown (mvT hZ (hw _ (List.mem_of_getElem? (i := 6) rfl))) (mvT hZ (hw _ (List.mem_of_getElem? (i := 7) rfl))) (mvT hZ (hw _ (List.mem_of_getElem? (i := 8) rfl))) (mvT hZ (hw _ (List.mem_of_getElem? (i := 9) rfl))) (by decide) (backOf (W := 1) (rm2 l Z a0 hw [] u (401 : Int32) B h0 n0 O ) hZ (hw _ (List.mem_of_getElem? (i := 9) rfl)) (hw _ (List.mem_of_getElem? (i := 8) rfl)) (by decide) (by decide)) (g := (mkF m 183 #[.val (.int p0), .val (.int p1), .val (.int (p0 &&& (15 : Int32))), .val (.int (401 : Int32)), .val (.ref (u 5))] [(.int (401 : Int32)), (.ref (u 5))])) rfl (by rw [hml]; rfl) (argsL := [(.int (401 : Int32))]) (rest := [(.ref (u 5))]) (lenOf own_pd0 rfl) rfl (by show 2 * 0 + _ ≤ _; exact Nat.le_of_eq rfl) (hb hby at_183) (fun _ _ => ⟨rfl, e72, (by decide : 0 + 0 ≤ _), (by decide : 0 + 0 ≤ _)⟩)
      dsimp only [Pt.U, Pt.locs, Pt.cells, Pt.slots] at X74 l74 y74 z74 st74 hQ74
      subst l74 y74 z74
      obtain ⟨hv74, N74q, e74⟩ := hQ74
      have N74 := Fr.app N72 N74q
      obtain rfl : vr74 = some (.ref (u 5)) := hv74.trans (by unfold own_r2; rw [if_neg (by decide : ¬ ((401 : Int32) = (400 : Int32))), if_pos (by decide : (401 : Int32) = (401 : Int32))])
      obtain ⟨fs, hr, hrun, hended, hW, hsame⟩ := X74.leave (v := some (.int (1 : Int32))) (fun h => by rw [Bd.returns] at h; cases h)
      refine ⟨_, _, pre73 _ ?_, hrun, hended, _, _, rfl, ?_, ⟨_, rfl⟩, hW, hsame.mono (by decide) (by decide)⟩
      · show Steps p.tables e below (T72.setTop (mkF m 183 #[.val (.int p0), .val (.int p1), .val (.int (p0 &&& (15 : Int32))), .val (.int (401 : Int32)), .val (.ref (u 5))] [(.int (401 : Int32)), (.ref (u 5))])) _
        refine st74 _ ?_
        show Steps p.tables e below (T74.setTop (mkF m 186 #[.val (.int p0), .val (.int p1), .val (.int (p0 &&& (15 : Int32))), .val (.int (401 : Int32)), .val (.ref (u 5))] [(.ref (u 5)), (.ref (u 5))])) _
        refine Jvm.RoadKit.acmp (g := (mkF m 186 #[.val (.int p0), .val (.int p1), .val (.int (p0 &&& (15 : Int32))), .val (.int (401 : Int32)), .val (.ref (u 5))] [(.ref (u 5)), (.ref (u 5))])) X74 hx rfl rfl rfl (pc0 := 186) (pc' := 189) (same := true) rfl (hb hby at_186) rfl (decide_eq_true rfl) (by decide) (by decide) ?_
        show Steps p.tables e below (T74.setTop (mkF m 189 #[.val (.int p0), .val (.int p1), .val (.int (p0 &&& (15 : Int32))), .val (.int (401 : Int32)), .val (.ref (u 5))] [])) _
        refine XS.iconst X74.here hx rfl (hb hby at_189) ?_
        show Steps p.tables e below (T74.setTop (mkF m 190 #[.val (.int p0), .val (.int p1), .val (.int (p0 &&& (15 : Int32))), .val (.int (401 : Int32)), .val (.ref (u 5))] [(.int (1 : Int32))])) _
        refine XS.goto X74.here hx rfl (pc0 := 190) (pc' := 194) rfl (hb hby at_190) (by decide) (by decide) ?_
        show Steps p.tables e below (T74.setTop (mkF m 194 #[.val (.int p0), .val (.int p1), .val (.int (p0 &&& (15 : Int32))), .val (.int (401 : Int32)), .val (.ref (u 5))] [(.int (1 : Int32))])) _
        exact retN X74 hx (t := .boolean) Bd.returns (by simp) (hb hby at_194) hr
      · show own_Q0 Z u p0 p1 h0 n0 _ T74.heap _
        rw [e74]
        exact ⟨rfl, N74, trivial⟩
    · --
      have pre76 : ∀ t, Steps p.tables e below (s₁.setTop (mkF m 30 #[.val (.int p0), .val (.int p1), .val (.int (p0 &&& (15 : Int32))), .unset, .unset] [(.int (2 : Int32)), (.int (p0 &&& (15 : Int32)))])) t → Steps p.tables e below (s₁.setTop (entryFrame m #[(.int p0), (.int p1)] maxLocals)) t := fun t kt => pre69 t (by
        show Steps p.tables e below (s₁.setTop (mkF m 18 #[.val (.int p0), .val (.int p1), .val (.int (p0 &&& (15 : Int32))), .unset, .unset] [(.int (1 : Int32)), (.int (p0 &&& (15 : Int32)))])) _
        refine XS.icmpYes X0.here hx rfl (pc0 := 18) (pc' := 28) rfl (hb hby at_18) rfl (feq hc70).2 (by decide) (by decide) ?_
        show Steps p.tables e below (s₁.setTop (mkF m 28 #[.val (.int p0), .val (.int p1), .val (.int (p0 &&& (15 : Int32))), .unset, .unset] [])) _
        refine XS.iloadN X0.here hx rfl (hb hby at_28) rfl ?_
        show Steps p.tables e below (s₁.setTop (mkF m 29 #[.val (.int p0), .val (.int p1), .val (.int (p0 &&& (15 : Int32))), .unset, .unset] [(.int (p0 &&& (15 : Int32)))])) _
        refine XS.iconst X0.here hx rfl (hb hby at_29) ?_
        exact kt)
      by_cases hc77 : (p0 &&& (15 : Int32)) = (2 : Int32)
      · --
        have pre78 : ∀ t, Steps p.tables e below (s₁.setTop (mkF m 175 #[.val (.int p0), .val (.int p1), .val (.int (p0 &&& (15 : Int32))), .val (.int (403 : Int32)), .unset] [(.int (403 : Int32))])) t → Steps p.tables e below (s₁.setTop (entryFrame m #[(.int p0), (.int p1)] maxLocals)) t := fun t kt => pre76 t (by
          show Steps p.tables e below (s₁.setTop (mkF m 30 #[.val (.int p0), .val (.int p1), .val (.int (p0 &&& (15 : Int32))), .unset, .unset] [(.int (2 : Int32)), (.int (p0 &&& (15 : Int32)))])) _
          refine XS.icmpNo X0.here hx rfl (hb hby at_30) rfl (teq hc77).2 ?_
          show Steps p.tables e below (s₁.setTop (mkF m 33 #[.val (.int p0), .val (.int p1), .val (.int (p0 &&& (15 : Int32))), .unset, .unset] [])) _
          refine XS.sipush X0.here hx rfl (hb hby at_33) ?_
          show Steps p.tables e below (s₁.setTop (mkF m 36 #[.val (.int p0), .val (.int p1), .val (.int (p0 &&& (15 : Int32))), .unset, .unset] [(.int (403 : Int32))])) _
          refine XS.istoreN X0.here hx rfl (hb hby at_36) rfl (l' := #[.val (.int p0), .val (.int p1), .val (.int (p0 &&& (15 : Int32))), .val (.int (403 : Int32)), .unset]) rfl ?_
          show Steps p.tables e below (s₁.setTop (mkF m 37 #[.val (.int p0), .val (.int p1), .val (.int (p0 &&& (15 : Int32))), .val (.int (403 : Int32)), .unset] [])) _
          refine XS.goto X0.here hx rfl (pc0 := 37) (pc' := 174) rfl (hb hby at_37) (by decide) (by decide) ?_
          show Steps p.tables e below (s₁.setTop (mkF m 174 #[.val (.int p0), .val (.int p1), .val (.int (p0 &&& (15 : Int32))), .val (.int (403 : Int32)), .unset] [])) _
          refine XS.iloadN X0.here hx rfl (hb hby at_174) rfl ?_
          exact kt)
        obtain ⟨vr79, _, ⟨T79, L79, k79, n79⟩, -, X79, ⟨Lc79, hQ79, l79, y79, z79⟩, st79⟩ := Jvm.LawKit.callS X0 hx (y := (⟨"com/example/trailwire/trailwire/status/StatusCode", "forHttpStatus", "(I)Lcom/example/trailwire/trailwire/status/StatusCode;"⟩ : MethodName)) hown (mvT hZ (hw _ (List.mem_of_getElem? (i := 0) rfl))) (mvT hZ (hw _ (List.mem_of_getElem? (i := 1) rfl))) (mvT hZ (hw _ (List.mem_of_getElem? (i := 2) rfl))) (mvT hZ (hw _ (List.mem_of_getElem? (i := 3) rfl))) (by decide) (backOf (W := 0) (rm1 l Z a0 hw [] u (403 : Int32) B h0 n0 O ) hZ (hw _ (List.mem_of_getElem? (i := 3) rfl)) (hw _ (List.mem_of_getElem? (i := 2) rfl)) (by decide) (by decide)) (g := (mkF m 175 #[.val (.int p0), .val (.int p1), .val (.int (p0 &&& (15 : Int32))), .val (.int (403 : Int32)), .unset] [(.int (403 : Int32))])) rfl (by rw [hml]; rfl) (argsL := [(.int (403 : Int32))]) (rest := []) (lenOf own_pd0 rfl) rfl (by show 2 * 0 + _ ≤ _; exact Nat.le_of_eq rfl) (hb hby at_175) (fun _ _ => ⟨rfl, e0, (by decide : 0 + 0 ≤ _), (by decide : 0 + 0 ≤ _)⟩)
        dsimp only [Pt.U, Pt.locs, Pt.cells, Pt.slots] at X79 l79 y79 z79 st79 hQ79
        subst l79 y79 z79
        obtain ⟨hv79, N79q, e79⟩ := hQ79
        have N79 := Fr.app N0 N79q
        obtain rfl : vr79 = some (.ref (u 2)) := hv79.trans (by unfold own_r1; rw [if_neg (by decide : ¬ ((403 : Int32) = (400 : Int32))), if_neg (by decide : ¬ ((403 : Int32) = (401 : Int32))), if_pos (by decide : (403 : Int32) = (403 : Int32))])
        have pre80 : ∀ t, Steps p.tables e below (T79.setTop (mkF m 183 #[.val (.int p0), .val (.int p1), .val (.int (p0 &&& (15 : Int32))), .val (.int (403 : Int32)), .val (.ref (u 2))] [(.int (403 : Int32)), (.ref (u 2))])) t → Steps p.tables e below (s₁.setTop (entryFrame m #[(.int p0), (.int p1)] maxLocals)) t := fun t kt => pre78 t (by
          show Steps p.tables e below (s₁.setTop (mkF m 175 #[.val (.int p0), .val (.int p1), .val (.int (p0 &&& (15 : Int32))), .val (.int (403 : Int32)), .unset] [(.int (403 : Int32))])) _
          refine st79 _ ?_
          show Steps p.tables e below (T79.setTop (mkF m 178 #[.val (.int p0), .val (.int p1), .val (.int (p0 &&& (15 : Int32))), .val (.int (403 : Int32)), .unset] [(.ref (u 2))])) _
          refine XS.astore X79.here hx rfl (hb hby at_178) rfl rfl (l' := #[.val (.int p0), .val (.int p1), .val (.int (p0 &&& (15 : Int32))), .val (.int (403 : Int32)), .val (.ref (u 2))]) rfl ?_
          show Steps p.tables e below (T79.setTop (mkF m 180 #[.val (.int p0), .val (.int p1), .val (.int (p0 &&& (15 : Int32))), .val (.int (403 : Int32)), .val (.ref (u 2))] [])) _
          refine XS.aload X79.here hx rfl (hb hby at_180) rfl rfl ?_
          show Steps p.tables e below (T79.setTop (mkF m 182 #[.val (.int p0), .val (.int p1), .val (.int (p0 &&& (15 : Int32))), .val (.int (403 : Int32)), .val (.ref (u 2))] [(.ref (u 2))])) _
          refine XS.iloadN X79.here hx rfl (hb hby at_182) rfl ?_
          exact kt)
        obtain ⟨vr81, _, ⟨T81, L81, k81, n81⟩, -, X81, ⟨Lc81, hQ81, l81, y81, z81⟩, st81⟩ := Jvm.LawKit.callS X79 hx (y := (⟨"com/example/trailwire/trailwire/status/StatusCodeForHttpStatusPinLaw", "expected", "(I)Lcom/example/trailwire/trailwire/status/StatusCode;"⟩ : MethodName)) hown (mvT hZ (hw _ (List.mem_of_getElem? (i := 6) rfl))) (mvT hZ (hw _ (List.mem_of_getElem? (i := 7) rfl))) (mvT hZ (hw _ (List.mem_of_getElem? (i := 8) rfl))) (mvT hZ (hw _ (List.mem_of_getElem? (i := 9) rfl))) (by decide) (backOf (W := 1) (rm2 l Z a0 hw [] u (403 : Int32) B h0 n0 O ) hZ (hw _ (List.mem_of_getElem? (i := 9) rfl)) (hw _ (List.mem_of_getElem? (i := 8) rfl)) (by decide) (by decide)) (g := (mkF m 183 #[.val (.int p0), .val (.int p1), .val (.int (p0 &&& (15 : Int32))), .val (.int (403 : Int32)), .val (.ref (u 2))] [(.int (403 : Int32)), (.ref (u 2))])) rfl (by rw [hml]; rfl) (argsL := [(.int (403 : Int32))]) (rest := [(.ref (u 2))]) (lenOf own_pd0 rfl) rfl (by show 2 * 0 + _ ≤ _; exact Nat.le_of_eq rfl) (hb hby at_183) (fun _ _ => ⟨rfl, e79, (by decide : 0 + 0 ≤ _), (by decide : 0 + 0 ≤ _)⟩)
        dsimp only [Pt.U, Pt.locs, Pt.cells, Pt.slots] at X81 l81 y81 z81 st81 hQ81
        subst l81 y81 z81
        obtain ⟨hv81, N81q, e81⟩ := hQ81
        have N81 := Fr.app N79 N81q
        obtain rfl : vr81 = some (.ref (u 2)) := hv81.trans (by unfold own_r2; rw [if_neg (by decide : ¬ ((403 : Int32) = (400 : Int32))), if_neg (by decide : ¬ ((403 : Int32) = (401 : Int32))), if_pos (by decide : (403 : Int32) = (403 : Int32))])
        obtain ⟨fs, hr, hrun, hended, hW, hsame⟩ := X81.leave (v := some (.int (1 : Int32))) (fun h => by rw [Bd.returns] at h; cases h)
        refine ⟨_, _, pre80 _ ?_, hrun, hended, _, _, rfl, ?_, ⟨_, rfl⟩, hW, hsame.mono (by decide) (by decide)⟩
        · show Steps p.tables e below (T79.setTop (mkF m 183 #[.val (.int p0), .val (.int p1), .val (.int (p0 &&& (15 : Int32))), .val (.int (403 : Int32)), .val (.ref (u 2))] [(.int (403 : Int32)), (.ref (u 2))])) _
          refine st81 _ ?_
          show Steps p.tables e below (T81.setTop (mkF m 186 #[.val (.int p0), .val (.int p1), .val (.int (p0 &&& (15 : Int32))), .val (.int (403 : Int32)), .val (.ref (u 2))] [(.ref (u 2)), (.ref (u 2))])) _
          refine Jvm.RoadKit.acmp (g := (mkF m 186 #[.val (.int p0), .val (.int p1), .val (.int (p0 &&& (15 : Int32))), .val (.int (403 : Int32)), .val (.ref (u 2))] [(.ref (u 2)), (.ref (u 2))])) X81 hx rfl rfl rfl (pc0 := 186) (pc' := 189) (same := true) rfl (hb hby at_186) rfl (decide_eq_true rfl) (by decide) (by decide) ?_
          show Steps p.tables e below (T81.setTop (mkF m 189 #[.val (.int p0), .val (.int p1), .val (.int (p0 &&& (15 : Int32))), .val (.int (403 : Int32)), .val (.ref (u 2))] [])) _
          refine XS.iconst X81.here hx rfl (hb hby at_189) ?_
          show Steps p.tables e below (T81.setTop (mkF m 190 #[.val (.int p0), .val (.int p1), .val (.int (p0 &&& (15 : Int32))), .val (.int (403 : Int32)), .val (.ref (u 2))] [(.int (1 : Int32))])) _
          refine XS.goto X81.here hx rfl (pc0 := 190) (pc' := 194) rfl (hb hby at_190) (by decide) (by decide) ?_
          show Steps p.tables e below (T81.setTop (mkF m 194 #[.val (.int p0), .val (.int p1), .val (.int (p0 &&& (15 : Int32))), .val (.int (403 : Int32)), .val (.ref (u 2))] [(.int (1 : Int32))])) _
          exact retN X81 hx (t := .boolean) Bd.returns (by simp) (hb hby at_194) hr
        · show own_Q0 Z u p0 p1 h0 n0 _ T81.heap _
          rw [e81]
          exact ⟨rfl, N81, trivial⟩
      · --
        have pre83 : ∀ t, Steps p.tables e below (s₁.setTop (mkF m 42 #[.val (.int p0), .val (.int p1), .val (.int (p0 &&& (15 : Int32))), .unset, .unset] [(.int (3 : Int32)), (.int (p0 &&& (15 : Int32)))])) t → Steps p.tables e below (s₁.setTop (entryFrame m #[(.int p0), (.int p1)] maxLocals)) t := fun t kt => pre76 t (by
          show Steps p.tables e below (s₁.setTop (mkF m 30 #[.val (.int p0), .val (.int p1), .val (.int (p0 &&& (15 : Int32))), .unset, .unset] [(.int (2 : Int32)), (.int (p0 &&& (15 : Int32)))])) _
          refine XS.icmpYes X0.here hx rfl (pc0 := 30) (pc' := 40) rfl (hb hby at_30) rfl (feq hc77).2 (by decide) (by decide) ?_
          show Steps p.tables e below (s₁.setTop (mkF m 40 #[.val (.int p0), .val (.int p1), .val (.int (p0 &&& (15 : Int32))), .unset, .unset] [])) _
          refine XS.iloadN X0.here hx rfl (hb hby at_40) rfl ?_
          show Steps p.tables e below (s₁.setTop (mkF m 41 #[.val (.int p0), .val (.int p1), .val (.int (p0 &&& (15 : Int32))), .unset, .unset] [(.int (p0 &&& (15 : Int32)))])) _
          refine XS.iconst X0.here hx rfl (hb hby at_41) ?_
          exact kt)
        by_cases hc84 : (p0 &&& (15 : Int32)) = (3 : Int32)
        · --
          have pre85 : ∀ t, Steps p.tables e below (s₁.setTop (mkF m 175 #[.val (.int p0), .val (.int p1), .val (.int (p0 &&& (15 : Int32))), .val (.int (404 : Int32)), .unset] [(.int (404 : Int32))])) t → Steps p.tables e below (s₁.setTop (entryFrame m #[(.int p0), (.int p1)] maxLocals)) t := fun t kt => pre83 t (by
            show Steps p.tables e below (s₁.setTop (mkF m 42 #[.val (.int p0), .val (.int p1), .val (.int (p0 &&& (15 : Int32))), .unset, .unset] [(.int (3 : Int32)), (.int (p0 &&& (15 : Int32)))])) _
            refine XS.icmpNo X0.here hx rfl (hb hby at_42) rfl (teq hc84).2 ?_
            show Steps p.tables e below (s₁.setTop (mkF m 45 #[.val (.int p0), .val (.int p1), .val (.int (p0 &&& (15 : Int32))), .unset, .unset] [])) _
            refine XS.sipush X0.here hx rfl (hb hby at_45) ?_
            show Steps p.tables e below (s₁.setTop (mkF m 48 #[.val (.int p0), .val (.int p1), .val (.int (p0 &&& (15 : Int32))), .unset, .unset] [(.int (404 : Int32))])) _
            refine XS.istoreN X0.here hx rfl (hb hby at_48) rfl (l' := #[.val (.int p0), .val (.int p1), .val (.int (p0 &&& (15 : Int32))), .val (.int (404 : Int32)), .unset]) rfl ?_
            show Steps p.tables e below (s₁.setTop (mkF m 49 #[.val (.int p0), .val (.int p1), .val (.int (p0 &&& (15 : Int32))), .val (.int (404 : Int32)), .unset] [])) _
            refine XS.goto X0.here hx rfl (pc0 := 49) (pc' := 174) rfl (hb hby at_49) (by decide) (by decide) ?_
            show Steps p.tables e below (s₁.setTop (mkF m 174 #[.val (.int p0), .val (.int p1), .val (.int (p0 &&& (15 : Int32))), .val (.int (404 : Int32)), .unset] [])) _
            refine XS.iloadN X0.here hx rfl (hb hby at_174) rfl ?_
            exact kt)
          obtain ⟨vr86, _, ⟨T86, L86, k86, n86⟩, -, X86, ⟨Lc86, hQ86, l86, y86, z86⟩, st86⟩ := Jvm.LawKit.callS X0 hx (y := (⟨"com/example/trailwire/trailwire/status/StatusCode", "forHttpStatus", "(I)Lcom/example/trailwire/trailwire/status/StatusCode;"⟩ : MethodName)) hown (mvT hZ (hw _ (List.mem_of_getElem? (i := 0) rfl))) (mvT hZ (hw _ (List.mem_of_getElem? (i := 1) rfl))) (mvT hZ (hw _ (List.mem_of_getElem? (i := 2) rfl))) (mvT hZ (hw _ (List.mem_of_getElem? (i := 3) rfl))) (by decide) (backOf (W := 0) (rm1 l Z a0 hw [] u (404 : Int32) B h0 n0 O ) hZ (hw _ (List.mem_of_getElem? (i := 3) rfl)) (hw _ (List.mem_of_getElem? (i := 2) rfl)) (by decide) (by decide)) (g := (mkF m 175 #[.val (.int p0), .val (.int p1), .val (.int (p0 &&& (15 : Int32))), .val (.int (404 : Int32)), .unset] [(.int (404 : Int32))])) rfl (by rw [hml]; rfl) (argsL := [(.int (404 : Int32))]) (rest := []) (lenOf own_pd0 rfl) rfl (by show 2 * 0 + _ ≤ _; exact Nat.le_of_eq rfl) (hb hby at_175) (fun _ _ => ⟨rfl, e0, (by decide : 0 + 0 ≤ _), (by decide : 0 + 0 ≤ _)⟩)
          dsimp only [Pt.U, Pt.locs, Pt.cells, Pt.slots] at X86 l86 y86 z86 st86 hQ86
          subst l86 y86 z86
          obtain ⟨hv86, N86q, e86⟩ := hQ86
          have N86 := Fr.app N0 N86q
          obtain rfl : vr86 = some (.ref (u 4)) := hv86.trans (by unfold own_r1; rw [if_neg (by decide : ¬ ((404 : Int32) = (400 : Int32))), if_neg (by decide : ¬ ((404 : Int32) = (401 : Int32))), if_neg (by decide : ¬ ((404 : Int32) = (403 : Int32))), if_pos (by decide : (404 : Int32) = (404 : Int32))])
          have pre87 : ∀ t, Steps p.tables e below (T86.setTop (mkF m 183 #[.val (.int p0), .val (.int p1), .val (.int (p0 &&& (15 : Int32))), .val (.int (404 : Int32)), .val (.ref (u 4))] [(.int (404 : Int32)), (.ref (u 4))])) t → Steps p.tables e below (s₁.setTop (entryFrame m #[(.int p0), (.int p1)] maxLocals)) t := fun t kt => pre85 t (by
            show Steps p.tables e below (s₁.setTop (mkF m 175 #[.val (.int p0), .val (.int p1), .val (.int (p0 &&& (15 : Int32))), .val (.int (404 : Int32)), .unset] [(.int (404 : Int32))])) _
            refine st86 _ ?_
            show Steps p.tables e below (T86.setTop (mkF m 178 #[.val (.int p0), .val (.int p1), .val (.int (p0 &&& (15 : Int32))), .val (.int (404 : Int32)), .unset] [(.ref (u 4))])) _
            refine XS.astore X86.here hx rfl (hb hby at_178) rfl rfl (l' := #[.val (.int p0), .val (.int p1), .val (.int (p0 &&& (15 : Int32))), .val (.int (404 : Int32)), .val (.ref (u 4))]) rfl ?_
            show Steps p.tables e below (T86.setTop (mkF m 180 #[.val (.int p0), .val (.int p1), .val (.int (p0 &&& (15 : Int32))), .val (.int (404 : Int32)), .val (.ref (u 4))] [])) _
            refine XS.aload X86.here hx rfl (hb hby at_180) rfl rfl ?_
            show Steps p.tables e below (T86.setTop (mkF m 182 #[.val (.int p0), .val (.int p1), .val (.int (p0 &&& (15 : Int32))), .val (.int (404 : Int32)), .val (.ref (u 4))] [(.ref (u 4))])) _
            refine XS.iloadN X86.here hx rfl (hb hby at_182) rfl ?_
            exact kt)
          obtain ⟨vr88, _, ⟨T88, L88, k88, n88⟩, -, X88, ⟨Lc88, hQ88, l88, y88, z88⟩, st88⟩ := Jvm.LawKit.callS X86 hx (y := (⟨"com/example/trailwire/trailwire/status/StatusCodeForHttpStatusPinLaw", "expected", "(I)Lcom/example/trailwire/trailwire/status/StatusCode;"⟩ : MethodName)) hown (mvT hZ (hw _ (List.mem_of_getElem? (i := 6) rfl))) (mvT hZ (hw _ (List.mem_of_getElem? (i := 7) rfl))) (mvT hZ (hw _ (List.mem_of_getElem? (i := 8) rfl))) (mvT hZ (hw _ (List.mem_of_getElem? (i := 9) rfl))) (by decide) (backOf (W := 1) (rm2 l Z a0 hw [] u (404 : Int32) B h0 n0 O ) hZ (hw _ (List.mem_of_getElem? (i := 9) rfl)) (hw _ (List.mem_of_getElem? (i := 8) rfl)) (by decide) (by decide)) (g := (mkF m 183 #[.val (.int p0), .val (.int p1), .val (.int (p0 &&& (15 : Int32))), .val (.int (404 : Int32)), .val (.ref (u 4))] [(.int (404 : Int32)), (.ref (u 4))])) rfl (by rw [hml]; rfl) (argsL := [(.int (404 : Int32))]) (rest := [(.ref (u 4))]) (lenOf own_pd0 rfl) rfl (by show 2 * 0 + _ ≤ _; exact Nat.le_of_eq rfl) (hb hby at_183) (fun _ _ => ⟨rfl, e86, (by decide : 0 + 0 ≤ _), (by decide : 0 + 0 ≤ _)⟩)
          dsimp only [Pt.U, Pt.locs, Pt.cells, Pt.slots] at X88 l88 y88 z88 st88 hQ88
          subst l88 y88 z88
          obtain ⟨hv88, N88q, e88⟩ := hQ88
          have N88 := Fr.app N86 N88q
          obtain rfl : vr88 = some (.ref (u 4)) := hv88.trans (by unfold own_r2; rw [if_neg (by decide : ¬ ((404 : Int32) = (400 : Int32))), if_neg (by decide : ¬ ((404 : Int32) = (401 : Int32))), if_neg (by decide : ¬ ((404 : Int32) = (403 : Int32))), if_pos (by decide : (404 : Int32) = (404 : Int32))])
          obtain ⟨fs, hr, hrun, hended, hW, hsame⟩ := X88.leave (v := some (.int (1 : Int32))) (fun h => by rw [Bd.returns] at h; cases h)
          refine ⟨_, _, pre87 _ ?_, hrun, hended, _, _, rfl, ?_, ⟨_, rfl⟩, hW, hsame.mono (by decide) (by decide)⟩
          · show Steps p.tables e below (T86.setTop (mkF m 183 #[.val (.int p0), .val (.int p1), .val (.int (p0 &&& (15 : Int32))), .val (.int (404 : Int32)), .val (.ref (u 4))] [(.int (404 : Int32)), (.ref (u 4))])) _
            refine st88 _ ?_
            show Steps p.tables e below (T88.setTop (mkF m 186 #[.val (.int p0), .val (.int p1), .val (.int (p0 &&& (15 : Int32))), .val (.int (404 : Int32)), .val (.ref (u 4))] [(.ref (u 4)), (.ref (u 4))])) _
            refine Jvm.RoadKit.acmp (g := (mkF m 186 #[.val (.int p0), .val (.int p1), .val (.int (p0 &&& (15 : Int32))), .val (.int (404 : Int32)), .val (.ref (u 4))] [(.ref (u 4)), (.ref (u 4))])) X88 hx rfl rfl rfl (pc0 := 186) (pc' := 189) (same := true) rfl (hb hby at_186) rfl (decide_eq_true rfl) (by decide) (by decide) ?_
            show Steps p.tables e below (T88.setTop (mkF m 189 #[.val (.int p0), .val (.int p1), .val (.int (p0 &&& (15 : Int32))), .val (.int (404 : Int32)), .val (.ref (u 4))] [])) _
            refine XS.iconst X88.here hx rfl (hb hby at_189) ?_
            show Steps p.tables e below (T88.setTop (mkF m 190 #[.val (.int p0), .val (.int p1), .val (.int (p0 &&& (15 : Int32))), .val (.int (404 : Int32)), .val (.ref (u 4))] [(.int (1 : Int32))])) _
            refine XS.goto X88.here hx rfl (pc0 := 190) (pc' := 194) rfl (hb hby at_190) (by decide) (by decide) ?_
            show Steps p.tables e below (T88.setTop (mkF m 194 #[.val (.int p0), .val (.int p1), .val (.int (p0 &&& (15 : Int32))), .val (.int (404 : Int32)), .val (.ref (u 4))] [(.int (1 : Int32))])) _
            exact retN X88 hx (t := .boolean) Bd.returns (by simp) (hb hby at_194) hr
          · show own_Q0 Z u p0 p1 h0 n0 _ T88.heap _
            rw [e88]
            exact ⟨rfl, N88, trivial⟩
        · --
          have pre90 : ∀ t, Steps p.tables e below (s₁.setTop (mkF m 54 #[.val (.int p0), .val (.int p1), .val (.int (p0 &&& (15 : Int32))), .unset, .unset] [(.int (4 : Int32)), (.int (p0 &&& (15 : Int32)))])) t → Steps p.tables e below (s₁.setTop (entryFrame m #[(.int p0), (.int p1)] maxLocals)) t := fun t kt => pre83 t (by
            show Steps p.tables e below (s₁.setTop (mkF m 42 #[.val (.int p0), .val (.int p1), .val (.int (p0 &&& (15 : Int32))), .unset, .unset] [(.int (3 : Int32)), (.int (p0 &&& (15 : Int32)))])) _
            refine XS.icmpYes X0.here hx rfl (pc0 := 42) (pc' := 52) rfl (hb hby at_42) rfl (feq hc84).2 (by decide) (by decide) ?_
            show Steps p.tables e below (s₁.setTop (mkF m 52 #[.val (.int p0), .val (.int p1), .val (.int (p0 &&& (15 : Int32))), .unset, .unset] [])) _
            refine XS.iloadN X0.here hx rfl (hb hby at_52) rfl ?_
            show Steps p.tables e below (s₁.setTop (mkF m 53 #[.val (.int p0), .val (.int p1), .val (.int (p0 &&& (15 : Int32))), .unset, .unset] [(.int (p0 &&& (15 : Int32)))])) _
            refine XS.iconst X0.here hx rfl (hb hby at_53) ?_
            exact kt)
          by_cases hc91 : (p0 &&& (15 : Int32)) = (4 : Int32)
          · --
            have pre92 : ∀ t, Steps p.tables e below (s₁.setTop (mkF m 175 #[.val (.int p0), .val (.int p1), .val (.int (p0 &&& (15 : Int32))), .val (.int (429 : Int32)), .unset] [(.int (429 : Int32))])) t → Steps p.tables e below (s₁.setTop (entryFrame m #[(.int p0), (.int p1)] maxLocals)) t := fun t kt => pre90 t (by
              show Steps p.tables e below (s₁.setTop (mkF m 54 #[.val (.int p0), .val (.int p1), .val (.int (p0 &&& (15 : Int32))), .unset, .unset] [(.int (4 : Int32)), (.int (p0 &&& (15 : Int32)))])) _
              refine XS.icmpNo X0.here hx rfl (hb hby at_54) rfl (teq hc91).2 ?_
              show Steps p.tables e below (s₁.setTop (mkF m 57 #[.val (.int p0), .val (.int p1), .val (.int (p0 &&& (15 : Int32))), .unset, .unset] [])) _
              refine XS.sipush X0.here hx rfl (hb hby at_57) ?_
              show Steps p.tables e below (s₁.setTop (mkF m 60 #[.val (.int p0), .val (.int p1), .val (.int (p0 &&& (15 : Int32))), .unset, .unset] [(.int (429 : Int32))])) _
              refine XS.istoreN X0.here hx rfl (hb hby at_60) rfl (l' := #[.val (.int p0), .val (.int p1), .val (.int (p0 &&& (15 : Int32))), .val (.int (429 : Int32)), .unset]) rfl ?_
              show Steps p.tables e below (s₁.setTop (mkF m 61 #[.val (.int p0), .val (.int p1), .val (.int (p0 &&& (15 : Int32))), .val (.int (429 : Int32)), .unset] [])) _
              refine XS.goto X0.here hx rfl (pc0 := 61) (pc' := 174) rfl (hb hby at_61) (by decide) (by decide) ?_
              show Steps p.tables e below (s₁.setTop (mkF m 174 #[.val (.int p0), .val (.int p1), .val (.int (p0 &&& (15 : Int32))), .val (.int (429 : Int32)), .unset] [])) _
              refine XS.iloadN X0.here hx rfl (hb hby at_174) rfl ?_
              exact kt)
            obtain ⟨vr93, _, ⟨T93, L93, k93, n93⟩, -, X93, ⟨Lc93, hQ93, l93, y93, z93⟩, st93⟩ := Jvm.LawKit.callS X0 hx (y := (⟨"com/example/trailwire/trailwire/status/StatusCode", "forHttpStatus", "(I)Lcom/example/trailwire/trailwire/status/StatusCode;"⟩ : MethodName)) hown (mvT hZ (hw _ (List.mem_of_getElem? (i := 0) rfl))) (mvT hZ (hw _ (List.mem_of_getElem? (i := 1) rfl))) (mvT hZ (hw _ (List.mem_of_getElem? (i := 2) rfl))) (mvT hZ (hw _ (List.mem_of_getElem? (i := 3) rfl))) (by decide) (backOf (W := 0) (rm1 l Z a0 hw [] u (429 : Int32) B h0 n0 O ) hZ (hw _ (List.mem_of_getElem? (i := 3) rfl)) (hw _ (List.mem_of_getElem? (i := 2) rfl)) (by decide) (by decide)) (g := (mkF m 175 #[.val (.int p0), .val (.int p1), .val (.int (p0 &&& (15 : Int32))), .val (.int (429 : Int32)), .unset] [(.int (429 : Int32))])) rfl (by rw [hml]; rfl) (argsL := [(.int (429 : Int32))]) (rest := []) (lenOf own_pd0 rfl) rfl (by show 2 * 0 + _ ≤ _; exact Nat.le_of_eq rfl) (hb hby at_175) (fun _ _ => ⟨rfl, e0, (by decide : 0 + 0 ≤ _), (by decide : 0 + 0 ≤ _)⟩)
            dsimp only [Pt.U, Pt.locs, Pt.cells, Pt.slots] at X93 l93 y93 z93 st93 hQ93
            subst l93 y93 z93
            obtain ⟨hv93, N93q, e93⟩ := hQ93
            have N93 := Fr.app N0 N93q
            obtain rfl : vr93 = some (.ref (u 3)) := hv93.trans (by unfold own_r1; rw [if_neg (by decide : ¬ ((429 : Int32) = (400 : Int32))), if_neg (by decide : ¬ ((429 : Int32) = (401 : Int32))), if_neg (by decide : ¬ ((429 : Int32) = (403 : Int32))), if_neg (by decide : ¬ ((429 : Int32) = (404 : Int32))), if_pos (by decide : (429 : Int32) = (429 : Int32))])
            have pre94 : ∀ t, Steps p.tables e below (T93.setTop (mkF m 183 #[.val (.int p0), .val (.int p1), .val (.int (p0 &&& (15 : Int32))), .val (.int (429 : Int32)), .val (.ref (u 3))] [(.int (429 : Int32)), (.ref (u 3))])) t → Steps p.tables e below (s₁.setTop (entryFrame m #[(.int p0), (.int p1)] maxLocals)) t := fun t kt => pre92 t (by
              show Steps p.tables e below (s₁.setTop (mkF m 175 #[.val (.int p0), .val (.int p1), .val (.int (p0 &&& (15 : Int32))), .val (.int (429 : Int32)), .unset] [(.int (429 : Int32))])) _
              refine st93 _ ?_
              show Steps p.tables e below (T93.setTop (mkF m 178 #[.val (.int p0), .val (.int p1), .val (.int (p0 &&& (15 : Int32))), .val (.int (429 : Int32)), .unset] [(.ref (u 3))])) _
              refine XS.astore X93.here hx rfl (hb hby at_178) rfl rfl (l' := #[.val (.int p0), .val (.int p1), .val (.int (p0 &&& (15 : Int32))), .val (.int (429 : Int32)), .val (.ref (u 3))]) rfl ?_
              show Steps p.tables e below (T93.setTop (mkF m 180 #[.val (.int p0), .val (.int p1), .val (.int (p0 &&& (15 : Int32))), .val (.int (429 : Int32)), .val (.ref (u 3))] [])) _
              refine XS.aload X93.here hx rfl (hb hby at_180) rfl rfl ?_
              show Steps p.tables e below (T93.setTop (mkF m 182 #[.val (.int p0), .val (.int p1), .val (.int (p0 &&& (15 : Int32))), .val (.int (429 : Int32)), .val (.ref (u 3))] [(.ref (u 3))])) _
              refine XS.iloadN X93.here hx rfl (hb hby at_182) rfl ?_
              exact kt)
            obtain ⟨vr95, _, ⟨T95, L95, k95, n95⟩, -, X95, ⟨Lc95, hQ95, l95, y95, z95⟩, st95⟩ := Jvm.LawKit.callS X93 hx (y := (⟨"com/example/trailwire/trailwire/status/StatusCodeForHttpStatusPinLaw", "expected", "(I)Lcom/example/trailwire/trailwire/status/StatusCode;"⟩ : MethodName)) hown (mvT hZ (hw _ (List.mem_of_getElem? (i := 6) rfl))) (mvT hZ (hw _ (List.mem_of_getElem? (i := 7) rfl))) (mvT hZ (hw _ (List.mem_of_getElem? (i := 8) rfl))) (mvT hZ (hw _ (List.mem_of_getElem? (i := 9) rfl))) (by decide) (backOf (W := 1) (rm2 l Z a0 hw [] u (429 : Int32) B h0 n0 O ) hZ (hw _ (List.mem_of_getElem? (i := 9) rfl)) (hw _ (List.mem_of_getElem? (i := 8) rfl)) (by decide) (by decide)) (g := (mkF m 183 #[.val (.int p0), .val (.int p1), .val (.int (p0 &&& (15 : Int32))), .val (.int (429 : Int32)), .val (.ref (u 3))] [(.int (429 : Int32)), (.ref (u 3))])) rfl (by rw [hml]; rfl) (argsL := [(.int (429 : Int32))]) (rest := [(.ref (u 3))]) (lenOf own_pd0 rfl) rfl (by show 2 * 0 + _ ≤ _; exact Nat.le_of_eq rfl) (hb hby at_183) (fun _ _ => ⟨rfl, e93, (by decide : 0 + 0 ≤ _), (by decide : 0 + 0 ≤ _)⟩)
            dsimp only [Pt.U, Pt.locs, Pt.cells, Pt.slots] at X95 l95 y95 z95 st95 hQ95
            subst l95 y95 z95
            obtain ⟨hv95, N95q, e95⟩ := hQ95
            have N95 := Fr.app N93 N95q
            obtain rfl : vr95 = some (.ref (u 3)) := hv95.trans (by unfold own_r2; rw [if_neg (by decide : ¬ ((429 : Int32) = (400 : Int32))), if_neg (by decide : ¬ ((429 : Int32) = (401 : Int32))), if_neg (by decide : ¬ ((429 : Int32) = (403 : Int32))), if_neg (by decide : ¬ ((429 : Int32) = (404 : Int32))), if_pos (by decide : (429 : Int32) = (429 : Int32))])
            obtain ⟨fs, hr, hrun, hended, hW, hsame⟩ := X95.leave (v := some (.int (1 : Int32))) (fun h => by rw [Bd.returns] at h; cases h)
            refine ⟨_, _, pre94 _ ?_, hrun, hended, _, _, rfl, ?_, ⟨_, rfl⟩, hW, hsame.mono (by decide) (by decide)⟩
            · show Steps p.tables e below (T93.setTop (mkF m 183 #[.val (.int p0), .val (.int p1), .val (.int (p0 &&& (15 : Int32))), .val (.int (429 : Int32)), .val (.ref (u 3))] [(.int (429 : Int32)), (.ref (u 3))])) _
              refine st95 _ ?_
              show Steps p.tables e below (T95.setTop (mkF m 186 #[.val (.int p0), .val (.int p1), .val (.int (p0 &&& (15 : Int32))), .val (.int (429 : Int32)), .val (.ref (u 3))] [(.ref (u 3)), (.ref (u 3))])) _
              refine Jvm.RoadKit.acmp (g := (mkF m 186 #[.val (.int p0), .val (.int p1), .val (.int (p0 &&& (15 : Int32))), .val (.int (429 : Int32)), .val (.ref (u 3))] [(.ref (u 3)), (.ref (u 3))])) X95 hx rfl rfl rfl (pc0 := 186) (pc' := 189) (same := true) rfl (hb hby at_186) rfl (decide_eq_true rfl) (by decide) (by decide) ?_
              show Steps p.tables e below (T95.setTop (mkF m 189 #[.val (.int p0), .val (.int p1), .val (.int (p0 &&& (15 : Int32))), .val (.int (429 : Int32)), .val (.ref (u 3))] [])) _
              refine XS.iconst X95.here hx rfl (hb hby at_189) ?_
              show Steps p.tables e below (T95.setTop (mkF m 190 #[.val (.int p0), .val (.int p1), .val (.int (p0 &&& (15 : Int32))), .val (.int (429 : Int32)), .val (.ref (u 3))] [(.int (1 : Int32))])) _
              refine XS.goto X95.here hx rfl (pc0 := 190) (pc' := 194) rfl (hb hby at_190) (by decide) (by decide) ?_
              show Steps p.tables e below (T95.setTop (mkF m 194 #[.val (.int p0), .val (.int p1), .val (.int (p0 &&& (15 : Int32))), .val (.int (429 : Int32)), .val (.ref (u 3))] [(.int (1 : Int32))])) _
              exact retN X95 hx (t := .boolean) Bd.returns (by simp) (hb hby at_194) hr
            · show own_Q0 Z u p0 p1 h0 n0 _ T95.heap _
              rw [e95]
              exact ⟨rfl, N95, trivial⟩
          · --
            have pre97 : ∀ t, Steps p.tables e below (s₁.setTop (mkF m 66 #[.val (.int p0), .val (.int p1), .val (.int (p0 &&& (15 : Int32))), .unset, .unset] [(.int (5 : Int32)), (.int (p0 &&& (15 : Int32)))])) t → Steps p.tables e below (s₁.setTop (entryFrame m #[(.int p0), (.int p1)] maxLocals)) t := fun t kt => pre90 t (by
              show Steps p.tables e below (s₁.setTop (mkF m 54 #[.val (.int p0), .val (.int p1), .val (.int (p0 &&& (15 : Int32))), .unset, .unset] [(.int (4 : Int32)), (.int (p0 &&& (15 : Int32)))])) _
              refine XS.icmpYes X0.here hx rfl (pc0 := 54) (pc' := 64) rfl (hb hby at_54) rfl (feq hc91).2 (by decide) (by decide) ?_
              show Steps p.tables e below (s₁.setTop (mkF m 64 #[.val (.int p0), .val (.int p1), .val (.int (p0 &&& (15 : Int32))), .unset, .unset] [])) _
              refine XS.iloadN X0.here hx rfl (hb hby at_64) rfl ?_
              show Steps p.tables e below (s₁.setTop (mkF m 65 #[.val (.int p0), .val (.int p1), .val (.int (p0 &&& (15 : Int32))), .unset, .unset] [(.int (p0 &&& (15 : Int32)))])) _
              refine XS.iconst X0.here hx rfl (hb hby at_65) ?_
              exact kt)
            by_cases hc98 : (p0 &&& (15 : Int32)) = (5 : Int32)
            · --
              have pre99 : ∀ t, Steps p.tables e below (s₁.setTop (mkF m 175 #[.val (.int p0), .val (.int p1), .val (.int (p0 &&& (15 : Int32))), .val (.int (502 : Int32)), .unset] [(.int (502 : Int32))])) t → Steps p.tables e below (s₁.setTop (entryFrame m #[(.int p0), (.int p1)] maxLocals)) t := fun t kt => pre97 t (by
                show Steps p.tables e below (s₁.setTop (mkF m 66 #[.val (.int p0), .val (.int p1), .val (.int (p0 &&& (15 : Int32))), .unset, .unset] [(.int (5 : Int32)), (.int (p0 &&& (15 : Int32)))])) _
                refine XS.icmpNo X0.here hx rfl (hb hby at_66) rfl (teq hc98).2 ?_
                show Steps p.tables e below (s₁.setTop (mkF m 69 #[.val (.int p0), .val (.int p1), .val (.int (p0 &&& (15 : Int32))), .unset, .unset] [])) _
                refine XS.sipush X0.here hx rfl (hb hby at_69) ?_
                show Steps p.tables e below (s₁.setTop (mkF m 72 #[.val (.int p0), .val (.int p1), .val (.int (p0 &&& (15 : Int32))), .unset, .unset] [(.int (502 : Int32))])) _
                refine XS.istoreN X0.here hx rfl (hb hby at_72) rfl (l' := #[.val (.int p0), .val (.int p1), .val (.int (p0 &&& (15 : Int32))), .val (.int (502 : Int32)), .unset]) rfl ?_
                show Steps p.tables e below (s₁.setTop (mkF m 73 #[.val (.int p0), .val (.int p1), .val (.int (p0 &&& (15 : Int32))), .val (.int (502 : Int32)), .unset] [])) _
                refine XS.goto X0.here hx rfl (pc0 := 73) (pc' := 174) rfl (hb hby at_73) (by decide) (by decide) ?_
                show Steps p.tables e below (s₁.setTop (mkF m 174 #[.val (.int p0), .val (.int p1), .val (.int (p0 &&& (15 : Int32))), .val (.int (502 : Int32)), .unset] [])) _
                refine XS.iloadN X0.here hx rfl (hb hby at_174) rfl ?_
                exact kt)
              obtain ⟨vr100, _, ⟨T100, L100, k100, n100⟩, -, X100, ⟨Lc100, hQ100, l100, y100, z100⟩, st100⟩ := Jvm.LawKit.callS X0 hx (y := (⟨"com/example/trailwire/trailwire/status/StatusCode", "forHttpStatus", "(I)Lcom/example/trailwire/trailwire/status/StatusCode;"⟩ : MethodName)) hown (mvT hZ (hw _ (List.mem_of_getElem? (i := 0) rfl))) (mvT hZ (hw _ (List.mem_of_getElem? (i := 1) rfl))) (mvT hZ (hw _ (List.mem_of_getElem? (i := 2) rfl))) (mvT hZ (hw _ (List.mem_of_getElem? (i := 3) rfl))) (by decide) (backOf (W := 0) (rm1 l Z a0 hw [] u (502 : Int32) B h0 n0 O ) hZ (hw _ (List.mem_of_getElem? (i := 3) rfl)) (hw _ (List.mem_of_getElem? (i := 2) rfl)) (by decide) (by decide)) (g := (mkF m 175 #[.val (.int p0), .val (.int p1), .val (.int (p0 &&& (15 : Int32))), .val (.int (502 : Int32)), .unset] [(.int (502 : Int32))])) rfl (by rw [hml]; rfl) (argsL := [(.int (502 : Int32))]) (rest := []) (lenOf own_pd0 rfl) rfl (by show 2 * 0 + _ ≤ _; exact Nat.le_of_eq rfl) (hb hby at_175) (fun _ _ => ⟨rfl, e0, (by decide : 0 + 0 ≤ _), (by decide : 0 + 0 ≤ _)⟩)
              dsimp only [Pt.U, Pt.locs, Pt.cells, Pt.slots] at X100 l100 y100 z100 st100 hQ100
              subst l100 y100 z100
              obtain ⟨hv100, N100q, e100⟩ := hQ100
              have N100 := Fr.app N0 N100q
              obtain rfl : vr100 = some (.ref (u 3)) := hv100.trans (by unfold own_r1; rw [if_neg (by decide : ¬ ((502 : Int32) = (400 : Int32))), if_neg (by decide : ¬ ((502 : Int32) = (401 : Int32))), if_neg (by decide : ¬ ((502 : Int32) = (403 : Int32))), if_neg (by decide : ¬ ((502 : Int32) = (404 : Int32))), if_neg (by decide : ¬ ((502 : Int32) = (429 : Int32))), if_pos (by decide : (502 : Int32) = (502 : Int32))])
              have pre101 : ∀ t, Steps p.tables e below (T100.setTop (mkF m 183 #[.val (.int p0), .val (.int p1), .val (.int (p0 &&& (15 : Int32))), .val (.int (502 : Int32)), .val (.ref (u 3))] [(.int (502 : Int32)), (.ref (u 3))])) t → Steps p.tables e below (s₁.setTop (entryFrame m #[(.int p0), (.int p1)] maxLocals)) t := fun t kt => pre99 t (by
                show Steps p.tables e below (s₁.setTop (mkF m 175 #[.val (.int p0), .val (.int p1), .val (.int (p0 &&& (15 : Int32))), .val (.int (502 : Int32)), .unset] [(.int (502 : Int32))])) _
                refine st100 _ ?_
                show Steps p.tables e below (T100.setTop (mkF m 178 #[.val (.int p0), .val (.int p1), .val (.int (p0 &&& (15 : Int32))), .val (.int (502 : Int32)), .unset] [(.ref (u 3))])) _
                refine XS.astore X100.here hx rfl (hb hby at_178) rfl rfl (l' := #[.val (.int p0), .val (.int p1), .val (.int (p0 &&& (15 : Int32))), .val (.int (502 : Int32)), .val (.ref (u 3))]) rfl ?_
                show Steps p.tables e below (T100.setTop (mkF m 180 #[.val (.int p0), .val (.int p1), .val (.int (p0 &&& (15 : Int32))), .val (.int (502 : Int32)), .val (.ref (u 3))] [])) _
                refine XS.aload X100.here hx rfl (hb hby at_180) rfl rfl ?_
                show Steps p.tables e below (T100.setTop (mkF m 182 #[.val (.int p0), .val (.int p1), .val (.int (p0 &&& (15 : Int32))), .val (.int (502 : Int32)), .val (.ref (u 3))] [(.ref (u 3))])) _
                refine XS.iloadN X100.here hx rfl (hb hby at_182) rfl ?_
                exact kt)
              obtain ⟨vr102, _, ⟨T102, L102, k102, n102⟩, -, X102, ⟨Lc102, hQ102, l102, y102, z102⟩, st102⟩ := Jvm.LawKit.callS X100 hx (y := (⟨"com/example/trailwire/trailwire/status/StatusCodeForHttpStatusPinLaw", "expected", "(I)Lcom/example/trailwire/trailwire/status/StatusCode;"⟩ : MethodName)) hown (mvT hZ (hw _ (List.mem_of_getElem? (i := 6) rfl))) (mvT hZ (hw _ (List.mem_of_getElem? (i := 7) rfl))) (mvT hZ (hw _ (List.mem_of_getElem? (i := 8) rfl))) (mvT hZ (hw _ (List.mem_of_getElem? (i := 9) rfl))) (by decide) (backOf (W := 1) (rm2 l Z a0 hw [] u (502 : Int32) B h0 n0 O ) hZ (hw _ (List.mem_of_getElem? (i := 9) rfl)) (hw _ (List.mem_of_getElem? (i := 8) rfl)) (by decide) (by decide)) (g := (mkF m 183 #[.val (.int p0), .val (.int p1), .val (.int (p0 &&& (15 : Int32))), .val (.int (502 : Int32)), .val (.ref (u 3))] [(.int (502 : Int32)), (.ref (u 3))])) rfl (by rw [hml]; rfl) (argsL := [(.int (502 : Int32))]) (rest := [(.ref (u 3))]) (lenOf own_pd0 rfl) rfl (by show 2 * 0 + _ ≤ _; exact Nat.le_of_eq rfl) (hb hby at_183) (fun _ _ => ⟨rfl, e100, (by decide : 0 + 0 ≤ _), (by decide : 0 + 0 ≤ _)⟩)
              dsimp only [Pt.U, Pt.locs, Pt.cells, Pt.slots] at X102 l102 y102 z102 st102 hQ102
              subst l102 y102 z102
              obtain ⟨hv102, N102q, e102⟩ := hQ102
              have N102 := Fr.app N100 N102q
              obtain rfl : vr102 = some (.ref (u 3)) := hv102.trans (by unfold own_r2; rw [if_neg (by decide : ¬ ((502 : Int32) = (400 : Int32))), if_neg (by decide : ¬ ((502 : Int32) = (401 : Int32))), if_neg (by decide : ¬ ((502 : Int32) = (403 : Int32))), if_neg (by decide : ¬ ((502 : Int32) = (404 : Int32))), if_neg (by decide : ¬ ((502 : Int32) = (429 : Int32))), if_pos (by decide : (502 : Int32) = (502 : Int32))])
              obtain ⟨fs, hr, hrun, hended, hW, hsame⟩ := X102.leave (v := some (.int (1 : Int32))) (fun h => by rw [Bd.returns] at h; cases h)
              refine ⟨_, _, pre101 _ ?_, hrun, hended, _, _, rfl, ?_, ⟨_, rfl⟩, hW, hsame.mono (by decide) (by decide)⟩
              · show Steps p.tables e below (T100.setTop (mkF m 183 #[.val (.int p0), .val (.int p1), .val (.int (p0 &&& (15 : Int32))), .val (.int (502 : Int32)), .val (.ref (u 3))] [(.int (502 : Int32)), (.ref (u 3))])) _
                refine st102 _ ?_
                show Steps p.tables e below (T102.setTop (mkF m 186 #[.val (.int p0), .val (.int p1), .val (.int (p0 &&& (15 : Int32))), .val (.int (502 : Int32)), .val (.ref (u 3))] [(.ref (u 3)), (.ref (u 3))])) _
                refine Jvm.RoadKit.acmp (g := (mkF m 186 #[.val (.int p0), .val (.int p1), .val (.int (p0 &&& (15 : Int32))), .val (.int (502 : Int32)), .val (.ref (u 3))] [(.ref (u 3)), (.ref (u 3))])) X102 hx rfl rfl rfl (pc0 := 186) (pc' := 189) (same := true) rfl (hb hby at_186) rfl (decide_eq_true rfl) (by decide) (by decide) ?_
                show Steps p.tables e below (T102.setTop (mkF m 189 #[.val (.int p0), .val (.int p1), .val (.int (p0 &&& (15 : Int32))), .val (.int (502 : Int32)), .val (.ref (u 3))] [])) _
                refine XS.iconst X102.here hx rfl (hb hby at_189) ?_
                show Steps p.tables e below (T102.setTop (mkF m 190 #[.val (.int p0), .val (.int p1), .val (.int (p0 &&& (15 : Int32))), .val (.int (502 : Int32)), .val (.ref (u 3))] [(.int (1 : Int32))])) _
                refine XS.goto X102.here hx rfl (pc0 := 190) (pc' := 194) rfl (hb hby at_190) (by decide) (by decide) ?_
                show Steps p.tables e below (T102.setTop (mkF m 194 #[.val (.int p0), .val (.int p1), .val (.int (p0 &&& (15 : Int32))), .val (.int (502 : Int32)), .val (.ref (u 3))] [(.int (1 : Int32))])) _
                exact retN X102 hx (t := .boolean) Bd.returns (by simp) (hb hby at_194) hr
              · show own_Q0 Z u p0 p1 h0 n0 _ T102.heap _
                rw [e102]
                exact ⟨rfl, N102, trivial⟩
            · --
              have pre104 : ∀ t, Steps p.tables e below (s₁.setTop (mkF m 79 #[.val (.int p0), .val (.int p1), .val (.int (p0 &&& (15 : Int32))), .unset, .unset] [(.int (6 : Int32)), (.int (p0 &&& (15 : Int32)))])) t → Steps p.tables e below (s₁.setTop (entryFrame m #[(.int p0), (.int p1)] maxLocals)) t := fun t kt => pre97 t (by
                show Steps p.tables e below (s₁.setTop (mkF m 66 #[.val (.int p0), .val (.int p1), .val (.int (p0 &&& (15 : Int32))), .unset, .unset] [(.int (5 : Int32)), (.int (p0 &&& (15 : Int32)))])) _
                refine XS.icmpYes X0.here hx rfl (pc0 := 66) (pc' := 76) rfl (hb hby at_66) rfl (feq hc98).2 (by decide) (by decide) ?_
                show Steps p.tables e below (s₁.setTop (mkF m 76 #[.val (.int p0), .val (.int p1), .val (.int (p0 &&& (15 : Int32))), .unset, .unset] [])) _
                refine XS.iloadN X0.here hx rfl (hb hby at_76) rfl ?_
                show Steps p.tables e below (s₁.setTop (mkF m 77 #[.val (.int p0), .val (.int p1), .val (.int (p0 &&& (15 : Int32))), .unset, .unset] [(.int (p0 &&& (15 : Int32)))])) _
                refine XS.bipush X0.here hx rfl (hb hby at_77) ?_
                exact kt)
              by_cases hc105 : (p0 &&& (15 : Int32)) = (6 : Int32)
              · --
                have pre106 : ∀ t, Steps p.tables e below (s₁.setTop (mkF m 175 #[.val (.int p0), .val (.int p1), .val (.int (p0 &&& (15 : Int32))), .val (.int (503 : Int32)), .unset] [(.int (503 : Int32))])) t → Steps p.tables e below (s₁.setTop (entryFrame m #[(.int p0), (.int p1)] maxLocals)) t := fun t kt => pre104 t (by
                  show Steps p.tables e below (s₁.setTop (mkF m 79 #[.val (.int p0), .val (.int p1), .val (.int (p0 &&& (15 : Int32))), .unset, .unset] [(.int (6 : Int32)), (.int (p0 &&& (15 : Int32)))])) _
                  refine XS.icmpNo X0.here hx rfl (hb hby at_79) rfl (teq hc105).2 ?_
                  show Steps p.tables e below (s₁.setTop (mkF m 82 #[.val (.int p0), .val (.int p1), .val (.int (p0 &&& (15 : Int32))), .unset, .unset] [])) _
                  refine XS.sipush X0.here hx rfl (hb hby at_82) ?_
                  show Steps p.tables e below (s₁.setTop (mkF m 85 #[.val (.int p0), .val (.int p1), .val (.int (p0 &&& (15 : Int32))), .unset, .unset] [(.int (503 : Int32))])) _
                  refine XS.istoreN X0.here hx rfl (hb hby at_85) rfl (l' := #[.val (.int p0), .val (.int p1), .val (.int (p0 &&& (15 : Int32))), .val (.int (503 : Int32)), .unset]) rfl ?_
                  show Steps p.tables e below (s₁.setTop (mkF m 86 #[.val (.int p0), .val (.int p1), .val (.int (p0 &&& (15 : Int32))), .val (.int (503 : Int32)), .unset] [])) _
                  refine XS.goto X0.here hx rfl (pc0 := 86) (pc' := 174) rfl (hb hby at_86) (by decide) (by decide) ?_
                  show Steps p.tables e below (s₁.setTop (mkF m 174 #[.val (.int p0), .val (.int p1), .val (.int (p0 &&& (15 : Int32))), .val (.int (503 : Int32)), .unset] [])) _
                  refine XS.iloadN X0.here hx rfl (hb hby at_174) rfl ?_
                  exact kt)
                obtain ⟨vr107, _, ⟨T107, L107, k107, n107⟩, -, X107, ⟨Lc107, hQ107, l107, y107, z107⟩, st107⟩ := Jvm.LawKit.callS X0 hx (y := (⟨"com/example/trailwire/trailwire/status/StatusCode", "forHttpStatus", "(I)Lcom/example/trailwire/trailwire/status/StatusCode;"⟩ : MethodName)) hown (mvT hZ (hw _ (List.mem_of_getElem? (i := 0) rfl))) (mvT hZ (hw _ (List.mem_of_getElem? (i := 1) rfl))) (mvT hZ (hw _ (List.mem_of_getElem? (i := 2) rfl))) (mvT hZ (hw _ (List.mem_of_getElem? (i := 3) rfl))) (by decide) (backOf (W := 0) (rm1 l Z a0 hw [] u (503 : Int32) B h0 n0 O ) hZ (hw _ (List.mem_of_getElem? (i := 3) rfl)) (hw _ (List.mem_of_getElem? (i := 2) rfl)) (by decide) (by decide)) (g := (mkF m 175 #[.val (.int p0), .val (.int p1), .val (.int (p0 &&& (15 : Int32))), .val (.int (503 : Int32)), .unset] [(.int (503 : Int32))])) rfl (by rw [hml]; rfl) (argsL := [(.int (503 : Int32))]) (rest := []) (lenOf own_pd0 rfl) rfl (by show 2 * 0 + _ ≤ _; exact Nat.le_of_eq rfl) (hb hby at_175) (fun _ _ => ⟨rfl, e0, (by decide : 0 + 0 ≤ _), (by decide : 0 + 0 ≤ _)⟩)
                dsimp only [Pt.U, Pt.locs, Pt.cells, Pt.slots] at X107 l107 y107 z107 st107 hQ107
                subst l107 y107 z107
                obtain ⟨hv107, N107q, e107⟩ := hQ107
                have N107 := Fr.app N0 N107q
                obtain rfl : vr107 = some (.ref (u 3)) := hv107.trans (by unfold own_r1; rw [if_neg (by decide : ¬ ((503 : Int32) = (400 : Int32))), if_neg (by decide : ¬ ((503 : Int32) = (401 : Int32))), if_neg (by decide : ¬ ((503 : Int32) = (403 : Int32))), if_neg (by decide : ¬ ((503 : Int32) = (404 : Int32))), if_neg (by decide : ¬ ((503 : Int32) = (429 : Int32))), if_neg (by decide : ¬ ((503 : Int32) = (502 : Int32))), if_pos (by decide : (503 : Int32) = (503 : Int32))])
                have pre108 : ∀ t, Steps p.tables e below (T107.setTop (mkF m 183 #[.val (.int p0), .val (.int p1), .val (.int (p0 &&& (15 : Int32))), .val (.int (503 : Int32)), .val (.ref (u 3))] [(.int (503 : Int32)), (.ref (u 3))])) t → Steps p.tables e below (s₁.setTop (entryFrame m #[(.int p0), (.int p1)] maxLocals)) t := fun t kt => pre106 t (by
                  show Steps p.tables e below (s₁.setTop (mkF m 175 #[.val (.int p0), .val (.int p1), .val (.int (p0 &&& (15 : Int32))), .val (.int (503 : Int32)), .unset] [(.int (503 : Int32))])) _
                  refine st107 _ ?_
                  show Steps p.tables e below (T107.setTop (mkF m 178 #[.val (.int p0), .val (.int p1), .val (.int (p0 &&& (15 : Int32))), .val (.int (503 : Int32)), .unset] [(.ref (u 3))])) _
                  refine XS.astore X107.here hx rfl (hb hby at_178) rfl rfl (l' := #[.val (.int p0), .val (.int p1), .val (.int (p0 &&& (15 : Int32))), .val (.int (503 : Int32)), .val (.ref (u 3))]) rfl ?_
                  show Steps p.tables e below (T107.setTop (mkF m 180 #[.val (.int p0), .val (.int p1), .val (.int (p0 &&& (15 : Int32))), .val (.int (503 : Int32)), .val (.ref (u 3))] [])) _
                  refine XS.aload X107.here hx rfl (hb hby at_180) rfl rfl ?_
                  show Steps p.tables e below (T107.setTop (mkF m 182 #[.val (.int p0), .val (.int p1), .val (.int (p0 &&& (15 : Int32))), .val (.int (503 : Int32)), .val (.ref (u 3))] [(.ref (u 3))])) _
                  refine XS.iloadN X107.here hx rfl (hb hby at_182) rfl ?_
                  exact kt)
                obtain ⟨vr109, _, ⟨T109, L109, k109, n109⟩, -, X109, ⟨Lc109, hQ109, l109, y109, z109⟩, st109⟩ := Jvm.LawKit.callS X107 hx (y := (⟨"com/example/trailwire/trailwire/status/StatusCodeForHttpStatusPinLaw", "expected", "(I)Lcom/example/trailwire/trailwire/status/StatusCode;"⟩ : MethodName)) hown (mvT hZ (hw _ (List.mem_of_getElem? (i := 6) rfl))) (mvT hZ (hw _ (List.mem_of_getElem? (i := 7) rfl))) (mvT hZ (hw _ (List.mem_of_getElem? (i := 8) rfl))) (mvT hZ (hw _ (List.mem_of_getElem? (i := 9) rfl))) (by decide) (backOf (W := 1) (rm2 l Z a0 hw [] u (503 : Int32) B h0 n0 O ) hZ (hw _ (List.mem_of_getElem? (i := 9) rfl)) (hw _ (List.mem_of_getElem? (i := 8) rfl)) (by decide) (by decide)) (g := (mkF m 183 #[.val (.int p0), .val (.int p1), .val (.int (p0 &&& (15 : Int32))), .val (.int (503 : Int32)), .val (.ref (u 3))] [(.int (503 : Int32)), (.ref (u 3))])) rfl (by rw [hml]; rfl) (argsL := [(.int (503 : Int32))]) (rest := [(.ref (u 3))]) (lenOf own_pd0 rfl) rfl (by show 2 * 0 + _ ≤ _; exact Nat.le_of_eq rfl) (hb hby at_183) (fun _ _ => ⟨rfl, e107, (by decide : 0 + 0 ≤ _), (by decide : 0 + 0 ≤ _)⟩)
                dsimp only [Pt.U, Pt.locs, Pt.cells, Pt.slots] at X109 l109 y109 z109 st109 hQ109
                subst l109 y109 z109
                obtain ⟨hv109, N109q, e109⟩ := hQ109
                have N109 := Fr.app N107 N109q
                obtain rfl : vr109 = some (.ref (u 3)) := hv109.trans (by unfold own_r2; rw [if_neg (by decide : ¬ ((503 : Int32) = (400 : Int32))), if_neg (by decide : ¬ ((503 : Int32) = (401 : Int32))), if_neg (by decide : ¬ ((503 : Int32) = (403 : Int32))), if_neg (by decide : ¬ ((503 : Int32) = (404 : Int32))), if_neg (by decide : ¬ ((503 : Int32) = (429 : Int32))), if_neg (by decide : ¬ ((503 : Int32) = (502 : Int32))), if_pos (by decide : (503 : Int32) = (503 : Int32))])
                obtain ⟨fs, hr, hrun, hended, hW, hsame⟩ := X109.leave (v := some (.int (1 : Int32))) (fun h => by rw [Bd.returns] at h; cases h)
                refine ⟨_, _, pre108 _ ?_, hrun, hended, _, _, rfl, ?_, ⟨_, rfl⟩, hW, hsame.mono (by decide) (by decide)⟩
                · show Steps p.tables e below (T107.setTop (mkF m 183 #[.val (.int p0), .val (.int p1), .val (.int (p0 &&& (15 : Int32))), .val (.int (503 : Int32)), .val (.ref (u 3))] [(.int (503 : Int32)), (.ref (u 3))])) _
                  refine st109 _ ?_
                  show Steps p.tables e below (T109.setTop (mkF m 186 #[.val (.int p0), .val (.int p1), .val (.int (p0 &&& (15 : Int32))), .val (.int (503 : Int32)), .val (.ref (u 3))] [(.ref (u 3)), (.ref (u 3))])) _
                  refine Jvm.RoadKit.acmp (g := (mkF m 186 #[.val (.int p0), .val (.int p1), .val (.int (p0 &&& (15 : Int32))), .val (.int (503 : Int32)), .val (.ref (u 3))] [(.ref (u 3)), (.ref (u 3))])) X109 hx rfl rfl rfl (pc0 := 186) (pc' := 189) (same := true) rfl (hb hby at_186) rfl (decide_eq_true rfl) (by decide) (by decide) ?_
                  show Steps p.tables e below (T109.setTop (mkF m 189 #[.val (.int p0), .val (.int p1), .val (.int (p0 &&& (15 : Int32))), .val (.int (503 : Int32)), .val (.ref (u 3))] [])) _
                  refine XS.iconst X109.here hx rfl (hb hby at_189) ?_
                  show Steps p.tables e below (T109.setTop (mkF m 190 #[.val (.int p0), .val (.int p1), .val (.int (p0 &&& (15 : Int32))), .val (.int (503 : Int32)), .val (.ref (u 3))] [(.int (1 : Int32))])) _
                  refine XS.goto X109.here hx rfl (pc0 := 190) (pc' := 194) rfl (hb hby at_190) (by decide) (by decide) ?_
                  show Steps p.tables e below (T109.setTop (mkF m 194 #[.val (.int p0), .val (.int p1), .val (.int (p0 &&& (15 : Int32))), .val (.int (503 : Int32)), .val (.ref (u 3))] [(.int (1 : Int32))])) _
                  exact retN X109 hx (t := .boolean) Bd.returns (by simp) (hb hby at_194) hr
                · show own_Q0 Z u p0 p1 h0 n0 _ T109.heap _
                  rw [e109]
                  exact ⟨rfl, N109, trivial⟩
              · --
                have pre111 : ∀ t, Steps p.tables e below (s₁.setTop (mkF m 92 #[.val (.int p0), .val (.int p1), .val (.int (p0 &&& (15 : Int32))), .unset, .unset] [(.int (7 : Int32)), (.int (p0 &&& (15 : Int32)))])) t → Steps p.tables e below (s₁.setTop (entryFrame m #[(.int p0), (.int p1)] maxLocals)) t := fun t kt => pre104 t (by
                  show Steps p.tables e below (s₁.setTop (mkF m 79 #[.val (.int p0), .val (.int p1), .val (.int (p0 &&& (15 : Int32))), .unset, .unset] [(.int (6 : Int32)), (.int (p0 &&& (15 : Int32)))])) _
                  refine XS.icmpYes X0.here hx rfl (pc0 := 79) (pc' := 89) rfl (hb hby at_79) rfl (feq hc105).2 (by decide) (by decide) ?_
                  show Steps p.tables e below (s₁.setTop (mkF m 89 #[.val (.int p0), .val (.int p1), .val (.int (p0 &&& (15 : Int32))), .unset, .unset] [])) _
                  refine XS.iloadN X0.here hx rfl (hb hby at_89) rfl ?_
                  show Steps p.tables e below (s₁.setTop (mkF m 90 #[.val (.int p0), .val (.int p1), .val (.int (p0 &&& (15 : Int32))), .unset, .unset] [(.int (p0 &&& (15 : Int32)))])) _
                  refine XS.bipush X0.here hx rfl (hb hby at_90) ?_
                  exact kt)
                by_cases hc112 : (p0 &&& (15 : Int32)) = (7 : Int32)
                · --
                  have pre113 : ∀ t, Steps p.tables e below (s₁.setTop (mkF m 175 #[.val (.int p0), .val (.int p1), .val (.int (p0 &&& (15 : Int32))), .val (.int (504 : Int32)), .unset] [(.int (504 : Int32))])) t → Steps p.tables e below (s₁.setTop (entryFrame m #[(.int p0), (.int p1)] maxLocals)) t := fun t kt => pre111 t (by
                    show Steps p.tables e below (s₁.setTop (mkF m 92 #[.val (.int p0), .val (.int p1), .val (.int (p0 &&& (15 : Int32))), .unset, .unset] [(.int (7 : Int32)), (.int (p0 &&& (15 : Int32)))])) _
                    refine XS.icmpNo X0.here hx rfl (hb hby at_92) rfl (teq hc112).2 ?_
                    show Steps p.tables e below (s₁.setTop (mkF m 95 #[.val (.int p0), .val (.int p1), .val (.int (p0 &&& (15 : Int32))), .unset, .unset] [])) _
                    refine XS.sipush X0.here hx rfl (hb hby at_95) ?_
                    show Steps p.tables e below (s₁.setTop (mkF m 98 #[.val (.int p0), .val (.int p1), .val (.int (p0 &&& (15 : Int32))), .unset, .unset] [(.int (504 : Int32))])) _
                    refine XS.istoreN X0.here hx rfl (hb hby at_98) rfl (l' := #[.val (.int p0), .val (.int p1), .val (.int (p0 &&& (15 : Int32))), .val (.int (504 : Int32)), .unset]) rfl ?_
                    show Steps p.tables e below (s₁.setTop (mkF m 99 #[.val (.int p0), .val (.int p1), .val (.int (p0 &&& (15 : Int32))), .val (.int (504 : Int32)), .unset] [])) _
                    refine XS.goto X0.here hx rfl (pc0 := 99) (pc' := 174) rfl (hb hby at_99) (by decide) (by decide) ?_
                    show Steps p.tables e below (s₁.setTop (mkF m 174 #[.val (.int p0), .val (.int p1), .val (.int (p0 &&& (15 : Int32))), .val (.int (504 : Int32)), .unset] [])) _
                    refine XS.iloadN X0.here hx rfl (hb hby at_174) rfl ?_
                    exact kt)
                  obtain ⟨vr114, _, ⟨T114, L114, k114, n114⟩, -, X114, ⟨Lc114, hQ114, l114, y114, z114⟩, st114⟩ := Jvm.LawKit.callS X0 hx (y := (⟨"com/example/trailwire/trailwire/status/StatusCode", "forHttpStatus", "(I)Lcom/example/trailwire/trailwire/status/StatusCode;"⟩ : MethodName)) hown (mvT hZ (hw _ (List.mem_of_getElem? (i := 0) rfl))) (mvT hZ (hw _ (List.mem_of_getElem? (i := 1) rfl))) (mvT hZ (hw _ (List.mem_of_getElem? (i := 2) rfl))) (mvT hZ (hw _ (List.mem_of_getElem? (i := 3) rfl))) (by decide) (backOf (W := 0) (rm1 l Z a0 hw [] u (504 : Int32) B h0 n0 O ) hZ (hw _ (List.mem_of_getElem? (i := 3) rfl)) (hw _ (List.mem_of_getElem? (i := 2) rfl)) (by decide) (by decide)) (g := (mkF m 175 #[.val (.int p0), .val (.int p1), .val (.int (p0 &&& (15 : Int32))), .val (.int (504 : Int32)), .unset] [(.int (504 : Int32))])) rfl (by rw [hml]; rfl) (argsL := [(.int (504 : Int32))]) (rest := []) (lenOf own_pd0 rfl) rfl (by show 2 * 0 + _ ≤ _; exact Nat.le_of_eq rfl) (hb hby at_175) (fun _ _ => ⟨rfl, e0, (by decide : 0 + 0 ≤ _), (by decide : 0 + 0 ≤ _)⟩)
                  dsimp only [Pt.U, Pt.locs, Pt.cells, Pt.slots] at X114 l114 y114 z114 st114 hQ114
                  subst l114 y114 z114
                  obtain ⟨hv114, N114q, e114⟩ := hQ114
                  have N114 := Fr.app N0 N114q
                  obtain rfl : vr114 = some (.ref (u 3)) := hv114.trans (by unfold own_r1; rw [if_neg (by decide : ¬ ((504 : Int32) = (400 : Int32))), if_neg (by decide : ¬ ((504 : Int32) = (401 : Int32))), if_neg (by decide : ¬ ((504 : Int32) = (403 : Int32))), if_neg (by decide : ¬ ((504 : Int32) = (404 : Int32))), if_neg (by decide : ¬ ((504 : Int32) = (429 : Int32))), if_neg (by decide : ¬ ((504 : Int32) = (502 : Int32))), if_neg (by decide : ¬ ((504 : Int32) = (503 : Int32))), if_pos (by decide : (504 : Int32) = (504 : Int32))])
                  have pre115 : ∀ t, Steps p.tables e below (T114.setTop (mkF m 183 #[.val (.int p0), .val (.int p1), .val (.int (p0 &&& (15 : Int32))), .val (.int (504 : Int32)), .val (.ref (u 3))] [(.int (504 : Int32)), (.ref (u 3))])) t → Steps p.tables e below (s₁.setTop (entryFrame m #[(.int p0), (.int p1)] maxLocals)) t := fun t kt => pre113 t (by
                    show Steps p.tables e below (s₁.setTop (mkF m 175 #[.val (.int p0), .val (.int p1), .val (.int (p0 &&& (15 : Int32))), .val (.int (504 : Int32)), .unset] [(.int (504 : Int32))])) _
                    refine st114 _ ?_
                    show Steps p.tables e below (T114.setTop (mkF m 178 #[.val (.int p0), .val (.int p1), .val (.int (p0 &&& (15 : Int32))), .val (.int (504 : Int32)), .unset] [(.ref (u 3))])) _
                    refine XS.astore X114.here hx rfl (hb hby at_178) rfl rfl (l' := #[.val (.int p0), .val (.int p1), .val (.int (p0 &&& (15 : Int32))), .val (.int (504 : Int32)), .val (.ref (u 3))]) rfl ?_
                    show Steps p.tables e below (T114.setTop (mkF m 180 #[.val (.int p0), .val (.int p1), .val (.int (p0 &&& (15 : Int32))), .val (.int (504 : Int32)), .val (.ref (u 3))] [])) _
                    refine XS.aload X114.here hx rfl (hb hby at_180) rfl rfl ?_
                    show Steps p.tables e below (T114.setTop (mkF m 182 #[.val (.int p0), .val (.int p1), .val (.int (p0 &&& (15 : Int32))), .val (.int (504 : Int32)), .val (.ref (u 3))] [(.ref (u 3))])) _
                    refine XS.iloadN X114.here hx rfl (hb hby at_182) rfl ?_
                    exact kt)
                  obtain ⟨vr116, _, ⟨T116, L116, k116, n116⟩, -, X116, ⟨Lc116, hQ116, l116, y116, z116⟩, st116⟩ := Jvm.LawKit.callS X114 hx (y := (⟨"com/example/trailwire/trailwire/status/StatusCodeForHttpStatusPinLaw", "expected", "(I)Lcom/example/trailwire/trailwire/status/StatusCode;"⟩ : MethodName)) hown (mvT hZ (hw _ (List.mem_of_getElem? (i := 6) rfl))) (mvT hZ (hw _ (List.mem_of_getElem? (i := 7) rfl))) (mvT hZ (hw _ (List.mem_of_getElem? (i := 8) rfl))) (mvT hZ (hw _ (List.mem_of_getElem? (i := 9) rfl))) (by decide) (backOf (W := 1) (rm2 l Z a0 hw [] u (504 : Int32) B h0 n0 O ) hZ (hw _ (List.mem_of_getElem? (i := 9) rfl)) (hw _ (List.mem_of_getElem? (i := 8) rfl)) (by decide) (by decide)) (g := (mkF m 183 #[.val (.int p0), .val (.int p1), .val (.int (p0 &&& (15 : Int32))), .val (.int (504 : Int32)), .val (.ref (u 3))] [(.int (504 : Int32)), (.ref (u 3))])) rfl (by rw [hml]; rfl) (argsL := [(.int (504 : Int32))]) (rest := [(.ref (u 3))]) (lenOf own_pd0 rfl) rfl (by show 2 * 0 + _ ≤ _; exact Nat.le_of_eq rfl) (hb hby at_183) (fun _ _ => ⟨rfl, e114, (by decide : 0 + 0 ≤ _), (by decide : 0 + 0 ≤ _)⟩)
                  dsimp only [Pt.U, Pt.locs, Pt.cells, Pt.slots] at X116 l116 y116 z116 st116 hQ116
                  subst l116 y116 z116
                  obtain ⟨hv116, N116q, e116⟩ := hQ116
                  have N116 := Fr.app N114 N116q
                  obtain rfl : vr116 = some (.ref (u 3)) := hv116.trans (by unfold own_r2; rw [if_neg (by decide : ¬ ((504 : Int32) = (400 : Int32))), if_neg (by decide : ¬ ((504 : Int32) = (401 : Int32))), if_neg (by decide : ¬ ((504 : Int32) = (403 : Int32))), if_neg (by decide : ¬ ((504 : Int32) = (404 : Int32))), if_neg (by decide : ¬ ((504 : Int32) = (429 : Int32))), if_neg (by decide : ¬ ((504 : Int32) = (502 : Int32))), if_neg (by decide : ¬ ((504 : Int32) = (503 : Int32))), if_pos (by decide : (504 : Int32) = (504 : Int32))])
                  obtain ⟨fs, hr, hrun, hended, hW, hsame⟩ := X116.leave (v := some (.int (1 : Int32))) (fun h => by rw [Bd.returns] at h; cases h)
                  refine ⟨_, _, pre115 _ ?_, hrun, hended, _, _, rfl, ?_, ⟨_, rfl⟩, hW, hsame.mono (by decide) (by decide)⟩
                  · show Steps p.tables e below (T114.setTop (mkF m 183 #[.val (.int p0), .val (.int p1), .val (.int (p0 &&& (15 : Int32))), .val (.int (504 : Int32)), .val (.ref (u 3))] [(.int (504 : Int32)), (.ref (u 3))])) _
                    refine st116 _ ?_
                    show Steps p.tables e below (T116.setTop (mkF m 186 #[.val (.int p0), .val (.int p1), .val (.int (p0 &&& (15 : Int32))), .val (.int (504 : Int32)), .val (.ref (u 3))] [(.ref (u 3)), (.ref (u 3))])) _
                    refine Jvm.RoadKit.acmp (g := (mkF m 186 #[.val (.int p0), .val (.int p1), .val (.int (p0 &&& (15 : Int32))), .val (.int (504 : Int32)), .val (.ref (u 3))] [(.ref (u 3)), (.ref (u 3))])) X116 hx rfl rfl rfl (pc0 := 186) (pc' := 189) (same := true) rfl (hb hby at_186) rfl (decide_eq_true rfl) (by decide) (by decide) ?_
                    show Steps p.tables e below (T116.setTop (mkF m 189 #[.val (.int p0), .val (.int p1), .val (.int (p0 &&& (15 : Int32))), .val (.int (504 : Int32)), .val (.ref (u 3))] [])) _
                    refine XS.iconst X116.here hx rfl (hb hby at_189) ?_
                    show Steps p.tables e below (T116.setTop (mkF m 190 #[.val (.int p0), .val (.int p1), .val (.int (p0 &&& (15 : Int32))), .val (.int (504 : Int32)), .val (.ref (u 3))] [(.int (1 : Int32))])) _
                    refine XS.goto X116.here hx rfl (pc0 := 190) (pc' := 194) rfl (hb hby at_190) (by decide) (by decide) ?_
                    show Steps p.tables e below (T116.setTop (mkF m 194 #[.val (.int p0), .val (.int p1), .val (.int (p0 &&& (15 : Int32))), .val (.int (504 : Int32)), .val (.ref (u 3))] [(.int (1 : Int32))])) _
                    exact retN X116 hx (t := .boolean) Bd.returns (by simp) (hb hby at_194) hr
                  · show own_Q0 Z u p0 p1 h0 n0 _ T116.heap _
                    rw [e116]
                    exact ⟨rfl, N116, trivial⟩
                · --
                  have pre118 : ∀ t, Steps p.tables e below (s₁.setTop (mkF m 105 #[.val (.int p0), .val (.int p1), .val (.int (p0 &&& (15 : Int32))), .unset, .unset] [(.int (8 : Int32)), (.int (p0 &&& (15 : Int32)))])) t → Steps p.tables e below (s₁.setTop (entryFrame m #[(.int p0), (.int p1)] maxLocals)) t := fun t kt => pre111 t (by
                    show Steps p.tables e below (s₁.setTop (mkF m 92 #[.val (.int p0), .val (.int p1), .val (.int (p0 &&& (15 : Int32))), .unset, .unset] [(.int (7 : Int32)), (.int (p0 &&& (15 : Int32)))])) _
                    refine XS.icmpYes X0.here hx rfl (pc0 := 92) (pc' := 102) rfl (hb hby at_92) rfl (feq hc112).2 (by decide) (by decide) ?_
                    show Steps p.tables e below (s₁.setTop (mkF m 102 #[.val (.int p0), .val (.int p1), .val (.int (p0 &&& (15 : Int32))), .unset, .unset] [])) _
                    refine XS.iloadN X0.here hx rfl (hb hby at_102) rfl ?_
                    show Steps p.tables e below (s₁.setTop (mkF m 103 #[.val (.int p0), .val (.int p1), .val (.int (p0 &&& (15 : Int32))), .unset, .unset] [(.int (p0 &&& (15 : Int32)))])) _
                    refine XS.bipush X0.here hx rfl (hb hby at_103) ?_
                    exact kt)
                  by_cases hc119 : (p0 &&& (15 : Int32)) = (8 : Int32)
                  · --
                    have pre120 : ∀ t, Steps p.tables e below (s₁.setTop (mkF m 175 #[.val (.int p0), .val (.int p1), .val (.int (p0 &&& (15 : Int32))), .val (.int (200 : Int32)), .unset] [(.int (200 : Int32))])) t → Steps p.tables e below (s₁.setTop (entryFrame m #[(.int p0), (.int p1)] maxLocals)) t := fun t kt => pre118 t (by
                      show Steps p.tables e below (s₁.setTop (mkF m 105 #[.val (.int p0), .val (.int p1), .val (.int (p0 &&& (15 : Int32))), .unset, .unset] [(.int (8 : Int32)), (.int (p0 &&& (15 : Int32)))])) _
                      refine XS.icmpNo X0.here hx rfl (hb hby at_105) rfl (teq hc119).2 ?_
                      show Steps p.tables e below (s₁.setTop (mkF m 108 #[.val (.int p0), .val (.int p1), .val (.int (p0 &&& (15 : Int32))), .unset, .unset] [])) _
                      refine XS.sipush X0.here hx rfl (hb hby at_108) ?_
                      show Steps p.tables e below (s₁.setTop (mkF m 111 #[.val (.int p0), .val (.int p1), .val (.int (p0 &&& (15 : Int32))), .unset, .unset] [(.int (200 : Int32))])) _
                      refine XS.istoreN X0.here hx rfl (hb hby at_111) rfl (l' := #[.val (.int p0), .val (.int p1), .val (.int (p0 &&& (15 : Int32))), .val (.int (200 : Int32)), .unset]) rfl ?_
                      show Steps p.tables e below (s₁.setTop (mkF m 112 #[.val (.int p0), .val (.int p1), .val (.int (p0 &&& (15 : Int32))), .val (.int (200 : Int32)), .unset] [])) _
                      refine XS.goto X0.here hx rfl (pc0 := 112) (pc' := 174) rfl (hb hby at_112) (by decide) (by decide) ?_
                      show Steps p.tables e below (s₁.setTop (mkF m 174 #[.val (.int p0), .val (.int p1), .val (.int (p0 &&& (15 : Int32))), .val (.int (200 : Int32)), .unset] [])) _
                      refine XS.iloadN X0.here hx rfl (hb hby at_174) rfl ?_
                      exact kt)
                    obtain ⟨vr121, _, ⟨T121, L121, k121, n121⟩, -, X121, ⟨Lc121, hQ121, l121, y121, z121⟩, st121⟩ := Jvm.LawKit.callS X0 hx (y := (⟨"com/example/trailwire/trailwire/status/StatusCode", "forHttpStatus", "(I)Lcom/example/trailwire/trailwire/status/StatusCode;"⟩ : MethodName)) hown (mvT hZ (hw _ (List.mem_of_getElem? (i := 0) rfl))) (mvT hZ (hw _ (List.mem_of_getElem? (i := 1) rfl))) (mvT hZ (hw _ (List.mem_of_getElem? (i := 2) rfl))) (mvT hZ (hw _ (List.mem_of_getElem? (i := 3) rfl))) (by decide) (backOf (W := 0) (rm1 l Z a0 hw [] u (200 : Int32) B h0 n0 O ) hZ (hw _ (List.mem_of_getElem? (i := 3) rfl)) (hw _ (List.mem_of_getElem? (i := 2) rfl)) (by decide) (by decide)) (g := (mkF m 175 #[.val (.int p0), .val (.int p1), .val (.int (p0 &&& (15 : Int32))), .val (.int (200 : Int32)), .unset] [(.int (200 : Int32))])) rfl (by rw [hml]; rfl) (argsL := [(.int (200 : Int32))]) (rest := []) (lenOf own_pd0 rfl) rfl (by show 2 * 0 + _ ≤ _; exact Nat.le_of_eq rfl) (hb hby at_175) (fun _ _ => ⟨rfl, e0, (by decide : 0 + 0 ≤ _), (by decide : 0 + 0 ≤ _)⟩)
                    dsimp only [Pt.U, Pt.locs, Pt.cells, Pt.slots] at X121 l121 y121 z121 st121 hQ121
                    subst l121 y121 z121
                    obtain ⟨hv121, N121q, e121⟩ := hQ121
                    have N121 := Fr.app N0 N121q
                    obtain rfl : vr121 = some (.ref (u 1)) := hv121.trans (by unfold own_r1; rw [if_neg (by decide : ¬ ((200 : Int32) = (400 : Int32))), if_neg (by decide : ¬ ((200 : Int32) = (401 : Int32))), if_neg (by decide : ¬ ((200 : Int32) = (403 : Int32))), if_neg (by decide : ¬ ((200 : Int32) = (404 : Int32))), if_neg (by decide : ¬ ((200 : Int32) = (429 : Int32))), if_neg (by decide : ¬ ((200 : Int32) = (502 : Int32))), if_neg (by decide : ¬ ((200 : Int32) = (503 : Int32))), if_neg (by decide : ¬ ((200 : Int32) = (504 : Int32)))])
                    have pre122 : ∀ t, Steps p.tables e below (T121.setTop (mkF m 183 #[.val (.int p0), .val (.int p1), .val (.int (p0 &&& (15 : Int32))), .val (.int (200 : Int32)), .val (.ref (u 1))] [(.int (200 : Int32)), (.ref (u 1))])) t → Steps p.tables e below (s₁.setTop (entryFrame m #[(.int p0), (.int p1)] maxLocals)) t := fun t kt => pre120 t (by
                      show Steps p.tables e below (s₁.setTop (mkF m 175 #[.val (.int p0), .val (.int p1), .val (.int (p0 &&& (15 : Int32))), .val (.int (200 : Int32)), .unset] [(.int (200 : Int32))])) _
                      refine st121 _ ?_
                      show Steps p.tables e below (T121.setTop (mkF m 178 #[.val (.int p0), .val (.int p1), .val (.int (p0 &&& (15 : Int32))), .val (.int (200 : Int32)), .unset] [(.ref (u 1))])) _
                      refine XS.astore X121.here hx rfl (hb hby at_178) rfl rfl (l' := #[.val (.int p0), .val (.int p1), .val (.int (p0 &&& (15 : Int32))), .val (.int (200 : Int32)), .val (.ref (u 1))]) rfl ?_
                      show Steps p.tables e below (T121.setTop (mkF m 180 #[.val (.int p0), .val (.int p1), .val (.int (p0 &&& (15 : Int32))), .val (.int (200 : Int32)), .val (.ref (u 1))] [])) _
                      refine XS.aload X121.here hx rfl (hb hby at_180) rfl rfl ?_
                      show Steps p.tables e below (T121.setTop (mkF m 182 #[.val (.int p0), .val (.int p1), .val (.int (p0 &&& (15 : Int32))), .val (.int (200 : Int32)), .val (.ref (u 1))] [(.ref (u 1))])) _
                      refine XS.iloadN X121.here hx rfl (hb hby at_182) rfl ?_
                      exact kt)
                    obtain ⟨vr123, _, ⟨T123, L123, k123, n123⟩, -, X123, ⟨Lc123, hQ123, l123, y123, z123⟩, st123⟩ := Jvm.LawKit.callS X121 hx (y := (⟨"com/example/trailwire/trailwire/status/StatusCodeForHttpStatusPinLaw", "expected", "(I)Lcom/example/trailwire/trailwire/status/StatusCode;"⟩ : MethodName)) hown (mvT hZ (hw _ (List.mem_of_getElem? (i := 6) rfl))) (mvT hZ (hw _ (List.mem_of_getElem? (i := 7) rfl))) (mvT hZ (hw _ (List.mem_of_getElem? (i := 8) rfl))) (mvT hZ (hw _ (List.mem_of_getElem? (i := 9) rfl))) (by decide) (backOf (W := 1) (rm2 l Z a0 hw [] u (200 : Int32) B h0 n0 O ) hZ (hw _ (List.mem_of_getElem? (i := 9) rfl)) (hw _ (List.mem_of_getElem? (i := 8) rfl)) (by decide) (by decide)) (g := (mkF m 183 #[.val (.int p0), .val (.int p1), .val (.int (p0 &&& (15 : Int32))), .val (.int (200 : Int32)), .val (.ref (u 1))] [(.int (200 : Int32)), (.ref (u 1))])) rfl (by rw [hml]; rfl) (argsL := [(.int (200 : Int32))]) (rest := [(.ref (u 1))]) (lenOf own_pd0 rfl) rfl (by show 2 * 0 + _ ≤ _; exact Nat.le_of_eq rfl) (hb hby at_183) (fun _ _ => ⟨rfl, e121, (by decide : 0 + 0 ≤ _), (by decide : 0 + 0 ≤ _)⟩)
                    dsimp only [Pt.U, Pt.locs, Pt.cells, Pt.slots] at X123 l123 y123 z123 st123 hQ123
                    subst l123 y123 z123
                    obtain ⟨hv123, N123q, e123⟩ := hQ123
                    have N123 := Fr.app N121 N123q
                    obtain rfl : vr123 = some (.ref (u 1)) := hv123.trans (by unfold own_r2; rw [if_neg (by decide : ¬ ((200 : Int32) = (400 : Int32))), if_neg (by decide : ¬ ((200 : Int32) = (401 : Int32))), if_neg (by decide : ¬ ((200 : Int32) = (403 : Int32))), if_neg (by decide : ¬ ((200 : Int32) = (404 : Int32))), if_neg (by decide : ¬ ((200 : Int32) = (429 : Int32))), if_neg (by decide : ¬ ((200 : Int32) = (502 : Int32))), if_neg (by decide : ¬ ((200 : Int32) = (503 : Int32))), if_neg (by decide : ¬ ((200 : Int32) = (504 : Int32)))])
                    obtain ⟨fs, hr, hrun, hended, hW, hsame⟩ := X123.leave (v := some (.int (1 : Int32))) (fun h => by rw [Bd.returns] at h; cases h)
                    refine ⟨_, _, pre122 _ ?_, hrun, hended, _, _, rfl, ?_, ⟨_, rfl⟩, hW, hsame.mono (by decide) (by decide)⟩
                    · show Steps p.tables e below (T121.setTop (mkF m 183 #[.val (.int p0), .val (.int p1), .val (.int (p0 &&& (15 : Int32))), .val (.int (200 : Int32)), .val (.ref (u 1))] [(.int (200 : Int32)), (.ref (u 1))])) _
                      refine st123 _ ?_
                      show Steps p.tables e below (T123.setTop (mkF m 186 #[.val (.int p0), .val (.int p1), .val (.int (p0 &&& (15 : Int32))), .val (.int (200 : Int32)), .val (.ref (u 1))] [(.ref (u 1)), (.ref (u 1))])) _
                      refine Jvm.RoadKit.acmp (g := (mkF m 186 #[.val (.int p0), .val (.int p1), .val (.int (p0 &&& (15 : Int32))), .val (.int (200 : Int32)), .val (.ref (u 1))] [(.ref (u 1)), (.ref (u 1))])) X123 hx rfl rfl rfl (pc0 := 186) (pc' := 189) (same := true) rfl (hb hby at_186) rfl (decide_eq_true rfl) (by decide) (by decide) ?_
                      show Steps p.tables e below (T123.setTop (mkF m 189 #[.val (.int p0), .val (.int p1), .val (.int (p0 &&& (15 : Int32))), .val (.int (200 : Int32)), .val (.ref (u 1))] [])) _
                      refine XS.iconst X123.here hx rfl (hb hby at_189) ?_
                      show Steps p.tables e below (T123.setTop (mkF m 190 #[.val (.int p0), .val (.int p1), .val (.int (p0 &&& (15 : Int32))), .val (.int (200 : Int32)), .val (.ref (u 1))] [(.int (1 : Int32))])) _
                      refine XS.goto X123.here hx rfl (pc0 := 190) (pc' := 194) rfl (hb hby at_190) (by decide) (by decide) ?_
                      show Steps p.tables e below (T123.setTop (mkF m 194 #[.val (.int p0), .val (.int p1), .val (.int (p0 &&& (15 : Int32))), .val (.int (200 : Int32)), .val (.ref (u 1))] [(.int (1 : Int32))])) _
                      exact retN X123 hx (t := .boolean) Bd.returns (by simp) (hb hby at_194) hr
                    · show own_Q0 Z u p0 p1 h0 n0 _ T123.heap _
                      rw [e123]
                      exact ⟨rfl, N123, trivial⟩
                  · --
                    have pre125 : ∀ t, Steps p.tables e below (s₁.setTop (mkF m 118 #[.val (.int p0), .val (.int p1), .val (.int (p0 &&& (15 : Int32))), .unset, .unset] [(.int (9 : Int32)), (.int (p0 &&& (15 : Int32)))])) t → Steps p.tables e below (s₁.setTop (entryFrame m #[(.int p0), (.int p1)] maxLocals)) t := fun t kt => pre118 t (by
                      show Steps p.tables e below (s₁.setTop (mkF m 105 #[.val (.int p0), .val (.int p1), .val (.int (p0 &&& (15 : Int32))), .unset, .unset] [(.int (8 : Int32)), (.int (p0 &&& (15 : Int32)))])) _
                      refine XS.icmpYes X0.here hx rfl (pc0 := 105) (pc' := 115) rfl (hb hby at_105) rfl (feq hc119).2 (by decide) (by decide) ?_
                      show Steps p.tables e below (s₁.setTop (mkF m 115 #[.val (.int p0), .val (.int p1), .val (.int (p0 &&& (15 : Int32))), .unset, .unset] [])) _
                      refine XS.iloadN X0.here hx rfl (hb hby at_115) rfl ?_
                      show Steps p.tables e below (s₁.setTop (mkF m 116 #[.val (.int p0), .val (.int p1), .val (.int (p0 &&& (15 : Int32))), .unset, .unset] [(.int (p0 &&& (15 : Int32)))])) _
                      refine XS.bipush X0.here hx rfl (hb hby at_116) ?_
                      exact kt)
                    by_cases hc126 : (p0 &&& (15 : Int32)) = (9 : Int32)
                    · --
                      have pre127 : ∀ t, Steps p.tables e below (s₁.setTop (mkF m 175 #[.val (.int p0), .val (.int p1), .val (.int (p0 &&& (15 : Int32))), .val (.int (402 : Int32)), .unset] [(.int (402 : Int32))])) t → Steps p.tables e below (s₁.setTop (entryFrame m #[(.int p0), (.int p1)] maxLocals)) t := fun t kt => pre125 t (by
                        show Steps p.tables e below (s₁.setTop (mkF m 118 #[.val (.int p0), .val (.int p1), .val (.int (p0 &&& (15 : Int32))), .unset, .unset] [(.int (9 : Int32)), (.int (p0 &&& (15 : Int32)))])) _
                        refine XS.icmpNo X0.here hx rfl (hb hby at_118) rfl (teq hc126).2 ?_
                        show Steps p.tables e below (s₁.setTop (mkF m 121 #[.val (.int p0), .val (.int p1), .val (.int (p0 &&& (15 : Int32))), .unset, .unset] [])) _
                        refine XS.sipush X0.here hx rfl (hb hby at_121) ?_
                        show Steps p.tables e below (s₁.setTop (mkF m 124 #[.val (.int p0), .val (.int p1), .val (.int (p0 &&& (15 : Int32))), .unset, .unset] [(.int (402 : Int32))])) _
                        refine XS.istoreN X0.here hx rfl (hb hby at_124) rfl (l' := #[.val (.int p0), .val (.int p1), .val (.int (p0 &&& (15 : Int32))), .val (.int (402 : Int32)), .unset]) rfl ?_
                        show Steps p.tables e below (s₁.setTop (mkF m 125 #[.val (.int p0), .val (.int p1), .val (.int (p0 &&& (15 : Int32))), .val (.int (402 : Int32)), .unset] [])) _
                        refine XS.goto X0.here hx rfl (pc0 := 125) (pc' := 174) rfl (hb hby at_125) (by decide) (by decide) ?_
                        show Steps p.tables e below (s₁.setTop (mkF m 174 #[.val (.int p0), .val (.int p1), .val (.int (p0 &&& (15 : Int32))), .val (.int (402 : Int32)), .unset] [])) _
                        refine XS.iloadN X0.here hx rfl (hb hby at_174) rfl ?_
                        exact kt)
                      obtain ⟨vr128, _, ⟨T128, L128, k128, n128⟩, -, X128, ⟨Lc128, hQ128, l128, y128, z128⟩, st128⟩ := Jvm.LawKit.callS X0 hx (y := (⟨"com/example/trailwire/trailwire/status/StatusCode", "forHttpStatus", "(I)Lcom/example/trailwire/trailwire/status/StatusCode;"⟩ : MethodName)) hown (mvT hZ (hw _ (List.mem_of_getElem? (i := 0) rfl))) (mvT hZ (hw _ (List.mem_of_getElem? (i := 1) rfl))) (mvT hZ (hw _ (List.mem_of_getElem? (i := 2) rfl))) (mvT hZ (hw _ (List.mem_of_getElem? (i := 3) rfl))) (by decide) (backOf (W := 0) (rm1 l Z a0 hw [] u (402 : Int32) B h0 n0 O ) hZ (hw _ (List.mem_of_getElem? (i := 3) rfl)) (hw _ (List.mem_of_getElem? (i := 2) rfl)) (by decide) (by decide)) (g := (mkF m 175 #[.val (.int p0), .val (.int p1), .val (.int (p0 &&& (15 : Int32))), .val (.int (402 : Int32)), .unset] [(.int (402 : Int32))])) rfl (by rw [hml]; rfl) (argsL := [(.int (402 : Int32))]) (rest := []) (lenOf own_pd0 rfl) rfl (by show 2 * 0 + _ ≤ _; exact Nat.le_of_eq rfl) (hb hby at_175) (fun _ _ => ⟨rfl, e0, (by decide : 0 + 0 ≤ _), (by decide : 0 + 0 ≤ _)⟩)
                      dsimp only [Pt.U, Pt.locs, Pt.cells, Pt.slots] at X128 l128 y128 z128 st128 hQ128
                      subst l128 y128 z128
                      obtain ⟨hv128, N128q, e128⟩ := hQ128
                      have N128 := Fr.app N0 N128q
                      obtain rfl : vr128 = some (.ref (u 1)) := hv128.trans (by unfold own_r1; rw [if_neg (by decide : ¬ ((402 : Int32) = (400 : Int32))), if_neg (by decide : ¬ ((402 : Int32) = (401 : Int32))), if_neg (by decide : ¬ ((402 : Int32) = (403 : Int32))), if_neg (by decide : ¬ ((402 : Int32) = (404 : Int32))), if_neg (by decide : ¬ ((402 : Int32) = (429 : Int32))), if_neg (by decide : ¬ ((402 : Int32) = (502 : Int32))), if_neg (by decide : ¬ ((402 : Int32) = (503 : Int32))), if_neg (by decide : ¬ ((402 : Int32) = (504 : Int32)))])
                      have pre129 : ∀ t, Steps p.tables e below (T128.setTop (mkF m 183 #[.val (.int p0), .val (.int p1), .val (.int (p0 &&& (15 : Int32))), .val (.int (402 : Int32)), .val (.ref (u 1))] [(.int (402 : Int32)), (.ref (u 1))])) t → Steps p.tables e below (s₁.setTop (entryFrame m #[(.int p0), (.int p1)] maxLocals)) t := fun t kt => pre127 t (by
                        show Steps p.tables e below (s₁.setTop (mkF m 175 #[.val (.int p0), .val (.int p1), .val (.int (p0 &&& (15 : Int32))), .val (.int (402 : Int32)), .unset] [(.int (402 : Int32))])) _
                        refine st128 _ ?_
                        show Steps p.tables e below (T128.setTop (mkF m 178 #[.val (.int p0), .val (.int p1), .val (.int (p0 &&& (15 : Int32))), .val (.int (402 : Int32)), .unset] [(.ref (u 1))])) _
                        refine XS.astore X128.here hx rfl (hb hby at_178) rfl rfl (l' := #[.val (.int p0), .val (.int p1), .val (.int (p0 &&& (15 : Int32))), .val (.int (402 : Int32)), .val (.ref (u 1))]) rfl ?_
                        show Steps p.tables e below (T128.setTop (mkF m 180 #[.val (.int p0), .val (.int p1), .val (.int (p0 &&& (15 : Int32))), .val (.int (402 : Int32)), .val (.ref (u 1))] [])) _
                        refine XS.aload X128.here hx rfl (hb hby at_180) rfl rfl ?_
                        show Steps p.tables e below (T128.setTop (mkF m 182 #[.val (.int p0), .val (.int p1), .val (.int (p0 &&& (15 : Int32))), .val (.int (402 : Int32)), .val (.ref (u 1))] [(.ref (u 1))])) _
                        refine XS.iloadN X128.here hx rfl (hb hby at_182) rfl ?_
                        exact kt)
                      obtain ⟨vr130, _, ⟨T130, L130, k130, n130⟩, -, X130, ⟨Lc130, hQ130, l130, y130, z130⟩, st130⟩ := Jvm.LawKit.callS X128 hx (y := (⟨"com/example/trailwire/trailwire/status/StatusCodeForHttpStatusPinLaw", "expected", "(I)Lcom/example/trailwire/trailwire/status/StatusCode;"⟩ : MethodName)) hown (mvT hZ (hw _ (List.mem_of_getElem? (i := 6) rfl))) (mvT hZ (hw _ (List.mem_of_getElem? (i := 7) rfl))) (mvT hZ (hw _ (List.mem_of_getElem? (i := 8) rfl))) (mvT hZ (hw _ (List.mem_of_getElem? (i := 9) rfl))) (by decide) (backOf (W := 1) (rm2 l Z a0 hw [] u (402 : Int32) B h0 n0 O ) hZ (hw _ (List.mem_of_getElem? (i := 9) rfl)) (hw _ (List.mem_of_getElem? (i := 8) rfl)) (by decide) (by decide)) (g := (mkF m 183 #[.val (.int p0), .val (.int p1), .val (.int (p0 &&& (15 : Int32))), .val (.int (402 : Int32)), .val (.ref (u 1))] [(.int (402 : Int32)), (.ref (u 1))])) rfl (by rw [hml]; rfl) (argsL := [(.int (402 : Int32))]) (rest := [(.ref (u 1))]) (lenOf own_pd0 rfl) rfl (by show 2 * 0 + _ ≤ _; exact Nat.le_of_eq rfl) (hb hby at_183) (fun _ _ => ⟨rfl, e128, (by decide : 0 + 0 ≤ _), (by decide : 0 + 0 ≤ _)⟩)
                      dsimp only [Pt.U, Pt.locs, Pt.cells, Pt.slots] at X130 l130 y130 z130 st130 hQ130
                      subst l130 y130 z130
                      obtain ⟨hv130, N130q, e130⟩ := hQ130
                      have N130 := Fr.app N128 N130q
                      obtain rfl : vr130 = some (.ref (u 1)) := hv130.trans (by unfold own_r2; rw [if_neg (by decide : ¬ ((402 : Int32) = (400 : Int32))), if_neg (by decide : ¬ ((402 : Int32) = (401 : Int32))), if_neg (by decide : ¬ ((402 : Int32) = (403 : Int32))), if_neg (by decide : ¬ ((402 : Int32) = (404 : Int32))), if_neg (by decide : ¬ ((402 : Int32) = (429 : Int32))), if_neg (by decide : ¬ ((402 : Int32) = (502 : Int32))), if_neg (by decide : ¬ ((402 : Int32) = (503 : Int32))), if_neg (by decide : ¬ ((402 : Int32) = (504 : Int32)))])
                      obtain ⟨fs, hr, hrun, hended, hW, hsame⟩ := X130.leave (v := some (.int (1 : Int32))) (fun h => by rw [Bd.returns] at h; cases h)
                      refine ⟨_, _, pre129 _ ?_, hrun, hended, _, _, rfl, ?_, ⟨_, rfl⟩, hW, hsame.mono (by decide) (by decide)⟩
                      · show Steps p.tables e below (T128.setTop (mkF m 183 #[.val (.int p0), .val (.int p1), .val (.int (p0 &&& (15 : Int32))), .val (.int (402 : Int32)), .val (.ref (u 1))] [(.int (402 : Int32)), (.ref (u 1))])) _
                        refine st130 _ ?_
                        show Steps p.tables e below (T130.setTop (mkF m 186 #[.val (.int p0), .val (.int p1), .val (.int (p0 &&& (15 : Int32))), .val (.int (402 : Int32)), .val (.ref (u 1))] [(.ref (u 1)), (.ref (u 1))])) _
                        refine Jvm.RoadKit.acmp (g := (mkF m 186 #[.val (.int p0), .val (.int p1), .val (.int (p0 &&& (15 : Int32))), .val (.int (402 : Int32)), .val (.ref (u 1))] [(.ref (u 1)), (.ref (u 1))])) X130 hx rfl rfl rfl (pc0 := 186) (pc' := 189) (same := true) rfl (hb hby at_186) rfl (decide_eq_true rfl) (by decide) (by decide) ?_
                        show Steps p.tables e below (T130.setTop (mkF m 189 #[.val (.int p0), .val (.int p1), .val (.int (p0 &&& (15 : Int32))), .val (.int (402 : Int32)), .val (.ref (u 1))] [])) _
                        refine XS.iconst X130.here hx rfl (hb hby at_189) ?_
                        show Steps p.tables e below (T130.setTop (mkF m 190 #[.val (.int p0), .val (.int p1), .val (.int (p0 &&& (15 : Int32))), .val (.int (402 : Int32)), .val (.ref (u 1))] [(.int (1 : Int32))])) _
                        refine XS.goto X130.here hx rfl (pc0 := 190) (pc' := 194) rfl (hb hby at_190) (by decide) (by decide) ?_
                        show Steps p.tables e below (T130.setTop (mkF m 194 #[.val (.int p0), .val (.int p1), .val (.int (p0 &&& (15 : Int32))), .val (.int (402 : Int32)), .val (.ref (u 1))] [(.int (1 : Int32))])) _
                        exact retN X130 hx (t := .boolean) Bd.returns (by simp) (hb hby at_194) hr
                      · show own_Q0 Z u p0 p1 h0 n0 _ T130.heap _
                        rw [e130]
                        exact ⟨rfl, N130, trivial⟩
                    · --
                      have pre132 : ∀ t, Steps p.tables e below (s₁.setTop (mkF m 131 #[.val (.int p0), .val (.int p1), .val (.int (p0 &&& (15 : Int32))), .unset, .unset] [(.int (10 : Int32)), (.int (p0 &&& (15 : Int32)))])) t → Steps p.tables e below (s₁.setTop (entryFrame m #[(.int p0), (.int p1)] maxLocals)) t := fun t kt => pre125 t (by
                        show Steps p.tables e below (s₁.setTop (mkF m 118 #[.val (.int p0), .val (.int p1), .val (.int (p0 &&& (15 : Int32))), .unset, .unset] [(.int (9 : Int32)), (.int (p0 &&& (15 : Int32)))])) _
                        refine XS.icmpYes X0.here hx rfl (pc0 := 118) (pc' := 128) rfl (hb hby at_118) rfl (feq hc126).2 (by decide) (by decide) ?_
                        show Steps p.tables e below (s₁.setTop (mkF m 128 #[.val (.int p0), .val (.int p1), .val (.int (p0 &&& (15 : Int32))), .unset, .unset] [])) _
                        refine XS.iloadN X0.here hx rfl (hb hby at_128) rfl ?_
                        show Steps p.tables e below (s₁.setTop (mkF m 129 #[.val (.int p0), .val (.int p1), .val (.int (p0 &&& (15 : Int32))), .unset, .unset] [(.int (p0 &&& (15 : Int32)))])) _
                        refine XS.bipush X0.here hx rfl (hb hby at_129) ?_
                        exact kt)
                      by_cases hc133 : (p0 &&& (15 : Int32)) = (10 : Int32)
                      · --
                        have pre134 : ∀ t, Steps p.tables e below (s₁.setTop (mkF m 175 #[.val (.int p0), .val (.int p1), .val (.int (p0 &&& (15 : Int32))), .val (.int (500 : Int32)), .unset] [(.int (500 : Int32))])) t → Steps p.tables e below (s₁.setTop (entryFrame m #[(.int p0), (.int p1)] maxLocals)) t := fun t kt => pre132 t (by
                          show Steps p.tables e below (s₁.setTop (mkF m 131 #[.val (.int p0), .val (.int p1), .val (.int (p0 &&& (15 : Int32))), .unset, .unset] [(.int (10 : Int32)), (.int (p0 &&& (15 : Int32)))])) _
                          refine XS.icmpNo X0.here hx rfl (hb hby at_131) rfl (teq hc133).2 ?_
                          show Steps p.tables e below (s₁.setTop (mkF m 134 #[.val (.int p0), .val (.int p1), .val (.int (p0 &&& (15 : Int32))), .unset, .unset] [])) _
                          refine XS.sipush X0.here hx rfl (hb hby at_134) ?_
                          show Steps p.tables e below (s₁.setTop (mkF m 137 #[.val (.int p0), .val (.int p1), .val (.int (p0 &&& (15 : Int32))), .unset, .unset] [(.int (500 : Int32))])) _
                          refine XS.istoreN X0.here hx rfl (hb hby at_137) rfl (l' := #[.val (.int p0), .val (.int p1), .val (.int (p0 &&& (15 : Int32))), .val (.int (500 : Int32)), .unset]) rfl ?_
                          show Steps p.tables e below (s₁.setTop (mkF m 138 #[.val (.int p0), .val (.int p1), .val (.int (p0 &&& (15 : Int32))), .val (.int (500 : Int32)), .unset] [])) _
                          refine XS.goto X0.here hx rfl (pc0 := 138) (pc' := 174) rfl (hb hby at_138) (by decide) (by decide) ?_
                          show Steps p.tables e below (s₁.setTop (mkF m 174 #[.val (.int p0), .val (.int p1), .val (.int (p0 &&& (15 : Int32))), .val (.int (500 : Int32)), .unset] [])) _
                          refine XS.iloadN X0.here hx rfl (hb hby at_174) rfl ?_
                          exact kt)
                        obtain ⟨vr135, _, ⟨T135, L135, k135, n135⟩, -, X135, ⟨Lc135, hQ135, l135, y135, z135⟩, st135⟩ := Jvm.LawKit.callS X0 hx (y := (⟨"com/example/trailwire/trailwire/status/StatusCode", "forHttpStatus", "(I)Lcom/example/trailwire/trailwire/status/StatusCode;"⟩ : MethodName)) hown (mvT hZ (hw _ (List.mem_of_getElem? (i := 0) rfl))) (mvT hZ (hw _ (List.mem_of_getElem? (i := 1) rfl))) (mvT hZ (hw _ (List.mem_of_getElem? (i := 2) rfl))) (mvT hZ (hw _ (List.mem_of_getElem? (i := 3) rfl))) (by decide) (backOf (W := 0) (rm1 l Z a0 hw [] u (500 : Int32) B h0 n0 O ) hZ (hw _ (List.mem_of_getElem? (i := 3) rfl)) (hw _ (List.mem_of_getElem? (i := 2) rfl)) (by decide) (by decide)) (g := (mkF m 175 #[.val (.int p0), .val (.int p1), .val (.int (p0 &&& (15 : Int32))), .val (.int (500 : Int32)), .unset] [(.int (500 : Int32))])) rfl (by rw [hml]; rfl) (argsL := [(.int (500 : Int32))]) (rest := []) (lenOf own_pd0 rfl) rfl (by show 2 * 0 + _ ≤ _; exact Nat.le_of_eq rfl) (hb hby at_175) (fun _ _ => ⟨rfl, e0, (by decide : 0 + 0 ≤ _), (by decide : 0 + 0 ≤ _)⟩)
                        dsimp only [Pt.U, Pt.locs, Pt.cells, Pt.slots] at X135 l135 y135 z135 st135 hQ135
                        subst l135 y135 z135
                        obtain ⟨hv135, N135q, e135⟩ := hQ135
                        have N135 := Fr.app N0 N135q
                        obtain rfl : vr135 = some (.ref (u 1)) := hv135.trans (by unfold own_r1; rw [if_neg (by decide : ¬ ((500 : Int32) = (400 : Int32))), if_neg (by decide : ¬ ((500 : Int32) = (401 : Int32))), if_neg (by decide : ¬ ((500 : Int32) = (403 : Int32))), if_neg (by decide : ¬ ((500 : Int32) = (404 : Int32))), if_neg (by decide : ¬ ((500 : Int32) = (429 : Int32))), if_neg (by decide : ¬ ((500 : Int32) = (502 : Int32))), if_neg (by decide : ¬ ((500 : Int32) = (503 : Int32))), if_neg (by decide : ¬ ((500 : Int32) = (504 : Int32)))])
                        have pre136 : ∀ t, Steps p.tables e below (T135.setTop (mkF m 183 #[.val (.int p0), .val (.int p1), .val (.int (p0 &&& (15 : Int32))), .val (.int (500 : Int32)), .val (.ref (u 1))] [(.int (500 : Int32)), (.ref (u 1))])) t → Steps p.tables e below (s₁.setTop (entryFrame m #[(.int p0), (.int p1)] maxLocals)) t := fun t kt => pre134 t (by
                          show Steps p.tables e below (s₁.setTop (mkF m 175 #[.val (.int p0), .val (.int p1), .val (.int (p0 &&& (15 : Int32))), .val (.int (500 : Int32)), .unset] [(.int (500 : Int32))])) _
                          refine st135 _ ?_
                          show Steps p.tables e below (T135.setTop (mkF m 178 #[.val (.int p0), .val (.int p1), .val (.int (p0 &&& (15 : Int32))), .val (.int (500 : Int32)), .unset] [(.ref (u 1))])) _
                          refine XS.astore X135.here hx rfl (hb hby at_178) rfl rfl (l' := #[.val (.int p0), .val (.int p1), .val (.int (p0 &&& (15 : Int32))), .val (.int (500 : Int32)), .val (.ref (u 1))]) rfl ?_
                          show Steps p.tables e below (T135.setTop (mkF m 180 #[.val (.int p0), .val (.int p1), .val (.int (p0 &&& (15 : Int32))), .val (.int (500 : Int32)), .val (.ref (u 1))] [])) _
                          refine XS.aload X135.here hx rfl (hb hby at_180) rfl rfl ?_
                          show Steps p.tables e below (T135.setTop (mkF m 182 #[.val (.int p0), .val (.int p1), .val (.int (p0 &&& (15 : Int32))), .val (.int (500 : Int32)), .val (.ref (u 1))] [(.ref (u 1))])) _
                          refine XS.iloadN X135.here hx rfl (hb hby at_182) rfl ?_
                          exact kt)
                        obtain ⟨vr137, _, ⟨T137, L137, k137, n137⟩, -, X137, ⟨Lc137, hQ137, l137, y137, z137⟩, st137⟩ := Jvm.LawKit.callS X135 hx (y := (⟨"com/example/trailwire/trailwire/status/StatusCodeForHttpStatusPinLaw", "expected", "(I)Lcom/example/trailwire/trailwire/status/StatusCode;"⟩ : MethodName)) hown (mvT hZ (hw _ (List.mem_of_getElem? (i := 6) rfl))) (mvT hZ (hw _ (List.mem_of_getElem? (i := 7) rfl))) (mvT hZ (hw _ (List.mem_of_getElem? (i := 8) rfl))) (mvT hZ (hw _ (List.mem_of_getElem? (i := 9) rfl))) (by decide) (backOf (W := 1) (rm2 l Z a0 hw [] u (500 : Int32) B h0 n0 O ) hZ (hw _ (List.mem_of_getElem? (i := 9) rfl)) (hw _ (List.mem_of_getElem? (i := 8) rfl)) (by decide) (by decide)) (g := (mkF m 183 #[.val (.int p0), .val (.int p1), .val (.int (p0 &&& (15 : Int32))), .val (.int (500 : Int32)), .val (.ref (u 1))] [(.int (500 : Int32)), (.ref (u 1))])) rfl (by rw [hml]; rfl) (argsL := [(.int (500 : Int32))]) (rest := [(.ref (u 1))]) (lenOf own_pd0 rfl) rfl (by show 2 * 0 + _ ≤ _; exact Nat.le_of_eq rfl) (hb hby at_183) (fun _ _ => ⟨rfl, e135, (by decide : 0 + 0 ≤ _), (by decide : 0 + 0 ≤ _)⟩)
                        dsimp only [Pt.U, Pt.locs, Pt.cells, Pt.slots] at X137 l137 y137 z137 st137 hQ137
                        subst l137 y137 z137
                        obtain ⟨hv137, N137q, e137⟩ := hQ137
                        have N137 := Fr.app N135 N137q
                        obtain rfl : vr137 = some (.ref (u 1)) := hv137.trans (by unfold own_r2; rw [if_neg (by decide : ¬ ((500 : Int32) = (400 : Int32))), if_neg (by decide : ¬ ((500 : Int32) = (401 : Int32))), if_neg (by decide : ¬ ((500 : Int32) = (403 : Int32))), if_neg (by decide : ¬ ((500 : Int32) = (404 : Int32))), if_neg (by decide : ¬ ((500 : Int32) = (429 : Int32))), if_neg (by decide : ¬ ((500 : Int32) = (502 : Int32))), if_neg (by decide : ¬ ((500 : Int32) = (503 : Int32))), if_neg (by decide : ¬ ((500 : Int32) = (504 : Int32)))])
                        obtain ⟨fs, hr, hrun, hended, hW, hsame⟩ := X137.leave (v := some (.int (1 : Int32))) (fun h => by rw [Bd.returns] at h; cases h)
                        refine ⟨_, _, pre136 _ ?_, hrun, hended, _, _, rfl, ?_, ⟨_, rfl⟩, hW, hsame.mono (by decide) (by decide)⟩
                        · show Steps p.tables e below (T135.setTop (mkF m 183 #[.val (.int p0), .val (.int p1), .val (.int (p0 &&& (15 : Int32))), .val (.int (500 : Int32)), .val (.ref (u 1))] [(.int (500 : Int32)), (.ref (u 1))])) _
                          refine st137 _ ?_
                          show Steps p.tables e below (T137.setTop (mkF m 186 #[.val (.int p0), .val (.int p1), .val (.int (p0 &&& (15 : Int32))), .val (.int (500 : Int32)), .val (.ref (u 1))] [(.ref (u 1)), (.ref (u 1))])) _
                          refine Jvm.RoadKit.acmp (g := (mkF m 186 #[.val (.int p0), .val (.int p1), .val (.int (p0 &&& (15 : Int32))), .val (.int (500 : Int32)), .val (.ref (u 1))] [(.ref (u 1)), (.ref (u 1))])) X137 hx rfl rfl rfl (pc0 := 186) (pc' := 189) (same := true) rfl (hb hby at_186) rfl (decide_eq_true rfl) (by decide) (by decide) ?_
                          show Steps p.tables e below (T137.setTop (mkF m 189 #[.val (.int p0), .val (.int p1), .val (.int (p0 &&& (15 : Int32))), .val (.int (500 : Int32)), .val (.ref (u 1))] [])) _
                          refine XS.iconst X137.here hx rfl (hb hby at_189) ?_
                          show Steps p.tables e below (T137.setTop (mkF m 190 #[.val (.int p0), .val (.int p1), .val (.int (p0 &&& (15 : Int32))), .val (.int (500 : Int32)), .val (.ref (u 1))] [(.int (1 : Int32))])) _
                          refine XS.goto X137.here hx rfl (pc0 := 190) (pc' := 194) rfl (hb hby at_190) (by decide) (by decide) ?_
                          show Steps p.tables e below (T137.setTop (mkF m 194 #[.val (.int p0), .val (.int p1), .val (.int (p0 &&& (15 : Int32))), .val (.int (500 : Int32)), .val (.ref (u 1))] [(.int (1 : Int32))])) _
                          exact retN X137 hx (t := .boolean) Bd.returns (by simp) (hb hby at_194) hr
                        · show own_Q0 Z u p0 p1 h0 n0 _ T137.heap _
                          rw [e137]
                          exact ⟨rfl, N137, trivial⟩
                      · --
                        have pre139 : ∀ t, Steps p.tables e below (s₁.setTop (mkF m 144 #[.val (.int p0), .val (.int p1), .val (.int (p0 &&& (15 : Int32))), .unset, .unset] [(.int (11 : Int32)), (.int (p0 &&& (15 : Int32)))])) t → Steps p.tables e below (s₁.setTop (entryFrame m #[(.int p0), (.int p1)] maxLocals)) t := fun t kt => pre132 t (by
                          show Steps p.tables e below (s₁.setTop (mkF m 131 #[.val (.int p0), .val (.int p1), .val (.int (p0 &&& (15 : Int32))), .unset, .unset] [(.int (10 : Int32)), (.int (p0 &&& (15 : Int32)))])) _
                          refine XS.icmpYes X0.here hx rfl (pc0 := 131) (pc' := 141) rfl (hb hby at_131) rfl (feq hc133).2 (by decide) (by decide) ?_
                          show Steps p.tables e below (s₁.setTop (mkF m 141 #[.val (.int p0), .val (.int p1), .val (.int (p0 &&& (15 : Int32))), .unset, .unset] [])) _
                          refine XS.iloadN X0.here hx rfl (hb hby at_141) rfl ?_
                          show Steps p.tables e below (s₁.setTop (mkF m 142 #[.val (.int p0), .val (.int p1), .val (.int (p0 &&& (15 : Int32))), .unset, .unset] [(.int (p0 &&& (15 : Int32)))])) _
                          refine XS.bipush X0.here hx rfl (hb hby at_142) ?_
                          exact kt)
                        by_cases hc140 : (p0 &&& (15 : Int32)) = (11 : Int32)
                        · --
                          have pre141 : ∀ t, Steps p.tables e below (s₁.setTop (mkF m 175 #[.val (.int p0), .val (.int p1), .val (.int (p0 &&& (15 : Int32))), .val (.int (505 : Int32)), .unset] [(.int (505 : Int32))])) t → Steps p.tables e below (s₁.setTop (entryFrame m #[(.int p0), (.int p1)] maxLocals)) t := fun t kt => pre139 t (by
                            show Steps p.tables e below (s₁.setTop (mkF m 144 #[.val (.int p0), .val (.int p1), .val (.int (p0 &&& (15 : Int32))), .unset, .unset] [(.int (11 : Int32)), (.int (p0 &&& (15 : Int32)))])) _
                            refine XS.icmpNo X0.here hx rfl (hb hby at_144) rfl (teq hc140).2 ?_
                            show Steps p.tables e below (s₁.setTop (mkF m 147 #[.val (.int p0), .val (.int p1), .val (.int (p0 &&& (15 : Int32))), .unset, .unset] [])) _
                            refine XS.sipush X0.here hx rfl (hb hby at_147) ?_
                            show Steps p.tables e below (s₁.setTop (mkF m 150 #[.val (.int p0), .val (.int p1), .val (.int (p0 &&& (15 : Int32))), .unset, .unset] [(.int (505 : Int32))])) _
                            refine XS.istoreN X0.here hx rfl (hb hby at_150) rfl (l' := #[.val (.int p0), .val (.int p1), .val (.int (p0 &&& (15 : Int32))), .val (.int (505 : Int32)), .unset]) rfl ?_
                            show Steps p.tables e below (s₁.setTop (mkF m 151 #[.val (.int p0), .val (.int p1), .val (.int (p0 &&& (15 : Int32))), .val (.int (505 : Int32)), .unset] [])) _
                            refine XS.goto X0.here hx rfl (pc0 := 151) (pc' := 174) rfl (hb hby at_151) (by decide) (by decide) ?_
                            show Steps p.tables e below (s₁.setTop (mkF m 174 #[.val (.int p0), .val (.int p1), .val (.int (p0 &&& (15 : Int32))), .val (.int (505 : Int32)), .unset] [])) _
                            refine XS.iloadN X0.here hx rfl (hb hby at_174) rfl ?_
                            exact kt)
                          obtain ⟨vr142, _, ⟨T142, L142, k142, n142⟩, -, X142, ⟨Lc142, hQ142, l142, y142, z142⟩, st142⟩ := Jvm.LawKit.callS X0 hx (y := (⟨"com/example/trailwire/trailwire/status/StatusCode", "forHttpStatus", "(I)Lcom/example/trailwire/trailwire/status/StatusCode;"⟩ : MethodName)) hown (mvT hZ (hw _ (List.mem_of_getElem? (i := 0) rfl))) (mvT hZ (hw _ (List.mem_of_getElem? (i := 1) rfl))) (mvT hZ (hw _ (List.mem_of_getElem? (i := 2) rfl))) (mvT hZ (hw _ (List.mem_of_getElem? (i := 3) rfl))) (by decide) (backOf (W := 0) (rm1 l Z a0 hw [] u (505 : Int32) B h0 n0 O ) hZ (hw _ (List.mem_of_getElem? (i := 3) rfl)) (hw _ (List.mem_of_getElem? (i := 2) rfl)) (by decide) (by decide)) (g := (mkF m 175 #[.val (.int p0), .val (.int p1), .val (.int (p0 &&& (15 : Int32))), .val (.int (505 : Int32)), .unset] [(.int (505 : Int32))])) rfl (by rw [hml]; rfl) (argsL := [(.int (505 : Int32))]) (rest := []) (lenOf own_pd0 rfl) rfl (by show 2 * 0 + _ ≤ _; exact Nat.le_of_eq rfl) (hb hby at_175) (fun _ _ => ⟨rfl, e0, (by decide : 0 + 0 ≤ _), (by decide : 0 + 0 ≤ _)⟩)
                          dsimp only [Pt.U, Pt.locs, Pt.cells, Pt.slots] at X142 l142 y142 z142 st142 hQ142
                          subst l142 y142 z142
                          obtain ⟨hv142, N142q, e142⟩ := hQ142
                          have N142 := Fr.app N0 N142q
                          obtain rfl : vr142 = some (.ref (u 1)) := hv142.trans (by unfold own_r1; rw [if_neg (by decide : ¬ ((505 : Int32) = (400 : Int32))), if_neg (by decide : ¬ ((505 : Int32) = (401 : Int32))), if_neg (by decide : ¬ ((505 : Int32) = (403 : Int32))), if_neg (by decide : ¬ ((505 : Int32) = (404 : Int32))), if_neg (by decide : ¬ ((505 : Int32) = (429 : Int32))), if_neg (by decide : ¬ ((505 : Int32) = (502 : Int32))), if_neg (by decide : ¬ ((505 : Int32) = (503 : Int32))), if_neg (by decide : ¬ ((505 : Int32) = (504 : Int32)))])
                          have pre143 : ∀ t, Steps p.tables e below (T142.setTop (mkF m 183 #[.val (.int p0), .val (.int p1), .val (.int (p0 &&& (15 : Int32))), .val (.int (505 : Int32)), .val (.ref (u 1))] [(.int (505 : Int32)), (.ref (u 1))])) t → Steps p.tables e below (s₁.setTop (entryFrame m #[(.int p0), (.int p1)] maxLocals)) t := fun t kt => pre141 t (by
                            show Steps p.tables e below (s₁.setTop (mkF m 175 #[.val (.int p0), .val (.int p1), .val (.int (p0 &&& (15 : Int32))), .val (.int (505 : Int32)), .unset] [(.int (505 : Int32))])) _
                            refine st142 _ ?_
                            show Steps p.tables e below (T142.setTop (mkF m 178 #[.val (.int p0), .val (.int p1), .val (.int (p0 &&& (15 : Int32))), .val (.int (505 : Int32)), .unset] [(.ref (u 1))])) _
                            refine XS.astore X142.here hx rfl (hb hby at_178) rfl rfl (l' := #[.val (.int p0), .val (.int p1), .val (.int (p0 &&& (15 : Int32))), .val (.int (505 : Int32)), .val (.ref (u 1))]) rfl ?_
                            show Steps p.tables e below (T142.setTop (mkF m 180 #[.val (.int p0), .val (.int p1), .val (.int (p0 &&& (15 : Int32))), .val (.int (505 : Int32)), .val (.ref (u 1))] [])) _
                            refine XS.aload X142.here hx rfl (hb hby at_180) rfl rfl ?_
                            show Steps p.tables e below (T142.setTop (mkF m 182 #[.val (.int p0), .val (.int p1), .val (.int (p0 &&& (15 : Int32))), .val (.int (505 : Int32)), .val (.ref (u 1))] [(.ref (u 1))])) _
                            refine XS.iloadN X142.here hx rfl (hb hby at_182) rfl ?_
                            exact kt)
                          obtain ⟨vr144, _, ⟨T144, L144, k144, n144⟩, -, X144, ⟨Lc144, hQ144, l144, y144, z144⟩, st144⟩ := Jvm.LawKit.callS X142 hx (y := (⟨"com/example/trailwire/trailwire/status/StatusCodeForHttpStatusPinLaw", "expected", "(I)Lcom/example/trailwire/trailwire/status/StatusCode;"⟩ : MethodName)) hown (mvT hZ (hw _ (List.mem_of_getElem? (i := 6) rfl))) (mvT hZ (hw _ (List.mem_of_getElem? (i := 7) rfl))) (mvT hZ (hw _ (List.mem_of_getElem? (i := 8) rfl))) (mvT hZ (hw _ (List.mem_of_getElem? (i := 9) rfl))) (by decide) (backOf (W := 1) (rm2 l Z a0 hw [] u (505 : Int32) B h0 n0 O ) hZ (hw _ (List.mem_of_getElem? (i := 9) rfl)) (hw _ (List.mem_of_getElem? (i := 8) rfl)) (by decide) (by decide)) (g := (mkF m 183 #[.val (.int p0), .val (.int p1), .val (.int (p0 &&& (15 : Int32))), .val (.int (505 : Int32)), .val (.ref (u 1))] [(.int (505 : Int32)), (.ref (u 1))])) rfl (by rw [hml]; rfl) (argsL := [(.int (505 : Int32))]) (rest := [(.ref (u 1))]) (lenOf own_pd0 rfl) rfl (by show 2 * 0 + _ ≤ _; exact Nat.le_of_eq rfl) (hb hby at_183) (fun _ _ => ⟨rfl, e142, (by decide : 0 + 0 ≤ _), (by decide : 0 + 0 ≤ _)⟩)
                          dsimp only [Pt.U, Pt.locs, Pt.cells, Pt.slots] at X144 l144 y144 z144 st144 hQ144
                          subst l144 y144 z144
                          obtain ⟨hv144, N144q, e144⟩ := hQ144
                          have N144 := Fr.app N142 N144q
                          obtain rfl : vr144 = some (.ref (u 1)) := hv144.trans (by unfold own_r2; rw [if_neg (by decide : ¬ ((505 : Int32) = (400 : Int32))), if_neg (by decide : ¬ ((505 : Int32) = (401 : Int32))), if_neg (by decide : ¬ ((505 : Int32) = (403 : Int32))), if_neg (by decide : ¬ ((505 : Int32) = (404 : Int32))), if_neg (by decide : ¬ ((505 : Int32) = (429 : Int32))), if_neg (by decide : ¬ ((505 : Int32) = (502 : Int32))), if_neg (by decide : ¬ ((505 : Int32) = (503 : Int32))), if_neg (by decide : ¬ ((505 : Int32) = (504 : Int32)))])
                          obtain ⟨fs, hr, hrun, hended, hW, hsame⟩ := X144.leave (v := some (.int (1 : Int32))) (fun h => by rw [Bd.returns] at h; cases h)
                          refine ⟨_, _, pre143 _ ?_, hrun, hended, _, _, rfl, ?_, ⟨_, rfl⟩, hW, hsame.mono (by decide) (by decide)⟩
                          · show Steps p.tables e below (T142.setTop (mkF m 183 #[.val (.int p0), .val (.int p1), .val (.int (p0 &&& (15 : Int32))), .val (.int (505 : Int32)), .val (.ref (u 1))] [(.int (505 : Int32)), (.ref (u 1))])) _
                            refine st144 _ ?_
                            show Steps p.tables e below (T144.setTop (mkF m 186 #[.val (.int p0), .val (.int p1), .val (.int (p0 &&& (15 : Int32))), .val (.int (505 : Int32)), .val (.ref (u 1))] [(.ref (u 1)), (.ref (u 1))])) _
                            refine Jvm.RoadKit.acmp (g := (mkF m 186 #[.val (.int p0), .val (.int p1), .val (.int (p0 &&& (15 : Int32))), .val (.int (505 : Int32)), .val (.ref (u 1))] [(.ref (u 1)), (.ref (u 1))])) X144 hx rfl rfl rfl (pc0 := 186) (pc' := 189) (same := true) rfl (hb hby at_186) rfl (decide_eq_true rfl) (by decide) (by decide) ?_
                            show Steps p.tables e below (T144.setTop (mkF m 189 #[.val (.int p0), .val (.int p1), .val (.int (p0 &&& (15 : Int32))), .val (.int (505 : Int32)), .val (.ref (u 1))] [])) _
                            refine XS.iconst X144.here hx rfl (hb hby at_189) ?_
                            show Steps p.tables e below (T144.setTop (mkF m 190 #[.val (.int p0), .val (.int p1), .val (.int (p0 &&& (15 : Int32))), .val (.int (505 : Int32)), .val (.ref (u 1))] [(.int (1 : Int32))])) _
                            refine XS.goto X144.here hx rfl (pc0 := 190) (pc' := 194) rfl (hb hby at_190) (by decide) (by decide) ?_
                            show Steps p.tables e below (T144.setTop (mkF m 194 #[.val (.int p0), .val (.int p1), .val (.int (p0 &&& (15 : Int32))), .val (.int (505 : Int32)), .val (.ref (u 1))] [(.int (1 : Int32))])) _
                            exact retN X144 hx (t := .boolean) Bd.returns (by simp) (hb hby at_194) hr
                          · show own_Q0 Z u p0 p1 h0 n0 _ T144.heap _
                            rw [e144]
                            exact ⟨rfl, N144, trivial⟩
                        · --
                          have pre146 : ∀ t, Steps p.tables e below (s₁.setTop (mkF m 157 #[.val (.int p0), .val (.int p1), .val (.int (p0 &&& (15 : Int32))), .unset, .unset] [(.int (12 : Int32)), (.int (p0 &&& (15 : Int32)))])) t → Steps p.tables e below (s₁.setTop (entryFrame m #[(.int p0), (.int p1)] maxLocals)) t := fun t kt => pre139 t (by
                            show Steps p.tables e below (s₁.setTop (mkF m 144 #[.val (.int p0), .val (.int p1), .val (.int (p0 &&& (15 : Int32))), .unset, .unset] [(.int (11 : Int32)), (.int (p0 &&& (15 : Int32)))])) _
                            refine XS.icmpYes X0.here hx rfl (pc0 := 144) (pc' := 154) rfl (hb hby at_144) rfl (feq hc140).2 (by decide) (by decide) ?_
                            show Steps p.tables e below (s₁.setTop (mkF m 154 #[.val (.int p0), .val (.int p1), .val (.int (p0 &&& (15 : Int32))), .unset, .unset] [])) _
                            refine XS.iloadN X0.here hx rfl (hb hby at_154) rfl ?_
                            show Steps p.tables e below (s₁.setTop (mkF m 155 #[.val (.int p0), .val (.int p1), .val (.int (p0 &&& (15 : Int32))), .unset, .unset] [(.int (p0 &&& (15 : Int32)))])) _
                            refine XS.bipush X0.here hx rfl (hb hby at_155) ?_
                            exact kt)
                          by_cases hc147 : (p0 &&& (15 : Int32)) = (12 : Int32)
                          · --
                            have pre148 : ∀ t, Steps p.tables e below (s₁.setTop (mkF m 175 #[.val (.int p0), .val (.int p1), .val (.int (p0 &&& (15 : Int32))), .val (.int ((400 : Int32) + (p1 &&& (127 : Int32)))), .unset] [(.int ((400 : Int32) + (p1 &&& (127 : Int32))))])) t → Steps p.tables e below (s₁.setTop (entryFrame m #[(.int p0), (.int p1)] maxLocals)) t := fun t kt => pre146 t (by
                              show Steps p.tables e below (s₁.setTop (mkF m 157 #[.val (.int p0), .val (.int p1), .val (.int (p0 &&& (15 : Int32))), .unset, .unset] [(.int (12 : Int32)), (.int (p0 &&& (15 : Int32)))])) _
                              refine XS.icmpNo X0.here hx rfl (hb hby at_157) rfl (teq hc147).2 ?_
                              show Steps p.tables e below (s₁.setTop (mkF m 160 #[.val (.int p0), .val (.int p1), .val (.int (p0 &&& (15 : Int32))), .unset, .unset] [])) _
                              refine XS.sipush X0.here hx rfl (hb hby at_160) ?_
                              show Steps p.tables e below (s₁.setTop (mkF m 163 #[.val (.int p0), .val (.int p1), .val (.int (p0 &&& (15 : Int32))), .unset, .unset] [(.int (400 : Int32))])) _
                              refine XS.iloadN X0.here hx rfl (hb hby at_163) rfl ?_
                              show Steps p.tables e below (s₁.setTop (mkF m 164 #[.val (.int p0), .val (.int p1), .val (.int (p0 &&& (15 : Int32))), .unset, .unset] [(.int p1), (.int (400 : Int32))])) _
                              refine XS.bipush X0.here hx rfl (hb hby at_164) ?_
                              show Steps p.tables e below (s₁.setTop (mkF m 166 #[.val (.int p0), .val (.int p1), .val (.int (p0 &&& (15 : Int32))), .unset, .unset] [(.int (127 : Int32)), (.int p1), (.int (400 : Int32))])) _
                              refine XS.iand X0.here hx rfl (hb hby at_166) rfl ?_
                              show Steps p.tables e below (s₁.setTop (mkF m 167 #[.val (.int p0), .val (.int p1), .val (.int (p0 &&& (15 : Int32))), .unset, .unset] [(.int (p1 &&& (127 : Int32))), (.int (400 : Int32))])) _
                              refine XS.iadd X0.here hx rfl (hb hby at_167) rfl ?_
                              show Steps p.tables e below (s₁.setTop (mkF m 168 #[.val (.int p0), .val (.int p1), .val (.int (p0 &&& (15 : Int32))), .unset, .unset] [(.int ((400 : Int32) + (p1 &&& (127 : Int32))))])) _
                              refine XS.istoreN X0.here hx rfl (hb hby at_168) rfl (l' := #[.val (.int p0), .val (.int p1), .val (.int (p0 &&& (15 : Int32))), .val (.int ((400 : Int32) + (p1 &&& (127 : Int32)))), .unset]) rfl ?_
                              show Steps p.tables e below (s₁.setTop (mkF m 169 #[.val (.int p0), .val (.int p1), .val (.int (p0 &&& (15 : Int32))), .val (.int ((400 : Int32) + (p1 &&& (127 : Int32)))), .unset] [])) _
                              refine XS.goto X0.here hx rfl (pc0 := 169) (pc' := 174) rfl (hb hby at_169) (by decide) (by decide) ?_
                              show Steps p.tables e below (s₁.setTop (mkF m 174 #[.val (.int p0), .val (.int p1), .val (.int (p0 &&& (15 : Int32))), .val (.int ((400 : Int32) + (p1 &&& (127 : Int32)))), .unset] [])) _
                              refine XS.iloadN X0.here hx rfl (hb hby at_174) rfl ?_
                              exact kt)
                            obtain ⟨vr149, _, ⟨T149, L149, k149, n149⟩, -, X149, ⟨Lc149, hQ149, l149, y149, z149⟩, st149⟩ := Jvm.LawKit.callS X0 hx (y := (⟨"com/example/trailwire/trailwire/status/StatusCode", "forHttpStatus", "(I)Lcom/example/trailwire/trailwire/status/StatusCode;"⟩ : MethodName)) hown (mvT hZ (hw _ (List.mem_of_getElem? (i := 0) rfl))) (mvT hZ (hw _ (List.mem_of_getElem? (i := 1) rfl))) (mvT hZ (hw _ (List.mem_of_getElem? (i := 2) rfl))) (mvT hZ (hw _ (List.mem_of_getElem? (i := 3) rfl))) (by decide) (backOf (W := 0) (rm1 l Z a0 hw [] u ((400 : Int32) + (p1 &&& (127 : Int32))) B h0 n0 O ) hZ (hw _ (List.mem_of_getElem? (i := 3) rfl)) (hw _ (List.mem_of_getElem? (i := 2) rfl)) (by decide) (by decide)) (g := (mkF m 175 #[.val (.int p0), .val (.int p1), .val (.int (p0 &&& (15 : Int32))), .val (.int ((400 : Int32) + (p1 &&& (127 : Int32)))), .unset] [(.int ((400 : Int32) + (p1 &&& (127 : Int32))))])) rfl (by rw [hml]; rfl) (argsL := [(.int ((400 : Int32) + (p1 &&& (127 : Int32))))]) (rest := []) (lenOf own_pd0 rfl) rfl (by show 2 * 0 + _ ≤ _; exact Nat.le_of_eq rfl) (hb hby at_175) (fun _ _ => ⟨rfl, e0, (by decide : 0 + 0 ≤ _), (by decide : 0 + 0 ≤ _)⟩)
                            dsimp only [Pt.U, Pt.locs, Pt.cells, Pt.slots] at X149 l149 y149 z149 st149 hQ149
                            subst l149 y149 z149
                            obtain ⟨hv149, N149q, e149⟩ := hQ149
                            have N149 := Fr.app N0 N149q
                            by_cases hc150 : ((400 : Int32) + (p1 &&& (127 : Int32))) = (400 : Int32)
                            · --
                              obtain rfl : vr149 = some (.ref (u 0)) := hv149.trans (by unfold own_r1; rw [if_pos hc150])
                              have pre151 : ∀ t, Steps p.tables e below (T149.setTop (mkF m 183 #[.val (.int p0), .val (.int p1), .val (.int (p0 &&& (15 : Int32))), .val (.int ((400 : Int32) + (p1 &&& (127 : Int32)))), .val (.ref (u 0))] [(.int ((400 : Int32) + (p1 &&& (127 : Int32)))), (.ref (u 0))])) t → Steps p.tables e below (s₁.setTop (entryFrame m #[(.int p0), (.int p1)] maxLocals)) t := fun t kt => pre148 t (by
                                show Steps p.tables e below (s₁.setTop (mkF m 175 #[.val (.int p0), .val (.int p1), .val (.int (p0 &&& (15 : Int32))), .val (.int ((400 : Int32) + (p1 &&& (127 : Int32)))), .unset] [(.int ((400 : Int32) + (p1 &&& (127 : Int32))))])) _
                                refine st149 _ ?_
                                show Steps p.tables e below (T149.setTop (mkF m 178 #[.val (.int p0), .val (.int p1), .val (.int (p0 &&& (15 : Int32))), .val (.int ((400 : Int32) + (p1 &&& (127 : Int32)))), .unset] [(.ref (u 0))])) _
                                refine XS.astore X149.here hx rfl (hb hby at_178) rfl rfl (l' := #[.val (.int p0), .val (.int p1), .val (.int (p0 &&& (15 : Int32))), .val (.int ((400 : Int32) + (p1 &&& (127 : Int32)))), .val (.ref (u 0))]) rfl ?_
                                show Steps p.tables e below (T149.setTop (mkF m 180 #[.val (.int p0), .val (.int p1), .val (.int (p0 &&& (15 : Int32))), .val (.int ((400 : Int32) + (p1 &&& (127 : Int32)))), .val (.ref (u 0))] [])) _
                                refine XS.aload X149.here hx rfl (hb hby at_180) rfl rfl ?_
                                show Steps p.tables e below (T149.setTop (mkF m 182 #[.val (.int p0), .val (.int p1), .val (.int (p0 &&& (15 : Int32))), .val (.int ((400 : Int32) + (p1 &&& (127 : Int32)))), .val (.ref (u 0))] [(.ref (u 0))])) _
                                refine XS.iloadN X149.here hx rfl (hb hby at_182) rfl ?_
                                exact kt)
                              obtain ⟨vr152, _, ⟨T152, L152, k152, n152⟩, -, X152, ⟨Lc152, hQ152, l152, y152, z152⟩, st152⟩ := Jvm.LawKit.callS X149 hx (y := (⟨"com/example/trailwire/trailwire/status/StatusCodeForHttpStatusPinLaw", "expected", "(I)Lcom/example/trailwire/trailwire/status/StatusCode;"⟩ : MethodName)) hown (mvT hZ (hw _ (List.mem_of_getElem? (i := 6) rfl))) (mvT hZ (hw _ (List.mem_of_getElem? (i := 7) rfl))) (mvT hZ (hw _ (List.mem_of_getElem? (i := 8) rfl))) (mvT hZ (hw _ (List.mem_of_getElem? (i := 9) rfl))) (by decide) (backOf (W := 1) (rm2 l Z a0 hw [] u ((400 : Int32) + (p1 &&& (127 : Int32))) B h0 n0 O ) hZ (hw _ (List.mem_of_getElem? (i := 9) rfl)) (hw _ (List.mem_of_getElem? (i := 8) rfl)) (by decide) (by decide)) (g := (mkF m 183 #[.val (.int p0), .val (.int p1), .val (.int (p0 &&& (15 : Int32))), .val (.int ((400 : Int32) + (p1 &&& (127 : Int32)))), .val (.ref (u 0))] [(.int ((400 : Int32) + (p1 &&& (127 : Int32)))), (.ref (u 0))])) rfl (by rw [hml]; rfl) (argsL := [(.int ((400 : Int32) + (p1 &&& (127 : Int32))))]) (rest := [(.ref (u 0))]) (lenOf own_pd0 rfl) rfl (by show 2 * 0 + _ ≤ _; exact Nat.le_of_eq rfl) (hb hby at_183) (fun _ _ => ⟨rfl, e149, (by decide : 0 + 0 ≤ _), (by decide : 0 + 0 ≤ _)⟩)
                              dsimp only [Pt.U, Pt.locs, Pt.cells, Pt.slots] at X152 l152 y152 z152 st152 hQ152
                              subst l152 y152 z152
                              obtain ⟨hv152, N152q, e152⟩ := hQ152
                              have N152 := Fr.app N149 N152q
                              obtain rfl : vr152 = some (.ref (u 0)) := hv152.trans (by unfold own_r2; rw [if_pos hc150])
                              obtain ⟨fs, hr, hrun, hended, hW, hsame⟩ := X152.leave (v := some (.int (1 : Int32))) (fun h => by rw [Bd.returns] at h; cases h)
                              refine ⟨_, _, pre151 _ ?_, hrun, hended, _, _, rfl, ?_, ⟨_, rfl⟩, hW, hsame.mono (by decide) (by decide)⟩
                              · show Steps p.tables e below (T149.setTop (mkF m 183 #[.val (.int p0), .val (.int p1), .val (.int (p0 &&& (15 : Int32))), .val (.int ((400 : Int32) + (p1 &&& (127 : Int32)))), .val (.ref (u 0))] [(.int ((400 : Int32) + (p1 &&& (127 : Int32)))), (.ref (u 0))])) _
                                refine st152 _ ?_
                                show Steps p.tables e below (T152.setTop (mkF m 186 #[.val (.int p0), .val (.int p1), .val (.int (p0 &&& (15 : Int32))), .val (.int ((400 : Int32) + (p1 &&& (127 : Int32)))), .val (.ref (u 0))] [(.ref (u 0)), (.ref (u 0))])) _
                                refine Jvm.RoadKit.acmp (g := (mkF m 186 #[.val (.int p0), .val (.int p1), .val (.int (p0 &&& (15 : Int32))), .val (.int ((400 : Int32) + (p1 &&& (127 : Int32)))), .val (.ref (u 0))] [(.ref (u 0)), (.ref (u 0))])) X152 hx rfl rfl rfl (pc0 := 186) (pc' := 189) (same := true) rfl (hb hby at_186) rfl (decide_eq_true rfl) (by decide) (by decide) ?_
                                show Steps p.tables e below (T152.setTop (mkF m 189 #[.val (.int p0), .val (.int p1), .val (.int (p0 &&& (15 : Int32))), .val (.int ((400 : Int32) + (p1 &&& (127 : Int32)))), .val (.ref (u 0))] [])) _
                                refine XS.iconst X152.here hx rfl (hb hby at_189) ?_
                                show Steps p.tables e below (T152.setTop (mkF m 190 #[.val (.int p0), .val (.int p1), .val (.int (p0 &&& (15 : Int32))), .val (.int ((400 : Int32) + (p1 &&& (127 : Int32)))), .val (.ref (u 0))] [(.int (1 : Int32))])) _
                                refine XS.goto X152.here hx rfl (pc0 := 190) (pc' := 194) rfl (hb hby at_190) (by decide) (by decide) ?_
                                show Steps p.tables e below (T152.setTop (mkF m 194 #[.val (.int p0), .val (.int p1), .val (.int (p0 &&& (15 : Int32))), .val (.int ((400 : Int32) + (p1 &&& (127 : Int32)))), .val (.ref (u 0))] [(.int (1 : Int32))])) _
                                exact retN X152 hx (t := .boolean) Bd.returns (by simp) (hb hby at_194) hr
                              · show own_Q0 Z u p0 p1 h0 n0 _ T152.heap _
                                rw [e152]
                                exact ⟨rfl, N152, trivial⟩
                            · --
                              by_cases hc154 : ((400 : Int32) + (p1 &&& (127 : Int32))) = (401 : Int32)
                              · --
                                obtain rfl : vr149 = some (.ref (u 5)) := hv149.trans (by unfold own_r1; rw [if_neg hc150, if_pos hc154])
                                have pre155 : ∀ t, Steps p.tables e below (T149.setTop (mkF m 183 #[.val (.int p0), .val (.int p1), .val (.int (p0 &&& (15 : Int32))), .val (.int ((400 : Int32) + (p1 &&& (127 : Int32)))), .val (.ref (u 5))] [(.int ((400 : Int32) + (p1 &&& (127 : Int32)))), (.ref (u 5))])) t → Steps p.tables e below (s₁.setTop (entryFrame m #[(.int p0), (.int p1)] maxLocals)) t := fun t kt => pre148 t (by
                                  show Steps p.tables e below (s₁.setTop (mkF m 175 #[.val (.int p0), .val (.int p1), .val (.int (p0 &&& (15 : Int32))), .val (.int ((400 : Int32) + (p1 &&& (127 : Int32)))), .unset] [(.int ((400 : Int32) + (p1 &&& (127 : Int32))))])) _
                                  refine st149 _ ?_
                                  show Steps p.tables e below (T149.setTop (mkF m 178 #[.val (.int p0), .val (.int p1), .val (.int (p0 &&& (15 : Int32))), .val (.int ((400 : Int32) + (p1 &&& (127 : Int32)))), .unset] [(.ref (u 5))])) _
                                  refine XS.astore X149.here hx rfl (hb hby at_178) rfl rfl (l' := #[.val (.int p0), .val (.int p1), .val (.int (p0 &&& (15 : Int32))), .val (.int ((400 : Int32) + (p1 &&& (127 : Int32)))), .val (.ref (u 5))]) rfl ?_
                                  show Steps p.tables e below (T149.setTop (mkF m 180 #[.val (.int p0), .val (.int p1), .val (.int (p0 &&& (15 : Int32))), .val (.int ((400 : Int32) + (p1 &&& (127 : Int32)))), .val (.ref (u 5))] [])) _
                                  refine XS.aload X149.here hx rfl (hb hby at_180) rfl rfl ?_
                                  show Steps p.tables e below (T149.setTop (mkF m 182 #[.val (.int p0), .val (.int p1), .val (.int (p0 &&& (15 : Int32))), .val (.int ((400 : Int32) + (p1 &&& (127 : Int32)))), .val (.ref (u 5))] [(.ref (u 5))])) _
                                  refine XS.iloadN X149.here hx rfl (hb hby at_182) rfl ?_
                                  exact kt)
                                obtain ⟨vr156, _, ⟨T156, L156, k156, n156⟩, -, X156, ⟨Lc156, hQ156, l156, y156, z156⟩, st156⟩ := Jvm.LawKit.callS X149 hx (y := (⟨"com/example/trailwire/trailwire/status/StatusCodeForHttpStatusPinLaw", "expected", "(I)Lcom/example/trailwire/trailwire/status/StatusCode;"⟩ : MethodName)) hown (mvT hZ (hw _ (List.mem_of_getElem? (i := 6) rfl))) (mvT hZ (hw _ (List.mem_of_getElem? (i := 7) rfl))) (mvT hZ (hw _ (List.mem_of_getElem? (i := 8) rfl))) (mvT hZ (hw _ (List.mem_of_getElem? (i := 9) rfl))) (by decide) (backOf (W := 1) (rm2 l Z a0 hw [] u ((400 : Int32) + (p1 &&& (127 : Int32))) B h0 n0 O ) hZ (hw _ (List.mem_of_getElem? (i := 9) rfl)) (hw _ (List.mem_of_getElem? (i := 8) rfl)) (by decide) (by decide)) (g := (mkF m 183 #[.val (.int p0), .val (.int p1), .val (.int (p0 &&& (15 : Int32))), .val (.int ((400 : Int32) + (p1 &&& (127 : Int32)))), .val (.ref (u 5))] [(.int ((400 : Int32) + (p1 &&& (127 : Int32)))), (.ref (u 5))])) rfl (by rw [hml]; rfl) (argsL := [(.int ((400 : Int32) + (p1 &&& (127 : Int32))))]) (rest := [(.ref (u 5))]) (lenOf own_pd0 rfl) rfl (by show 2 * 0 + _ ≤ _; exact Nat.le_of_eq rfl) (hb hby at_183) (fun _ _ => ⟨rfl, e149, (by decide : 0 + 0 ≤ _), (by decide : 0 + 0 ≤ _)⟩)
                                dsimp only [Pt.U, Pt.locs, Pt.cells, Pt.slots] at X156 l156 y156 z156 st156 hQ156
                                subst l156 y156 z156
                                obtain ⟨hv156, N156q, e156⟩ := hQ156
                                have N156 := Fr.app N149 N156q
                                obtain rfl : vr156 = some (.ref (u 5)) := hv156.trans (by unfold own_r2; rw [if_neg hc150, if_pos hc154])
                                obtain ⟨fs, hr, hrun, hended, hW, hsame⟩ := X156.leave (v := some (.int (1 : Int32))) (fun h => by rw [Bd.returns] at h; cases h)
                                refine ⟨_, _, pre155 _ ?_, hrun, hended, _, _, rfl, ?_, ⟨_, rfl⟩, hW, hsame.mono (by decide) (by decide)⟩
                                · show Steps p.tables e below (T149.setTop (mkF m 183 #[.val (.int p0), .val (.int p1), .val (.int (p0 &&& (15 : Int32))), .val (.int ((400 : Int32) + (p1 &&& (127 : Int32)))), .val (.ref (u 5))] [(.int ((400 : Int32) + (p1 &&& (127 : Int32)))), (.ref (u 5))])) _
                                  refine st156 _ ?_
                                  show Steps p.tables e below (T156.setTop (mkF m 186 #[.val (.int p0), .val (.int p1), .val (.int (p0 &&& (15 : Int32))), .val (.int ((400 : Int32) + (p1 &&& (127 : Int32)))), .val (.ref (u 5))] [(.ref (u 5)), (.ref (u 5))])) _
                                  refine Jvm.RoadKit.acmp (g := (mkF m 186 #[.val (.int p0), .val (.int p1), .val (.int (p0 &&& (15 : Int32))), .val (.int ((400 : Int32) + (p1 &&& (127 : Int32)))), .val (.ref (u 5))] [(.ref (u 5)), (.ref (u 5))])) X156 hx rfl rfl rfl (pc0 := 186) (pc' := 189) (same := true) rfl (hb hby at_186) rfl (decide_eq_true rfl) (by decide) (by decide) ?_
                                  show Steps p.tables e below (T156.setTop (mkF m 189 #[.val (.int p0), .val (.int p1), .val (.int (p0 &&& (15 : Int32))), .val (.int ((400 : Int32) + (p1 &&& (127 : Int32)))), .val (.ref (u 5))] [])) _
                                  refine XS.iconst X156.here hx rfl (hb hby at_189) ?_
                                  show Steps p.tables e below (T156.setTop (mkF m 190 #[.val (.int p0), .val (.int p1), .val (.int (p0 &&& (15 : Int32))), .val (.int ((400 : Int32) + (p1 &&& (127 : Int32)))), .val (.ref (u 5))] [(.int (1 : Int32))])) _
                                  refine XS.goto X156.here hx rfl (pc0 := 190) (pc' := 194) rfl (hb hby at_190) (by decide) (by decide) ?_
                                  show Steps p.tables e below (T156.setTop (mkF m 194 #[.val (.int p0), .val (.int p1), .val (.int (p0 &&& (15 : Int32))), .val (.int ((400 : Int32) + (p1 &&& (127 : Int32)))), .val (.ref (u 5))] [(.int (1 : Int32))])) _
                                  exact retN X156 hx (t := .boolean) Bd.returns (by simp) (hb hby at_194) hr
                                · show own_Q0 Z u p0 p1 h0 n0 _ T156.heap _
                                  rw [e156]
                                  exact ⟨rfl, N156, trivial⟩
                              · --
                                by_cases hc158 : ((400 : Int32) + (p1 &&& (127 : Int32))) = (403 : Int32)
                                · --
                                  obtain rfl : vr149 = some (.ref (u 2)) := hv149.trans (by unfold own_r1; rw [if_neg hc150, if_neg hc154, if_pos hc158])
                                  have pre159 : ∀ t, Steps p.tables e below (T149.setTop (mkF m 183 #[.val (.int p0), .val (.int p1), .val (.int (p0 &&& (15 : Int32))), .val (.int ((400 : Int32) + (p1 &&& (127 : Int32)))), .val (.ref (u 2))] [(.int ((400 : Int32) + (p1 &&& (127 : Int32)))), (.ref (u 2))])) t → Steps p.tables e below (s₁.setTop (entryFrame m #[(.int p0), (.int p1)] maxLocals)) t := fun t kt => pre148 t (by
                                    show Steps p.tables e below (s₁.setTop (mkF m 175 #[.val (.int p0), .val (.int p1), .val (.int (p0 &&& (15 : Int32))), .val (.int ((400 : Int32) + (p1 &&& (127 : Int32)))), .unset] [(.int ((400 : Int32) + (p1 &&& (127 : Int32))))])) _
                                    refine st149 _ ?_
                                    show Steps p.tables e below (T149.setTop (mkF m 178 #[.val (.int p0), .val (.int p1), .val (.int (p0 &&& (15 : Int32))), .val (.int ((400 : Int32) + (p1 &&& (127 : Int32)))), .unset] [(.ref (u 2))])) _
                                    refine XS.astore X149.here hx rfl (hb hby at_178) rfl rfl (l' := #[.val (.int p0), .val (.int p1), .val (.int (p0 &&& (15 : Int32))), .val (.int ((400 : Int32) + (p1 &&& (127 : Int32)))), .val (.ref (u 2))]) rfl ?_
                                    show Steps p.tables e below (T149.setTop (mkF m 180 #[.val (.int p0), .val (.int p1), .val (.int (p0 &&& (15 : Int32))), .val (.int ((400 : Int32) + (p1 &&& (127 : Int32)))), .val (.ref (u 2))] [])) _
                                    refine XS.aload X149.here hx rfl (hb hby at_180) rfl rfl ?_
                                    show Steps p.tables e below (T149.setTop (mkF m 182 #[.val (.int p0), .val (.int p1), .val (.int (p0 &&& (15 : Int32))), .val (.int ((400 : Int32) + (p1 &&& (127 : Int32)))), .val (.ref (u 2))] [(.ref (u 2))])) _
                                    refine XS.iloadN X149.here hx rfl (hb hby at_182) rfl ?_
                                    exact kt)
                                  obtain ⟨vr160, _, ⟨T160, L160, k160, n160⟩, -, X160, ⟨Lc160, hQ160, l160, y160, z160⟩, st160⟩ := Jvm.LawKit.callS X149 hx (y := (⟨"com/example/trailwire/trailwire/status/StatusCodeForHttpStatusPinLaw", "expected", "(I)Lcom/example/trailwire/trailwire/status/StatusCode;"⟩ : MethodName)) hown (mvT hZ (hw _ (List.mem_of_getElem? (i := 6) rfl))) (mvT hZ (hw _ (List.mem_of_getElem? (i := 7) rfl))) (mvT hZ (hw _ (List.mem_of_getElem? (i := 8) rfl))) (mvT hZ (hw _ (List.mem_of_getElem? (i := 9) rfl))) (by decide) (backOf (W := 1) (rm2 l Z a0 hw [] u ((400 : Int32) + (p1 &&& (127 : Int32))) B h0 n0 O ) hZ (hw _ (List.mem_of_getElem? (i := 9) rfl)) (hw _ (List.mem_of_getElem? (i := 8) rfl)) (by decide) (by decide)) (g := (mkF m 183 #[.val (.int p0), .val (.int p1), .val (.int (p0 &&& (15 : Int32))), .val (.int ((400 : Int32) + (p1 &&& (127 : Int32)))), .val (.ref (u 2))] [(.int ((400 : Int32) + (p1 &&& (127 : Int32)))), (.ref (u 2))])) rfl (by rw [hml]; rfl) (argsL := [(.int ((400 : Int32) + (p1 &&& (127 : Int32))))]) (rest := [(.ref (u 2))]) (lenOf own_pd0 rfl) rfl (by show 2 * 0 + _ ≤ _; exact Nat.le_of_eq rfl) (hb hby at_183) (fun _ _ => ⟨rfl, e149, (by decide : 0 + 0 ≤ _), (by decide : 0 + 0 ≤ _)⟩)
                                  dsimp only [Pt.U, Pt.locs, Pt.cells, Pt.slots] at X160 l160 y160 z160 st160 hQ160
                                  subst l160 y160 z160
                                  obtain ⟨hv160, N160q, e160⟩ := hQ160
                                  have N160 := Fr.app N149 N160q
                                  obtain rfl : vr160 = some (.ref (u 2)) := hv160.trans (by unfold own_r2; rw [if_neg hc150, if_neg hc154, if_pos hc158])
                                  obtain ⟨fs, hr, hrun, hended, hW, hsame⟩ := X160.leave (v := some (.int (1 : Int32))) (fun h => by rw [Bd.returns] at h; cases h)
                                  refine ⟨_, _, pre159 _ ?_, hrun, hended, _, _, rfl, ?_, ⟨_, rfl⟩, hW, hsame.mono (by decide) (by decide)⟩
                                  · show Steps p.tables e below (T149.setTop (mkF m 183 #[.val (.int p0), .val (.int p1), .val (.int (p0 &&& (15 : Int32))), .val (.int ((400 : Int32) + (p1 &&& (127 : Int32)))), .val (.ref (u 2))] [(.int ((400 : Int32) + (p1 &&& (127 : Int32)))), (.ref (u 2))])) _
                                    refine st160 _ ?_
                                    show Steps p.tables e below (T160.setTop (mkF m 186 #[.val (.int p0), .val (.int p1), .val (.int (p0 &&& (15 : Int32))), .val (.int ((400 : Int32) + (p1 &&& (127 : Int32)))), .val (.ref (u 2))] [(.ref (u 2)), (.ref (u 2))])) _
                                    refine Jvm.RoadKit.acmp (g := (mkF m 186 #[.val (.int p0), .val (.int p1), .val (.int (p0 &&& (15 : Int32))), .val (.int ((400 : Int32) + (p1 &&& (127 : Int32)))), .val (.ref (u 2))] [(.ref (u 2)), (.ref (u 2))])) X160 hx rfl rfl rfl (pc0 := 186) (pc' := 189) (same := true) rfl (hb hby at_186) rfl (decide_eq_true rfl) (by decide) (by decide) ?_
                                    show Steps p.tables e below (T160.setTop (mkF m 189 #[.val (.int p0), .val (.int p1), .val (.int (p0 &&& (15 : Int32))), .val (.int ((400 : Int32) + (p1 &&& (127 : Int32)))), .val (.ref (u 2))] [])) _
                                    refine XS.iconst X160.here hx rfl (hb hby at_189) ?_
                                    show Steps p.tables e below (T160.setTop (mkF m 190 #[.val (.int p0), .val (.int p1), .val (.int (p0 &&& (15 : Int32))), .val (.int ((400 : Int32) + (p1 &&& (127 : Int32)))), .val (.ref (u 2))] [(.int (1 : Int32))])) _
                                    refine XS.goto X160.here hx rfl (pc0 := 190) (pc' := 194) rfl (hb hby at_190) (by decide) (by decide) ?_
                                    show Steps p.tables e below (T160.setTop (mkF m 194 #[.val (.int p0), .val (.int p1), .val (.int (p0 &&& (15 : Int32))), .val (.int ((400 : Int32) + (p1 &&& (127 : Int32)))), .val (.ref (u 2))] [(.int (1 : Int32))])) _
                                    exact retN X160 hx (t := .boolean) Bd.returns (by simp) (hb hby at_194) hr
                                  · show own_Q0 Z u p0 p1 h0 n0 _ T160.heap _
                                    rw [e160]
                                    exact ⟨rfl, N160, trivial⟩
                                · --
                                  by_cases hc162 : ((400 : Int32) + (p1 &&& (127 : Int32))) = (404 : Int32)
                                  · --
                                    obtain rfl : vr149 = some (.ref (u 4)) := hv149.trans (by unfold own_r1; rw [if_neg hc150, if_neg hc154, if_neg hc158, if_pos hc162])
                                    have pre163 : ∀ t, Steps p.tables e below (T149.setTop (mkF m 183 #[.val (.int p0), .val (.int p1), .val (.int (p0 &&& (15 : Int32))), .val (.int ((400 : Int32) + (p1 &&& (127 : Int32)))), .val (.ref (u 4))] [(.int ((400 : Int32) + (p1 &&& (127 : Int32)))), (.ref (u 4))])) t → Steps p.tables e below (s₁.setTop (entryFrame m #[(.int p0), (.int p1)] maxLocals)) t := fun t kt => pre148 t (by
                                      show Steps p.tables e below (s₁.setTop (mkF m 175 #[.val (.int p0), .val (.int p1), .val (.int (p0 &&& (15 : Int32))), .val (.int ((400 : Int32) + (p1 &&& (127 : Int32)))), .unset] [(.int ((400 : Int32) + (p1 &&& (127 : Int32))))])) _
                                      refine st149 _ ?_
                                      show Steps p.tables e below (T149.setTop (mkF m 178 #[.val (.int p0), .val (.int p1), .val (.int (p0 &&& (15 : Int32))), .val (.int ((400 : Int32) + (p1 &&& (127 : Int32)))), .unset] [(.ref (u 4))])) _
                                      refine XS.astore X149.here hx rfl (hb hby at_178) rfl rfl (l' := #[.val (.int p0), .val (.int p1), .val (.int (p0 &&& (15 : Int32))), .val (.int ((400 : Int32) + (p1 &&& (127 : Int32)))), .val (.ref (u 4))]) rfl ?_
                                      show Steps p.tables e below (T149.setTop (mkF m 180 #[.val (.int p0), .val (.int p1), .val (.int (p0 &&& (15 : Int32))), .val (.int ((400 : Int32) + (p1 &&& (127 : Int32)))), .val (.ref (u 4))] [])) _
                                      refine XS.aload X149.here hx rfl (hb hby at_180) rfl rfl ?_
                                      show Steps p.tables e below (T149.setTop (mkF m 182 #[.val (.int p0), .val (.int p1), .val (.int (p0 &&& (15 : Int32))), .val (.int ((400 : Int32) + (p1 &&& (127 : Int32)))), .val (.ref (u 4))] [(.ref (u 4))])) _
                                      refine XS.iloadN X149.here hx rfl (hb hby at_182) rfl ?_
                                      exact kt)
                                    obtain ⟨vr164, _, ⟨T164, L164, k164, n164⟩, -, X164, ⟨Lc164, hQ164, l164, y164, z164⟩, st164⟩ := Jvm.LawKit.callS X149 hx (y := (⟨"com/example/trailwire/trailwire/status/StatusCodeForHttpStatusPinLaw", "expected", "(I)Lcom/example/trailwire/trailwire/status/StatusCode;"⟩ : MethodName)) hown (mvT hZ (hw _ (List.mem_of_getElem? (i := 6) rfl))) (mvT hZ (hw _ (List.mem_of_getElem? (i := 7) rfl))) (mvT hZ (hw _ (List.mem_of_getElem? (i := 8) rfl))) (mvT hZ (hw _ (List.mem_of_getElem? (i := 9) rfl))) (by decide) (backOf (W := 1) (rm2 l Z a0 hw [] u ((400 : Int32) + (p1 &&& (127 : Int32))) B h0 n0 O ) hZ (hw _ (List.mem_of_getElem? (i := 9) rfl)) (hw _ (List.mem_of_getElem? (i := 8) rfl)) (by decide) (by decide)) (g := (mkF m 183 #[.val (.int p0), .val (.int p1), .val (.int (p0 &&& (15 : Int32))), .val (.int ((400 : Int32) + (p1 &&& (127 : Int32)))), .val (.ref (u 4))] [(.int ((400 : Int32) + (p1 &&& (127 : Int32)))), (.ref (u 4))])) rfl (by rw [hml]; rfl) (argsL := [(.int ((400 : Int32) + (p1 &&& (127 : Int32))))]) (rest := [(.ref (u 4))]) (lenOf own_pd0 rfl) rfl (by show 2 * 0 + _ ≤ _; exact Nat.le_of_eq rfl) (hb hby at_183) (fun _ _ => ⟨rfl, e149, (by decide : 0 + 0 ≤ _), (by decide : 0 + 0 ≤ _)⟩)
                                    dsimp only [Pt.U, Pt.locs, Pt.cells, Pt.slots] at X164 l164 y164 z164 st164 hQ164
                                    subst l164 y164 z164
                                    obtain ⟨hv164, N164q, e164⟩ := hQ164
                                    have N164 := Fr.app N149 N164q
                                    obtain rfl : vr164 = some (.ref (u 4)) := hv164.trans (by unfold own_r2; rw [if_neg hc150, if_neg hc154, if_neg hc158, if_pos hc162])
                                    obtain ⟨fs, hr, hrun, hended, hW, hsame⟩ := X164.leave (v := some (.int (1 : Int32))) (fun h => by rw [Bd.returns] at h; cases h)
                                    refine ⟨_, _, pre163 _ ?_, hrun, hended, _, _, rfl, ?_, ⟨_, rfl⟩, hW, hsame.mono (by decide) (by decide)⟩
                                    · show Steps p.tables e below (T149.setTop (mkF m 183 #[.val (.int p0), .val (.int p1), .val (.int (p0 &&& (15 : Int32))), .val (.int ((400 : Int32) + (p1 &&& (127 : Int32)))), .val (.ref (u 4))] [(.int ((400 : Int32) + (p1 &&& (127 : Int32)))), (.ref (u 4))])) _
                                      refine st164 _ ?_
                                      show Steps p.tables e below (T164.setTop (mkF m 186 #[.val (.int p0), .val (.int p1), .val (.int (p0 &&& (15 : Int32))), .val (.int ((400 : Int32) + (p1 &&& (127 : Int32)))), .val (.ref (u 4))] [(.ref (u 4)), (.ref (u 4))])) _
                                      refine Jvm.RoadKit.acmp (g := (mkF m 186 #[.val (.int p0), .val (.int p1), .val (.int (p0 &&& (15 : Int32))), .val (.int ((400 : Int32) + (p1 &&& (127 : Int32)))), .val (.ref (u 4))] [(.ref (u 4)), (.ref (u 4))])) X164 hx rfl rfl rfl (pc0 := 186) (pc' := 189) (same := true) rfl (hb hby at_186) rfl (decide_eq_true rfl) (by decide) (by decide) ?_
                                      show Steps p.tables e below (T164.setTop (mkF m 189 #[.val (.int p0), .val (.int p1), .val (.int (p0 &&& (15 : Int32))), .val (.int ((400 : Int32) + (p1 &&& (127 : Int32)))), .val (.ref (u 4))] [])) _
                                      refine XS.iconst X164.here hx rfl (hb hby at_189) ?_
                                      show Steps p.tables e below (T164.setTop (mkF m 190 #[.val (.int p0), .val (.int p1), .val (.int (p0 &&& (15 : Int32))), .val (.int ((400 : Int32) + (p1 &&& (127 : Int32)))), .val (.ref (u 4))] [(.int (1 : Int32))])) _
                                      refine XS.goto X164.here hx rfl (pc0 := 190) (pc' := 194) rfl (hb hby at_190) (by decide) (by decide) ?_
                                      show Steps p.tables e below (T164.setTop (mkF m 194 #[.val (.int p0), .val (.int p1), .val (.int (p0 &&& (15 : Int32))), .val (.int ((400 : Int32) + (p1 &&& (127 : Int32)))), .val (.ref (u 4))] [(.int (1 : Int32))])) _
                                      exact retN X164 hx (t := .boolean) Bd.returns (by simp) (hb hby at_194) hr
                                    · show own_Q0 Z u p0 p1 h0 n0 _ T164.heap _
                                      rw [e164]
                                      exact ⟨rfl, N164, trivial⟩
                                  · --
                                    by_cases hc166 : ((400 : Int32) + (p1 &&& (127 : Int32))) = (429 : Int32)
                                    · --
                                      obtain rfl : vr149 = some (.ref (u 3)) := hv149.trans (by unfold own_r1; rw [if_neg hc150, if_neg hc154, if_neg hc158, if_neg hc162, if_pos hc166])
                                      have pre167 : ∀ t, Steps p.tables e below (T149.setTop (mkF m 183 #[.val (.int p0), .val (.int p1), .val (.int (p0 &&& (15 : Int32))), .val (.int ((400 : Int32) + (p1 &&& (127 : Int32)))), .val (.ref (u 3))] [(.int ((400 : Int32) + (p1 &&& (127 : Int32)))), (.ref (u 3))])) t → Steps p.tables e below (s₁.setTop (entryFrame m #[(.int p0), (.int p1)] maxLocals)) t := fun t kt => pre148 t (by
                                        show Steps p.tables e below (s₁.setTop (mkF m 175 #[.val (.int p0), .val (.int p1), .val (.int (p0 &&& (15 : Int32))), .val (.int ((400 : Int32) + (p1 &&& (127 : Int32)))), .unset] [(.int ((400 : Int32) + (p1 &&& (127 : Int32))))])) _
                                        refine st149 _ ?_
                                        show Steps p.tables e below (T149.setTop (mkF m 178 #[.val (.int p0), .val (.int p1), .val (.int (p0 &&& (15 : Int32))), .val (.int ((400 : Int32) + (p1 &&& (127 : Int32)))), .unset] [(.ref (u 3))])) _
                                        refine XS.astore X149.here hx rfl (hb hby at_178) rfl rfl (l' := #[.val (.int p0), .val (.int p1), .val (.int (p0 &&& (15 : Int32))), .val (.int ((400 : Int32) + (p1 &&& (127 : Int32)))), .val (.ref (u 3))]) rfl ?_
                                        show Steps p.tables e below (T149.setTop (mkF m 180 #[.val (.int p0), .val (.int p1), .val (.int (p0 &&& (15 : Int32))), .val (.int ((400 : Int32) + (p1 &&& (127 : Int32)))), .val (.ref (u 3))] [])) _
                                        refine XS.aload X149.here hx rfl (hb hby at_180) rfl rfl ?_
                                        show Steps p.tables e below (T149.setTop (mkF m 182 #[.val (.int p0), .val (.int p1), .val (.int (p0 &&& (15 : Int32))), .val (.int ((400 : Int32) + (p1 &&& (127 : Int32)))), .val (.ref (u 3))] [(.ref (u 3))])) _
                                        refine XS.iloadN X149.here hx rfl (hb hby at_182) rfl ?_
                                        exact kt)
                                      obtain ⟨vr168, _, ⟨T168, L168, k168, n168⟩, -, X168, ⟨Lc168, hQ168, l168, y168, z168⟩, st168⟩ := Jvm.LawKit.callS X149 hx (y := (⟨"com/example/trailwire/trailwire/status/StatusCodeForHttpStatusPinLaw", "expected", "(I)Lcom/example/trailwire/trailwire/status/StatusCode;"⟩ : MethodName)) hown (mvT hZ (hw _ (List.mem_of_getElem? (i := 6) rfl))) (mvT hZ (hw _ (List.mem_of_getElem? (i := 7) rfl))) (mvT hZ (hw _ (List.mem_of_getElem? (i := 8) rfl))) (mvT hZ (hw _ (List.mem_of_getElem? (i := 9) rfl))) (by decide) (backOf (W := 1) (rm2 l Z a0 hw [] u ((400 : Int32) + (p1 &&& (127 : Int32))) B h0 n0 O ) hZ (hw _ (List.mem_of_getElem? (i := 9) rfl)) (hw _ (List.mem_of_getElem? (i := 8) rfl)) (by decide) (by decide)) (g := (mkF m 183 #[.val (.int p0), .val (.int p1), .val (.int (p0 &&& (15 : Int32))), .val (.int ((400 : Int32) + (p1 &&& (127 : Int32)))), .val (.ref (u 3))] [(.int ((400 : Int32) + (p1 &&& (127 : Int32)))), (.ref (u 3))])) rfl (by rw [hml]; rfl) (argsL := [(.int ((400 : Int32) + (p1 &&& (127 : Int32))))]) (rest := [(.ref (u 3))]) (lenOf own_pd0 rfl) rfl (by show 2 * 0 + _ ≤ _; exact Nat.le_of_eq rfl) (hb hby at_183) (fun _ _ => ⟨rfl, e149, (by decide : 0 + 0 ≤ _), (by decide : 0 + 0 ≤ _)⟩)
                                      dsimp only [Pt.U, Pt.locs, Pt.cells, Pt.slots] at X168 l168 y168 z168 st168 hQ168
                                      subst l168 y168 z168
                                      obtain ⟨hv168, N168q, e168⟩ := hQ168
                                      have N168 := Fr.app N149 N168q
                                      obtain rfl : vr168 = some (.ref (u 3)) := hv168.trans (by unfold own_r2; rw [if_neg hc150, if_neg hc154, if_neg hc158, if_neg hc162, if_pos hc166])
                                      obtain ⟨fs, hr, hrun, hended, hW, hsame⟩ := X168.leave (v := some (.int (1 : Int32))) (fun h => by rw [Bd.returns] at h; cases h)
                                      refine ⟨_, _, pre167 _ ?_, hrun, hended, _, _, rfl, ?_, ⟨_, rfl⟩, hW, hsame.mono (by decide) (by decide)⟩
                                      · show Steps p.tables e below (T149.setTop (mkF m 183 #[.val (.int p0), .val (.int p1), .val (.int (p0 &&& (15 : Int32))), .val (.int ((400 : Int32) + (p1 &&& (127 : Int32)))), .val (.ref (u 3))] [(.int ((400 : Int32) + (p1 &&& (127 : Int32)))), (.ref (u 3))])) _
                                        refine st168 _ ?_
                                        show Steps p.tables e below (T168.setTop (mkF m 186 #[.val (.int p0), .val (.int p1), .val (.int (p0 &&& (15 : Int32))), .val (.int ((400 : Int32) + (p1 &&& (127 : Int32)))), .val (.ref (u 3))] [(.ref (u 3)), (.ref (u 3))])) _
                                        refine Jvm.RoadKit.acmp (g := (mkF m 186 #[.val (.int p0), .val (.int p1), .val (.int (p0 &&& (15 : Int32))), .val (.int ((400 : Int32) + (p1 &&& (127 : Int32)))), .val (.ref (u 3))] [(.ref (u 3)), (.ref (u 3))])) X168 hx rfl rfl rfl (pc0 := 186) (pc' := 189) (same := true) rfl (hb hby at_186) rfl (decide_eq_true rfl) (by decide) (by decide) ?_
                                        show Steps p.tables e below (T168.setTop (mkF m 189 #[.val (.int p0), .val (.int p1), .val (.int (p0 &&& (15 : Int32))), .val (.int ((400 : Int32) + (p1 &&& (127 : Int32)))), .val (.ref (u 3))] [])) _
                                        refine XS.iconst X168.here hx rfl (hb hby at_189) ?_
                                        show Steps p.tables e below (T168.setTop (mkF m 190 #[.val (.int p0), .val (.int p1), .val (.int (p0 &&& (15 : Int32))), .val (.int ((400 : Int32) + (p1 &&& (127 : Int32)))), .val (.ref (u 3))] [(.int (1 : Int32))])) _
                                        refine XS.goto X168.here hx rfl (pc0 := 190) (pc' := 194) rfl (hb hby at_190) (by decide) (by decide) ?_
                                        show Steps p.tables e below (T168.setTop (mkF m 194 #[.val (.int p0), .val (.int p1), .val (.int (p0 &&& (15 : Int32))), .val (.int ((400 : Int32) + (p1 &&& (127 : Int32)))), .val (.ref (u 3))] [(.int (1 : Int32))])) _
                                        exact retN X168 hx (t := .boolean) Bd.returns (by simp) (hb hby at_194) hr
                                      · show own_Q0 Z u p0 p1 h0 n0 _ T168.heap _
                                        rw [e168]
                                        exact ⟨rfl, N168, trivial⟩
                                    · --
                                      by_cases hc170 : ((400 : Int32) + (p1 &&& (127 : Int32))) = (502 : Int32)
                                      · --
                                        obtain rfl : vr149 = some (.ref (u 3)) := hv149.trans (by unfold own_r1; rw [if_neg hc150, if_neg hc154, if_neg hc158, if_neg hc162, if_neg hc166, if_pos hc170])
                                        have pre171 : ∀ t, Steps p.tables e below (T149.setTop (mkF m 183 #[.val (.int p0), .val (.int p1), .val (.int (p0 &&& (15 : Int32))), .val (.int ((400 : Int32) + (p1 &&& (127 : Int32)))), .val (.ref (u 3))] [(.int ((400 : Int32) + (p1 &&& (127 : Int32)))), (.ref (u 3))])) t → Steps p.tables e below (s₁.setTop (entryFrame m #[(.int p0), (.int p1)] maxLocals)) t := fun t kt => pre148 t (by
                                          show Steps p.tables e below (s₁.setTop (mkF m 175 #[.val (.int p0), .val (.int p1), .val (.int (p0 &&& (15 : Int32))), .val (.int ((400 : Int32) + (p1 &&& (127 : Int32)))), .unset] [(.int ((400 : Int32) + (p1 &&& (127 : Int32))))])) _
                                          refine st149 _ ?_
                                          show Steps p.tables e below (T149.setTop (mkF m 178 #[.val (.int p0), .val (.int p1), .val (.int (p0 &&& (15 : Int32))), .val (.int ((400 : Int32) + (p1 &&& (127 : Int32)))), .unset] [(.ref (u 3))])) _
                                          refine XS.astore X149.here hx rfl (hb hby at_178) rfl rfl (l' := #[.val (.int p0), .val (.int p1), .val (.int (p0 &&& (15 : Int32))), .val (.int ((400 : Int32) + (p1 &&& (127 : Int32)))), .val (.ref (u 3))]) rfl ?_
                                          show Steps p.tables e below (T149.setTop (mkF m 180 #[.val (.int p0), .val (.int p1), .val (.int (p0 &&& (15 : Int32))), .val (.int ((400 : Int32) + (p1 &&& (127 : Int32)))), .val (.ref (u 3))] [])) _
                                          refine XS.aload X149.here hx rfl (hb hby at_180) rfl rfl ?_
                                          show Steps p.tables e below (T149.setTop (mkF m 182 #[.val (.int p0), .val (.int p1), .val (.int (p0 &&& (15 : Int32))), .val (.int ((400 : Int32) + (p1 &&& (127 : Int32)))), .val (.ref (u 3))] [(.ref (u 3))])) _
                                          refine XS.iloadN X149.here hx rfl (hb hby at_182) rfl ?_
                                          exact kt)
                                        obtain ⟨vr172, _, ⟨T172, L172, k172, n172⟩, -, X172, ⟨Lc172, hQ172, l172, y172, z172⟩, st172⟩ := Jvm.LawKit.callS X149 hx (y := (⟨"com/example/trailwire/trailwire/status/StatusCodeForHttpStatusPinLaw", "expected", "(I)Lcom/example/trailwire/trailwire/status/StatusCode;"⟩ : MethodName)) hown (mvT hZ (hw _ (List.mem_of_getElem? (i := 6) rfl))) (mvT hZ (hw _ (List.mem_of_getElem? (i := 7) rfl))) (mvT hZ (hw _ (List.mem_of_getElem? (i := 8) rfl))) (mvT hZ (hw _ (List.mem_of_getElem? (i := 9) rfl))) (by decide) (backOf (W := 1) (rm2 l Z a0 hw [] u ((400 : Int32) + (p1 &&& (127 : Int32))) B h0 n0 O ) hZ (hw _ (List.mem_of_getElem? (i := 9) rfl)) (hw _ (List.mem_of_getElem? (i := 8) rfl)) (by decide) (by decide)) (g := (mkF m 183 #[.val (.int p0), .val (.int p1), .val (.int (p0 &&& (15 : Int32))), .val (.int ((400 : Int32) + (p1 &&& (127 : Int32)))), .val (.ref (u 3))] [(.int ((400 : Int32) + (p1 &&& (127 : Int32)))), (.ref (u 3))])) rfl (by rw [hml]; rfl) (argsL := [(.int ((400 : Int32) + (p1 &&& (127 : Int32))))]) (rest := [(.ref (u 3))]) (lenOf own_pd0 rfl) rfl (by show 2 * 0 + _ ≤ _; exact Nat.le_of_eq rfl) (hb hby at_183) (fun _ _ => ⟨rfl, e149, (by decide : 0 + 0 ≤ _), (by decide : 0 + 0 ≤ _)⟩)
                                        dsimp only [Pt.U, Pt.locs, Pt.cells, Pt.slots] at X172 l172 y172 z172 st172 hQ172
                                        subst l172 y172 z172
                                        obtain ⟨hv172, N172q, e172⟩ := hQ172
                                        have N172 := Fr.app N149 N172q
                                        obtain rfl : vr172 = some (.ref (u 3)) := hv172.trans (by unfold own_r2; rw [if_neg hc150, if_neg hc154, if_neg hc158, if_neg hc162, if_neg hc166, if_pos hc170])
                                        obtain ⟨fs, hr, hrun, hended, hW, hsame⟩ := X172.leave (v := some (.int (1 : Int32))) (fun h => by rw [Bd.returns] at h; cases h)
                                        refine ⟨_, _, pre171 _ ?_, hrun, hended, _, _, rfl, ?_, ⟨_, rfl⟩, hW, hsame.mono (by decide) (by decide)⟩
                                        · show Steps p.tables e below (T149.setTop (mkF m 183 #[.val (.int p0), .val (.int p1), .val (.int (p0 &&& (15 : Int32))), .val (.int ((400 : Int32) + (p1 &&& (127 : Int32)))), .val (.ref (u 3))] [(.int ((400 : Int32) + (p1 &&& (127 : Int32)))), (.ref (u 3))])) _
                                          refine st172 _ ?_
                                          show Steps p.tables e below (T172.setTop (mkF m 186 #[.val (.int p0), .val (.int p1), .val (.int (p0 &&& (15 : Int32))), .val (.int ((400 : Int32) + (p1 &&& (127 : Int32)))), .val (.ref (u 3))] [(.ref (u 3)), (.ref (u 3))])) _
                                          refine Jvm.RoadKit.acmp (g := (mkF m 186 #[.val (.int p0), .val (.int p1), .val (.int (p0 &&& (15 : Int32))), .val (.int ((400 : Int32) + (p1 &&& (127 : Int32)))), .val (.ref (u 3))] [(.ref (u 3)), (.ref (u 3))])) X172 hx rfl rfl rfl (pc0 := 186) (pc' := 189) (same := true) rfl (hb hby at_186) rfl (decide_eq_true rfl) (by decide) (by decide) ?_
                                          show Steps p.tables e below (T172.setTop (mkF m 189 #[.val (.int p0), .val (.int p1), .val (.int (p0 &&& (15 : Int32))), .val (.int ((400 : Int32) + (p1 &&& (127 : Int32)))), .val (.ref (u 3))] [])) _
                                          refine XS.iconst X172.here hx rfl (hb hby at_189) ?_
                                          show Steps p.tables e below (T172.setTop (mkF m 190 #[.val (.int p0), .val (.int p1), .val (.int (p0 &&& (15 : Int32))), .val (.int ((400 : Int32) + (p1 &&& (127 : Int32)))), .val (.ref (u 3))] [(.int (1 : Int32))])) _
                                          refine XS.goto X172.here hx rfl (pc0 := 190) (pc' := 194) rfl (hb hby at_190) (by decide) (by decide) ?_
                                          show Steps p.tables e below (T172.setTop (mkF m 194 #[.val (.int p0), .val (.int p1), .val (.int (p0 &&& (15 : Int32))), .val (.int ((400 : Int32) + (p1 &&& (127 : Int32)))), .val (.ref (u 3))] [(.int (1 : Int32))])) _
                                          exact retN X172 hx (t := .boolean) Bd.returns (by simp) (hb hby at_194) hr
                                        · show own_Q0 Z u p0 p1 h0 n0 _ T172.heap _
                                          rw [e172]
                                          exact ⟨rfl, N172, trivial⟩
                                      · --
                                        by_cases hc174 : ((400 : Int32) + (p1 &&& (127 : Int32))) = (503 : Int32)
                                        · --
                                          obtain rfl : vr149 = some (.ref (u 3)) := hv149.trans (by unfold own_r1; rw [if_neg hc150, if_neg hc154, if_neg hc158, if_neg hc162, if_neg hc166, if_neg hc170, if_pos hc174])
                                          have pre175 : ∀ t, Steps p.tables e below (T149.setTop (mkF m 183 #[.val (.int p0), .val (.int p1), .val (.int (p0 &&& (15 : Int32))), .val (.int ((400 : Int32) + (p1 &&& (127 : Int32)))), .val (.ref (u 3))] [(.int ((400 : Int32) + (p1 &&& (127 : Int32)))), (.ref (u 3))])) t → Steps p.tables e below (s₁.setTop (entryFrame m #[(.int p0), (.int p1)] maxLocals)) t := fun t kt => pre148 t (by
                                            show Steps p.tables e below (s₁.setTop (mkF m 175 #[.val (.int p0), .val (.int p1), .val (.int (p0 &&& (15 : Int32))), .val (.int ((400 : Int32) + (p1 &&& (127 : Int32)))), .unset] [(.int ((400 : Int32) + (p1 &&& (127 : Int32))))])) _
                                            refine st149 _ ?_
                                            show Steps p.tables e below (T149.setTop (mkF m 178 #[.val (.int p0), .val (.int p1), .val (.int (p0 &&& (15 : Int32))), .val (.int ((400 : Int32) + (p1 &&& (127 : Int32)))), .unset] [(.ref (u 3))])) _
                                            refine XS.astore X149.here hx rfl (hb hby at_178) rfl rfl (l' := #[.val (.int p0), .val (.int p1), .val (.int (p0 &&& (15 : Int32))), .val (.int ((400 : Int32) + (p1 &&& (127 : Int32)))), .val (.ref (u 3))]) rfl ?_
                                            show Steps p.tables e below (T149.setTop (mkF m 180 #[.val (.int p0), .val (.int p1), .val (.int (p0 &&& (15 : Int32))), .val (.int ((400 : Int32) + (p1 &&& (127 : Int32)))), .val (.ref (u 3))] [])) _
                                            refine XS.aload X149.here hx rfl (hb hby at_180) rfl rfl ?_
                                            show Steps p.tables e below (T149.setTop (mkF m 182 #[.val (.int p0), .val (.int p1), .val (.int (p0 &&& (15 : Int32))), .val (.int ((400 : Int32) + (p1 &&& (127 : Int32)))), .val (.ref (u 3))] [(.ref (u 3))])) _
                                            refine XS.iloadN X149.here hx rfl (hb hby at_182) rfl ?_
                                            exact kt)
                                          obtain ⟨vr176, _, ⟨T176, L176, k176, n176⟩, -, X176, ⟨Lc176, hQ176, l176, y176, z176⟩, st176⟩ := Jvm.LawKit.callS X149 hx (y := (⟨"com/example/trailwire/trailwire/status/StatusCodeForHttpStatusPinLaw", "expected", "(I)Lcom/example/trailwire/trailwire/status/StatusCode;"⟩ : MethodName)) hown (mvT hZ (hw _ (List.mem_of_getElem? (i := 6) rfl))) (mvT hZ (hw _ (List.mem_of_getElem? (i := 7) rfl))) (mvT hZ (hw _ (List.mem_of_getElem? (i := 8) rfl))) (mvT hZ (hw _ (List.mem_of_getElem? (i := 9) rfl))) (by decide) (backOf (W := 1) (rm2 l Z a0 hw [] u ((400 : Int32) + (p1 &&& (127 : Int32))) B h0 n0 O ) hZ (hw _ (List.mem_of_getElem? (i := 9) rfl)) (hw _ (List.mem_of_getElem? (i := 8) rfl)) (by decide) (by decide)) (g := (mkF m 183 #[.val (.int p0), .val (.int p1), .val (.int (p0 &&& (15 : Int32))), .val (.int ((400 : Int32) + (p1 &&& (127 : Int32)))), .val (.ref (u 3))] [(.int ((400 : Int32) + (p1 &&& (127 : Int32)))), (.ref (u 3))])) rfl (by rw [hml]; rfl) (argsL := [(.int ((400 : Int32) + (p1 &&& (127 : Int32))))]) (rest := [(.ref (u 3))]) (lenOf own_pd0 rfl) rfl (by show 2 * 0 + _ ≤ _; exact Nat.le_of_eq rfl) (hb hby at_183) (fun _ _ => ⟨rfl, e149, (by decide : 0 + 0 ≤ _), (by decide : 0 + 0 ≤ _)⟩)
                                          dsimp only [Pt.U, Pt.locs, Pt.cells, Pt.slots] at X176 l176 y176 z176 st176 hQ176
                                          subst l176 y176 z176
                                          obtain ⟨hv176, N176q, e176⟩ := hQ176
                                          have N176 := Fr.app N149 N176q
                                          obtain rfl : vr176 = some (.ref (u 3)) := hv176.trans (by unfold own_r2; rw [if_neg hc150, if_neg hc154, if_neg hc158, if_neg hc162, if_neg hc166, if_neg hc170, if_pos hc174])
                                          obtain ⟨fs, hr, hrun, hended, hW, hsame⟩ := X176.leave (v := some (.int (1 : Int32))) (fun h => by rw [Bd.returns] at h; cases h)
                                          refine ⟨_, _, pre175 _ ?_, hrun, hended, _, _, rfl, ?_, ⟨_, rfl⟩, hW, hsame.mono (by decide) (by decide)⟩
                                          · show Steps p.tables e below (T149.setTop (mkF m 183 #[.val (.int p0), .val (.int p1), .val (.int (p0 &&& (15 : Int32))), .val (.int ((400 : Int32) + (p1 &&& (127 : Int32)))), .val (.ref (u 3))] [(.int ((400 : Int32) + (p1 &&& (127 : Int32)))), (.ref (u 3))])) _
                                            refine st176 _ ?_
                                            show Steps p.tables e below (T176.setTop (mkF m 186 #[.val (.int p0), .val (.int p1), .val (.int (p0 &&& (15 : Int32))), .val (.int ((400 : Int32) + (p1 &&& (127 : Int32)))), .val (.ref (u 3))] [(.ref (u 3)), (.ref (u 3))])) _
                                            refine Jvm.RoadKit.acmp (g := (mkF m 186 #[.val (.int p0), .val (.int p1), .val (.int (p0 &&& (15 : Int32))), .val (.int ((400 : Int32) + (p1 &&& (127 : Int32)))), .val (.ref (u 3))] [(.ref (u 3)), (.ref (u 3))])) X176 hx rfl rfl rfl (pc0 := 186) (pc' := 189) (same := true) rfl (hb hby at_186) rfl (decide_eq_true rfl) (by decide) (by decide) ?_
                                            show Steps p.tables e below (T176.setTop (mkF m 189 #[.val (.int p0), .val (.int p1), .val (.int (p0 &&& (15 : Int32))), .val (.int ((400 : Int32) + (p1 &&& (127 : Int32)))), .val (.ref (u 3))] [])) _
                                            refine XS.iconst X176.here hx rfl (hb hby at_189) ?_
                                            show Steps p.tables e below (T176.setTop (mkF m 190 #[.val (.int p0), .val (.int p1), .val (.int (p0 &&& (15 : Int32))), .val (.int ((400 : Int32) + (p1 &&& (127 : Int32)))), .val (.ref (u 3))] [(.int (1 : Int32))])) _
                                            refine XS.goto X176.here hx rfl (pc0 := 190) (pc' := 194) rfl (hb hby at_190) (by decide) (by decide) ?_
                                            show Steps p.tables e below (T176.setTop (mkF m 194 #[.val (.int p0), .val (.int p1), .val (.int (p0 &&& (15 : Int32))), .val (.int ((400 : Int32) + (p1 &&& (127 : Int32)))), .val (.ref (u 3))] [(.int (1 : Int32))])) _
                                            exact retN X176 hx (t := .boolean) Bd.returns (by simp) (hb hby at_194) hr
                                          · show own_Q0 Z u p0 p1 h0 n0 _ T176.heap _
                                            rw [e176]
                                            exact ⟨rfl, N176, trivial⟩
                                        · --
                                          by_cases hc178 : ((400 : Int32) + (p1 &&& (127 : Int32))) = (504 : Int32)
                                          · --
                                            obtain rfl : vr149 = some (.ref (u 3)) := hv149.trans (by unfold own_r1; rw [if_neg hc150, if_neg hc154, if_neg hc158, if_neg hc162, if_neg hc166, if_neg hc170, if_neg hc174, if_pos hc178])
                                            have pre179 : ∀ t, Steps p.tables e below (T149.setTop (mkF m 183 #[.val (.int p0), .val (.int p1), .val (.int (p0 &&& (15 : Int32))), .val (.int ((400 : Int32) + (p1 &&& (127 : Int32)))), .val (.ref (u 3))] [(.int ((400 : Int32) + (p1 &&& (127 : Int32)))), (.ref (u 3))])) t → Steps p.tables e below (s₁.setTop (entryFrame m #[(.int p0), (.int p1)] maxLocals)) t := fun t kt => pre148 t (by
                                              show Steps p.tables e below (s₁.setTop (mkF m 175 #[.val (.int p0), .val (.int p1), .val (.int (p0 &&& (15 : Int32))), .val (.int ((400 : Int32) + (p1 &&& (127 : Int32)))), .unset] [(.int ((400 : Int32) + (p1 &&& (127 : Int32))))])) _
                                              refine st149 _ ?_
                                              show Steps p.tables e below (T149.setTop (mkF m 178 #[.val (.int p0), .val (.int p1), .val (.int (p0 &&& (15 : Int32))), .val (.int ((400 : Int32) + (p1 &&& (127 : Int32)))), .unset] [(.ref (u 3))])) _
                                              refine XS.astore X149.here hx rfl (hb hby at_178) rfl rfl (l' := #[.val (.int p0), .val (.int p1), .val (.int (p0 &&& (15 : Int32))), .val (.int ((400 : Int32) + (p1 &&& (127 : Int32)))), .val (.ref (u 3))]) rfl ?_
                                              show Steps p.tables e below (T149.setTop (mkF m 180 #[.val (.int p0), .val (.int p1), .val (.int (p0 &&& (15 : Int32))), .val (.int ((400 : Int32) + (p1 &&& (127 : Int32)))), .val (.ref (u 3))] [])) _
                                              refine XS.aload X149.here hx rfl (hb hby at_180) rfl rfl ?_
                                              show Steps p.tables e below (T149.setTop (mkF m 182 #[.val (.int p0), .val (.int p1), .val (.int (p0 &&& (15 : Int32))), .val (.int ((400 : Int32) + (p1 &&& (127 : Int32)))), .val (.ref (u 3))] [(.ref (u 3))])) _
                                              refine XS.iloadN X149.here hx rfl (hb hby at_182) rfl ?_
                                              exact kt)
                                            obtain ⟨vr180, _, ⟨T180, L180, k180, n180⟩, -, X180, ⟨Lc180, hQ180, l180, y180, z180⟩, st180⟩ := Jvm.LawKit.callS X149 hx (y := (⟨"com/example/trailwire/trailwire/status/StatusCodeForHttpStatusPinLaw", "expected", "(I)Lcom/example/trailwire/trailwire/status/StatusCode;"⟩ : MethodName)) hown (mvT hZ (hw _ (List.mem_of_getElem? (i := 6) rfl))) (mvT hZ (hw _ (List.mem_of_getElem? (i := 7) rfl))) (mvT hZ (hw _ (List.mem_of_getElem? (i := 8) rfl))) (mvT hZ (hw _ (List.mem_of_getElem? (i := 9) rfl))) (by decide) (backOf (W := 1) (rm2 l Z a0 hw [] u ((400 : Int32) + (p1 &&& (127 : Int32))) B h0 n0 O ) hZ (hw _ (List.mem_of_getElem? (i := 9) rfl)) (hw _ (List.mem_of_getElem? (i := 8) rfl)) (by decide) (by decide)) (g := (mkF m 183 #[.val (.int p0), .val (.int p1), .val (.int (p0 &&& (15 : Int32))), .val (.int ((400 : Int32) + (p1 &&& (127 : Int32)))), .val (.ref (u 3))] [(.int ((400 : Int32) + (p1 &&& (127 : Int32)))), (.ref (u 3))])) rfl (by rw [hml]; rfl) (argsL := [(.int ((400 : Int32) + (p1 &&& (127 : Int32))))]) (rest := [(.ref (u 3))]) (lenOf own_pd0 rfl) rfl (by show 2 * 0 + _ ≤ _; exact Nat.le_of_eq rfl) (hb hby at_183) (fun _ _ => ⟨rfl, e149, (by decide : 0 + 0 ≤ _), (by decide : 0 + 0 ≤ _)⟩)
                                            dsimp only [Pt.U, Pt.locs, Pt.cells, Pt.slots] at X180 l180 y180 z180 st180 hQ180
                                            subst l180 y180 z180
                                            obtain ⟨hv180, N180q, e180⟩ := hQ180
                                            have N180 := Fr.app N149 N180q
                                            obtain rfl : vr180 = some (.ref (u 3)) := hv180.trans (by unfold own_r2; rw [if_neg hc150, if_neg hc154, if_neg hc158, if_neg hc162, if_neg hc166, if_neg hc170, if_neg hc174, if_pos hc178])
                                            obtain ⟨fs, hr, hrun, hended, hW, hsame⟩ := X180.leave (v := some (.int (1 : Int32))) (fun h => by rw [Bd.returns] at h; cases h)
                                            refine ⟨_, _, pre179 _ ?_, hrun, hended, _, _, rfl, ?_, ⟨_, rfl⟩, hW, hsame.mono (by decide) (by decide)⟩
                                            · show Steps p.tables e below (T149.setTop (mkF m 183 #[.val (.int p0), .val (.int p1), .val (.int (p0 &&& (15 : Int32))), .val (.int ((400 : Int32) + (p1 &&& (127 : Int32)))), .val (.ref (u 3))] [(.int ((400 : Int32) + (p1 &&& (127 : Int32)))), (.ref (u 3))])) _
                                              refine st180 _ ?_
                                              show Steps p.tables e below (T180.setTop (mkF m 186 #[.val (.int p0), .val (.int p1), .val (.int (p0 &&& (15 : Int32))), .val (.int ((400 : Int32) + (p1 &&& (127 : Int32)))), .val (.ref (u 3))] [(.ref (u 3)), (.ref (u 3))])) _
                                              refine Jvm.RoadKit.acmp (g := (mkF m 186 #[.val (.int p0), .val (.int p1), .val (.int (p0 &&& (15 : Int32))), .val (.int ((400 : Int32) + (p1 &&& (127 : Int32)))), .val (.ref (u 3))] [(.ref (u 3)), (.ref (u 3))])) X180 hx rfl rfl rfl (pc0 := 186) (pc' := 189) (same := true) rfl (hb hby at_186) rfl (decide_eq_true rfl) (by decide) (by decide) ?_
                                              show Steps p.tables e below (T180.setTop (mkF m 189 #[.val (.int p0), .val (.int p1), .val (.int (p0 &&& (15 : Int32))), .val (.int ((400 : Int32) + (p1 &&& (127 : Int32)))), .val (.ref (u 3))] [])) _
                                              refine XS.iconst X180.here hx rfl (hb hby at_189) ?_
                                              show Steps p.tables e below (T180.setTop (mkF m 190 #[.val (.int p0), .val (.int p1), .val (.int (p0 &&& (15 : Int32))), .val (.int ((400 : Int32) + (p1 &&& (127 : Int32)))), .val (.ref (u 3))] [(.int (1 : Int32))])) _
                                              refine XS.goto X180.here hx rfl (pc0 := 190) (pc' := 194) rfl (hb hby at_190) (by decide) (by decide) ?_
                                              show Steps p.tables e below (T180.setTop (mkF m 194 #[.val (.int p0), .val (.int p1), .val (.int (p0 &&& (15 : Int32))), .val (.int ((400 : Int32) + (p1 &&& (127 : Int32)))), .val (.ref (u 3))] [(.int (1 : Int32))])) _
                                              exact retN X180 hx (t := .boolean) Bd.returns (by simp) (hb hby at_194) hr
                                            · show own_Q0 Z u p0 p1 h0 n0 _ T180.heap _
                                              rw [e180]
                                              exact ⟨rfl, N180, trivial⟩
                                          · --
                                            obtain rfl : vr149 = some (.ref (u 1)) := hv149.trans (by unfold own_r1; rw [if_neg hc150, if_neg hc154, if_neg hc158, if_neg hc162, if_neg hc166, if_neg hc170, if_neg hc174, if_neg hc178])
                                            have pre182 : ∀ t, Steps p.tables e below (T149.setTop (mkF m 183 #[.val (.int p0), .val (.int p1), .val (.int (p0 &&& (15 : Int32))), .val (.int ((400 : Int32) + (p1 &&& (127 : Int32)))), .val (.ref (u 1))] [(.int ((400 : Int32) + (p1 &&& (127 : Int32)))), (.ref (u 1))])) t → Steps p.tables e below (s₁.setTop (entryFrame m #[(.int p0), (.int p1)] maxLocals)) t := fun t kt => pre148 t (by
                                              show Steps p.tables e below (s₁.setTop (mkF m 175 #[.val (.int p0), .val (.int p1), .val (.int (p0 &&& (15 : Int32))), .val (.int ((400 : Int32) + (p1 &&& (127 : Int32)))), .unset] [(.int ((400 : Int32) + (p1 &&& (127 : Int32))))])) _
                                              refine st149 _ ?_
                                              show Steps p.tables e below (T149.setTop (mkF m 178 #[.val (.int p0), .val (.int p1), .val (.int (p0 &&& (15 : Int32))), .val (.int ((400 : Int32) + (p1 &&& (127 : Int32)))), .unset] [(.ref (u 1))])) _
                                              refine XS.astore X149.here hx rfl (hb hby at_178) rfl rfl (l' := #[.val (.int p0), .val (.int p1), .val (.int (p0 &&& (15 : Int32))), .val (.int ((400 : Int32) + (p1 &&& (127 : Int32)))), .val (.ref (u 1))]) rfl ?_
                                              show Steps p.tables e below (T149.setTop (mkF m 180 #[.val (.int p0), .val (.int p1), .val (.int (p0 &&& (15 : Int32))), .val (.int ((400 : Int32) + (p1 &&& (127 : Int32)))), .val (.ref (u 1))] [])) _
                                              refine XS.aload X149.here hx rfl (hb hby at_180) rfl rfl ?_
                                              show Steps p.tables e below (T149.setTop (mkF m 182 #[.val (.int p0), .val (.int p1), .val (.int (p0 &&& (15 : Int32))), .val (.int ((400 : Int32) + (p1 &&& (127 : Int32)))), .val (.ref (u 1))] [(.ref (u 1))])) _
                                              refine XS.iloadN X149.here hx rfl (hb hby at_182) rfl ?_
                                              exact kt)
                                            obtain ⟨vr183, _, ⟨T183, L183, k183, n183⟩, -, X183, ⟨Lc183, hQ183, l183, y183, z183⟩, st183⟩ := Jvm.LawKit.callS X149 hx (y := (⟨"com/example/trailwire/trailwire/status/StatusCodeForHttpStatusPinLaw", "expected", "(I)Lcom/example/trailwire/trailwire/status/StatusCode;"⟩ : MethodName)) hown (mvT hZ (hw _ (List.mem_of_getElem? (i := 6) rfl))) (mvT hZ (hw _ (List.mem_of_getElem? (i := 7) rfl))) (mvT hZ (hw _ (List.mem_of_getElem? (i := 8) rfl))) (mvT hZ (hw _ (List.mem_of_getElem? (i := 9) rfl))) (by decide) (backOf (W := 1) (rm2 l Z a0 hw [] u ((400 : Int32) + (p1 &&& (127 : Int32))) B h0 n0 O ) hZ (hw _ (List.mem_of_getElem? (i := 9) rfl)) (hw _ (List.mem_of_getElem? (i := 8) rfl)) (by decide) (by decide)) (g := (mkF m 183 #[.val (.int p0), .val (.int p1), .val (.int (p0 &&& (15 : Int32))), .val (.int ((400 : Int32) + (p1 &&& (127 : Int32)))), .val (.ref (u 1))] [(.int ((400 : Int32) + (p1 &&& (127 : Int32)))), (.ref (u 1))])) rfl (by rw [hml]; rfl) (argsL := [(.int ((400 : Int32) + (p1 &&& (127 : Int32))))]) (rest := [(.ref (u 1))]) (lenOf own_pd0 rfl) rfl (by show 2 * 0 + _ ≤ _; exact Nat.le_of_eq rfl) (hb hby at_183) (fun _ _ => ⟨rfl, e149, (by decide : 0 + 0 ≤ _), (by decide : 0 + 0 ≤ _)⟩)
                                            dsimp only [Pt.U, Pt.locs, Pt.cells, Pt.slots] at X183 l183 y183 z183 st183 hQ183
                                            subst l183 y183 z183
                                            obtain ⟨hv183, N183q, e183⟩ := hQ183
                                            have N183 := Fr.app N149 N183q
                                            obtain rfl : vr183 = some (.ref (u 1)) := hv183.trans (by unfold own_r2; rw [if_neg hc150, if_neg hc154, if_neg hc158, if_neg hc162, if_neg hc166, if_neg hc170, if_neg hc174, if_neg hc178])
                                            obtain ⟨fs, hr, hrun, hended, hW, hsame⟩ := X183.leave (v := some (.int (1 : Int32))) (fun h => by rw [Bd.returns] at h; cases h)
                                            refine ⟨_, _, pre182 _ ?_, hrun, hended, _, _, rfl, ?_, ⟨_, rfl⟩, hW, hsame.mono (by decide) (by decide)⟩
                                            · show Steps p.tables e below (T149.setTop (mkF m 183 #[.val (.int p0), .val (.int p1), .val (.int (p0 &&& (15 : Int32))), .val (.int ((400 : Int32) + (p1 &&& (127 : Int32)))), .val (.ref (u 1))] [(.int ((400 : Int32) + (p1 &&& (127 : Int32)))), (.ref (u 1))])) _
                                              refine st183 _ ?_
                                              show Steps p.tables e below (T183.setTop (mkF m 186 #[.val (.int p0), .val (.int p1), .val (.int (p0 &&& (15 : Int32))), .val (.int ((400 : Int32) + (p1 &&& (127 : Int32)))), .val (.ref (u 1))] [(.ref (u 1)), (.ref (u 1))])) _
                                              refine Jvm.RoadKit.acmp (g := (mkF m 186 #[.val (.int p0), .val (.int p1), .val (.int (p0 &&& (15 : Int32))), .val (.int ((400 : Int32) + (p1 &&& (127 : Int32)))), .val (.ref (u 1))] [(.ref (u 1)), (.ref (u 1))])) X183 hx rfl rfl rfl (pc0 := 186) (pc' := 189) (same := true) rfl (hb hby at_186) rfl (decide_eq_true rfl) (by decide) (by decide) ?_
                                              show Steps p.tables e below (T183.setTop (mkF m 189 #[.val (.int p0), .val (.int p1), .val (.int (p0 &&& (15 : Int32))), .val (.int ((400 : Int32) + (p1 &&& (127 : Int32)))), .val (.ref (u 1))] [])) _
                                              refine XS.iconst X183.here hx rfl (hb hby at_189) ?_
                                              show Steps p.tables e below (T183.setTop (mkF m 190 #[.val (.int p0), .val (.int p1), .val (.int (p0 &&& (15 : Int32))), .val (.int ((400 : Int32) + (p1 &&& (127 : Int32)))), .val (.ref (u 1))] [(.int (1 : Int32))])) _
                                              refine XS.goto X183.here hx rfl (pc0 := 190) (pc' := 194) rfl (hb hby at_190) (by decide) (by decide) ?_
                                              show Steps p.tables e below (T183.setTop (mkF m 194 #[.val (.int p0), .val (.int p1), .val (.int (p0 &&& (15 : Int32))), .val (.int ((400 : Int32) + (p1 &&& (127 : Int32)))), .val (.ref (u 1))] [(.int (1 : Int32))])) _
                                              exact retN X183 hx (t := .boolean) Bd.returns (by simp) (hb hby at_194) hr
                                            · show own_Q0 Z u p0 p1 h0 n0 _ T183.heap _
                                              rw [e183]
                                              exact ⟨rfl, N183, trivial⟩
                          · --
                            have pre185 : ∀ t, Steps p.tables e below (s₁.setTop (mkF m 175 #[.val (.int p0), .val (.int p1), .val (.int (p0 &&& (15 : Int32))), .val (.int p1), .unset] [(.int p1)])) t → Steps p.tables e below (s₁.setTop (entryFrame m #[(.int p0), (.int p1)] maxLocals)) t := fun t kt => pre146 t (by
                              show Steps p.tables e below (s₁.setTop (mkF m 157 #[.val (.int p0), .val (.int p1), .val (.int (p0 &&& (15 : Int32))), .unset, .unset] [(.int (12 : Int32)), (.int (p0 &&& (15 : Int32)))])) _
                              refine XS.icmpYes X0.here hx rfl (pc0 := 157) (pc' := 172) rfl (hb hby at_157) rfl (feq hc147).2 (by decide) (by decide) ?_
                              show Steps p.tables e below (s₁.setTop (mkF m 172 #[.val (.int p0), .val (.int p1), .val (.int (p0 &&& (15 : Int32))), .unset, .unset] [])) _
                              refine XS.iloadN X0.here hx rfl (hb hby at_172) rfl ?_
                              show Steps p.tables e below (s₁.setTop (mkF m 173 #[.val (.int p0), .val (.int p1), .val (.int (p0 &&& (15 : Int32))), .unset, .unset] [(.int p1)])) _
                              refine XS.istoreN X0.here hx rfl (hb hby at_173) rfl (l' := #[.val (.int p0), .val (.int p1), .val (.int (p0 &&& (15 : Int32))), .val (.int p1), .unset]) rfl ?_
                              show Steps p.tables e below (s₁.setTop (mkF m 174 #[.val (.int p0), .val (.int p1), .val (.int (p0 &&& (15 : Int32))), .val (.int p1), .unset] [])) _
                              refine XS.iloadN X0.here hx rfl (hb hby at_174) rfl ?_
                              exact kt)
                            obtain ⟨vr186, _, ⟨T186, L186, k186, n186⟩, -, X186, ⟨Lc186, hQ186, l186, y186, z186⟩, st186⟩ := Jvm.LawKit.callS X0 hx (y := (⟨"com/example/trailwire/trailwire/status/StatusCode", "forHttpStatus", "(I)Lcom/example/trailwire/trailwire/status/StatusCode;"⟩ : MethodName)) hown (mvT hZ (hw _ (List.mem_of_getElem? (i := 0) rfl))) (mvT hZ (hw _ (List.mem_of_getElem? (i := 1) rfl))) (mvT hZ (hw _ (List.mem_of_getElem? (i := 2) rfl))) (mvT hZ (hw _ (List.mem_of_getElem? (i := 3) rfl))) (by decide) (backOf (W := 0) (rm1 l Z a0 hw [] u p1 B h0 n0 O ) hZ (hw _ (List.mem_of_getElem? (i := 3) rfl)) (hw _ (List.mem_of_getElem? (i := 2) rfl)) (by decide) (by decide)) (g := (mkF m 175 #[.val (.int p0), .val (.int p1), .val (.int (p0 &&& (15 : Int32))), .val (.int p1), .unset] [(.int p1)])) rfl (by rw [hml]; rfl) (argsL := [(.int p1)]) (rest := []) (lenOf own_pd0 rfl) rfl (by show 2 * 0 + _ ≤ _; exact Nat.le_of_eq rfl) (hb hby at_175) (fun _ _ => ⟨rfl, e0, (by decide : 0 + 0 ≤ _), (by decide : 0 + 0 ≤ _)⟩)
                            dsimp only [Pt.U, Pt.locs, Pt.cells, Pt.slots] at X186 l186 y186 z186 st186 hQ186
                            subst l186 y186 z186
                            obtain ⟨hv186, N186q, e186⟩ := hQ186
                            have N186 := Fr.app N0 N186q
                            by_cases hc187 : p1 = (400 : Int32)
                            · --
                              obtain rfl : vr186 = some (.ref (u 0)) := hv186.trans (by unfold own_r1; rw [if_pos hc187])
                              have pre188 : ∀ t, Steps p.tables e below (T186.setTop (mkF m 183 #[.val (.int p0), .val (.int p1), .val (.int (p0 &&& (15 : Int32))), .val (.int p1), .val (.ref (u 0))] [(.int p1), (.ref (u 0))])) t → Steps p.tables e below (s₁.setTop (entryFrame m #[(.int p0), (.int p1)] maxLocals)) t := fun t kt => pre185 t (by
                                show Steps p.tables e below (s₁.setTop (mkF m 175 #[.val (.int p0), .val (.int p1), .val (.int (p0 &&& (15 : Int32))), .val (.int p1), .unset] [(.int p1)])) _
                                refine st186 _ ?_
                                show Steps p.tables e below (T186.setTop (mkF m 178 #[.val (.int p0), .val (.int p1), .val (.int (p0 &&& (15 : Int32))), .val (.int p1), .unset] [(.ref (u 0))])) _
                                refine XS.astore X186.here hx rfl (hb hby at_178) rfl rfl (l' := #[.val (.int p0), .val (.int p1), .val (.int (p0 &&& (15 : Int32))), .val (.int p1), .val (.ref (u 0))]) rfl ?_
                                show Steps p.tables e below (T186.setTop (mkF m 180 #[.val (.int p0), .val (.int p1), .val (.int (p0 &&& (15 : Int32))), .val (.int p1), .val (.ref (u 0))] [])) _
                                refine XS.aload X186.here hx rfl (hb hby at_180) rfl rfl ?_
                                show Steps p.tables e below (T186.setTop (mkF m 182 #[.val (.int p0), .val (.int p1), .val (.int (p0 &&& (15 : Int32))), .val (.int p1), .val (.ref (u 0))] [(.ref (u 0))])) _
                                refine XS.iloadN X186.here hx rfl (hb hby at_182) rfl ?_
                                exact kt)
                              obtain ⟨vr189, _, ⟨T189, L189, k189, n189⟩, -, X189, ⟨Lc189, hQ189, l189, y189, z189⟩, st189⟩ := Jvm.LawKit.callS X186 hx (y := (⟨"com/example/trailwire/trailwire/status/StatusCodeForHttpStatusPinLaw", "expected", "(I)Lcom/example/trailwire/trailwire/status/StatusCode;"⟩ : MethodName)) hown (mvT hZ (hw _ (List.mem_of_getElem? (i := 6) rfl))) (mvT hZ (hw _ (List.mem_of_getElem? (i := 7) rfl))) (mvT hZ (hw _ (List.mem_of_getElem? (i := 8) rfl))) (mvT hZ (hw _ (List.mem_of_getElem? (i := 9) rfl))) (by decide) (backOf (W := 1) (rm2 l Z a0 hw [] u p1 B h0 n0 O ) hZ (hw _ (List.mem_of_getElem? (i := 9) rfl)) (hw _ (List.mem_of_getElem? (i := 8) rfl)) (by decide) (by decide)) (g := (mkF m 183 #[.val (.int p0), .val (.int p1), .val (.int (p0 &&& (15 : Int32))), .val (.int p1), .val (.ref (u 0))] [(.int p1), (.ref (u 0))])) rfl (by rw [hml]; rfl) (argsL := [(.int p1)]) (rest := [(.ref (u 0))]) (lenOf own_pd0 rfl) rfl (by show 2 * 0 + _ ≤ _; exact Nat.le_of_eq rfl) (hb hby at_183) (fun _ _ => ⟨rfl, e186, (by decide : 0 + 0 ≤ _), (by decide : 0 + 0 ≤ _)⟩)
                              dsimp only [Pt.U, Pt.locs, Pt.cells, Pt.slots] at X189 l189 y189 z189 st189 hQ189
                              subst l189 y189 z189
                              obtain ⟨hv189, N189q, e189⟩ := hQ189
                              have N189 := Fr.app N186 N189q
                              obtain rfl : vr189 = some (.ref (u 0)) := hv189.trans (by unfold own_r2; rw [if_pos hc187])
                              obtain ⟨fs, hr, hrun, hended, hW, hsame⟩ := X189.leave (v := some (.int (1 : Int32))) (fun h => by rw [Bd.returns] at h; cases h)
                              refine ⟨_, _, pre188 _ ?_, hrun, hended, _, _, rfl, ?_, ⟨_, rfl⟩, hW, hsame.mono (by decide) (by decide)⟩
                              · show Steps p.tables e below (T186.setTop (mkF m 183 #[.val (.int p0), .val (.int p1), .val (.int (p0 &&& (15 : Int32))), .val (.int p1), .val (.ref (u 0))] [(.int p1), (.ref (u 0))])) _
                                refine st189 _ ?_
                                show Steps p.tables e below (T189.setTop (mkF m 186 #[.val (.int p0), .val (.int p1), .val (.int (p0 &&& (15 : Int32))), .val (.int p1), .val (.ref (u 0))] [(.ref (u 0)), (.ref (u 0))])) _
                                refine Jvm.RoadKit.acmp (g := (mkF m 186 #[.val (.int p0), .val (.int p1), .val (.int (p0 &&& (15 : Int32))), .val (.int p1), .val (.ref (u 0))] [(.ref (u 0)), (.ref (u 0))])) X189 hx rfl rfl rfl (pc0 := 186) (pc' := 189) (same := true) rfl (hb hby at_186) rfl (decide_eq_true rfl) (by decide) (by decide) ?_
                                show Steps p.tables e below (T189.setTop (mkF m 189 #[.val (.int p0), .val (.int p1), .val (.int (p0 &&& (15 : Int32))), .val (.int p1), .val (.ref (u 0))] [])) _
                                refine XS.iconst X189.here hx rfl (hb hby at_189) ?_
                                show Steps p.tables e below (T189.setTop (mkF m 190 #[.val (.int p0), .val (.int p1), .val (.int (p0 &&& (15 : Int32))), .val (.int p1), .val (.ref (u 0))] [(.int (1 : Int32))])) _
                                refine XS.goto X189.here hx rfl (pc0 := 190) (pc' := 194) rfl (hb hby at_190) (by decide) (by decide) ?_
                                show Steps p.tables e below (T189.setTop (mkF m 194 #[.val (.int p0), .val (.int p1), .val (.int (p0 &&& (15 : Int32))), .val (.int p1), .val (.ref (u 0))] [(.int (1 : Int32))])) _
                                exact retN X189 hx (t := .boolean) Bd.returns (by simp) (hb hby at_194) hr
                              · show own_Q0 Z u p0 p1 h0 n0 _ T189.heap _
                                rw [e189]
                                exact ⟨rfl, N189, trivial⟩
                            · --
                              by_cases hc191 : p1 = (401 : Int32)
                              · --
                                obtain rfl : vr186 = some (.ref (u 5)) := hv186.trans (by unfold own_r1; rw [if_neg hc187, if_pos hc191])
                                have pre192 : ∀ t, Steps p.tables e below (T186.setTop (mkF m 183 #[.val (.int p0), .val (.int p1), .val (.int (p0 &&& (15 : Int32))), .val (.int p1), .val (.ref (u 5))] [(.int p1), (.ref (u 5))])) t → Steps p.tables e below (s₁.setTop (entryFrame m #[(.int p0), (.int p1)] maxLocals)) t := fun t kt => pre185 t (by
                                  show Steps p.tables e below (s₁.setTop (mkF m 175 #[.val (.int p0), .val (.int p1), .val (.int (p0 &&& (15 : Int32))), .val (.int p1), .unset] [(.int p1)])) _
                                  refine st186 _ ?_
                                  show Steps p.tables e below (T186.setTop (mkF m 178 #[.val (.int p0), .val (.int p1), .val (.int (p0 &&& (15 : Int32))), .val (.int p1), .unset] [(.ref (u 5))])) _
                                  refine XS.astore X186.here hx rfl (hb hby at_178) rfl rfl (l' := #[.val (.int p0), .val (.int p1), .val (.int (p0 &&& (15 : Int32))), .val (.int p1), .val (.ref (u 5))]) rfl ?_
                                  show Steps p.tables e below (T186.setTop (mkF m 180 #[.val (.int p0), .val (.int p1), .val (.int (p0 &&& (15 : Int32))), .val (.int p1), .val (.ref (u 5))] [])) _
                                  refine XS.aload X186.here hx rfl (hb hby at_180) rfl rfl ?_
                                  show Steps p.tables e below (T186.setTop (mkF m 182 #[.val (.int p0), .val (.int p1), .val (.int (p0 &&& (15 : Int32))), .val (.int p1), .val (.ref (u 5))] [(.ref (u 5))])) _
                                  refine XS.iloadN X186.here hx rfl (hb hby at_182) rfl ?_
                                  exact kt)
                                obtain ⟨vr193, _, ⟨T193, L193, k193, n193⟩, -, X193, ⟨Lc193, hQ193, l193, y193, z193⟩, st193⟩ := Jvm.LawKit.callS X186 hx (y := (⟨"com/example/trailwire/trailwire/status/StatusCodeForHttpStatusPinLaw", "expected", "(I)Lcom/example/trailwire/trailwire/status/StatusCode;"⟩ : MethodName)) hown (mvT hZ (hw _ (List.mem_of_getElem? (i := 6) rfl))) (mvT hZ (hw _ (List.mem_of_getElem? (i := 7) rfl))) (mvT hZ (hw _ (List.mem_of_getElem? (i := 8) rfl))) (mvT hZ (hw _ (List.mem_of_getElem? (i := 9) rfl))) (by decide) (backOf (W := 1) (rm2 l Z a0 hw [] u p1 B h0 n0 O ) hZ (hw _ (List.mem_of_getElem? (i := 9) rfl)) (hw _ (List.mem_of_getElem? (i := 8) rfl)) (by decide) (by decide)) (g := (mkF m 183 #[.val (.int p0), .val (.int p1), .val (.int (p0 &&& (15 : Int32))), .val (.int p1), .val (.ref (u 5))] [(.int p1), (.ref (u 5))])) rfl (by rw [hml]; rfl) (argsL := [(.int p1)]) (rest := [(.ref (u 5))]) (lenOf own_pd0 rfl) rfl (by show 2 * 0 + _ ≤ _; exact Nat.le_of_eq rfl) (hb hby at_183) (fun _ _ => ⟨rfl, e186, (by decide : 0 + 0 ≤ _), (by decide : 0 + 0 ≤ _)⟩)
                                dsimp only [Pt.U, Pt.locs, Pt.cells, Pt.slots] at X193 l193 y193 z193 st193 hQ193
                                subst l193 y193 z193
                                obtain ⟨hv193, N193q, e193⟩ := hQ193
                                have N193 := Fr.app N186 N193q
                                obtain rfl : vr193 = some (.ref (u 5)) := hv193.trans (by unfold own_r2; rw [if_neg hc187, if_pos hc191])
                                obtain ⟨fs, hr, hrun, hended, hW, hsame⟩ := X193.leave (v := some (.int (1 : Int32))) (fun h => by rw [Bd.returns] at h; cases h)
                                refine ⟨_, _, pre192 _ ?_, hrun, hended, _, _, rfl, ?_, ⟨_, rfl⟩, hW, hsame.mono (by decide) (by decide)⟩
                                · show Steps p.tables e below (T186.setTop (mkF m 183 #[.val (.int p0), .val (.int p1), .val (.int (p0 &&& (15 : Int32))), .val (.int p1), .val (.ref (u 5))] [(.int p1), (.ref (u 5))])) _
                                  refine st193 _ ?_
                                  show Steps p.tables e below (T193.setTop (mkF m 186 #[.val (.int p0), .val (.int p1), .val (.int (p0 &&& (15 : Int32))), .val (.int p1), .val (.ref (u 5))] [(.ref (u 5)), (.ref (u 5))])) _
                                  refine Jvm.RoadKit.acmp (g := (mkF m 186 #[.val (.int p0), .val (.int p1), .val (.int (p0 &&& (15 : Int32))), .val (.int p1), .val (.ref (u 5))] [(.ref (u 5)), (.ref (u 5))])) X193 hx rfl rfl rfl (pc0 := 186) (pc' := 189) (same := true) rfl (hb hby at_186) rfl (decide_eq_true rfl) (by decide) (by decide) ?_
                                  show Steps p.tables e below (T193.setTop (mkF m 189 #[.val (.int p0), .val (.int p1), .val (.int (p0 &&& (15 : Int32))), .val (.int p1), .val (.ref (u 5))] [])) _
                                  refine XS.iconst X193.here hx rfl (hb hby at_189) ?_
                                  show Steps p.tables e below (T193.setTop (mkF m 190 #[.val (.int p0), .val (.int p1), .val (.int (p0 &&& (15 : Int32))), .val (.int p1), .val (.ref (u 5))] [(.int (1 : Int32))])) _
                                  refine XS.goto X193.here hx rfl (pc0 := 190) (pc' := 194) rfl (hb hby at_190) (by decide) (by decide) ?_
                                  show Steps p.tables e below (T193.setTop (mkF m 194 #[.val (.int p0), .val (.int p1), .val (.int (p0 &&& (15 : Int32))), .val (.int p1), .val (.ref (u 5))] [(.int (1 : Int32))])) _
                                  exact retN X193 hx (t := .boolean) Bd.returns (by simp) (hb hby at_194) hr
                                · show own_Q0 Z u p0 p1 h0 n0 _ T193.heap _
                                  rw [e193]
                                  exact ⟨rfl, N193, trivial⟩
                              · --
                                by_cases hc195 : p1 = (403 : Int32)
                                · --
                                  obtain rfl : vr186 = some (.ref (u 2)) := hv186.trans (by unfold own_r1; rw [if_neg hc187, if_neg hc191, if_pos hc195])
                                  have pre196 : ∀ t, Steps p.tables e below (T186.setTop (mkF m 183 #[.val (.int p0), .val (.int p1), .val (.int (p0 &&& (15 : Int32))), .val (.int p1), .val (.ref (u 2))] [(.int p1), (.ref (u 2))])) t → Steps p.tables e below (s₁.setTop (entryFrame m #[(.int p0), (.int p1)] maxLocals)) t := fun t kt => pre185 t (by
                                    show Steps p.tables e below (s₁.setTop (mkF m 175 #[.val (.int p0), .val (.int p1), .val (.int (p0 &&& (15 : Int32))), .val (.int p1), .unset] [(.int p1)])) _
                                    refine st186 _ ?_
                                    show Steps p.tables e below (T186.setTop (mkF m 178 #[.val (.int p0), .val (.int p1), .val (.int (p0 &&& (15 : Int32))), .val (.int p1), .unset] [(.ref (u 2))])) _
                                    refine XS.astore X186.here hx rfl (hb hby at_178) rfl rfl (l' := #[.val (.int p0), .val (.int p1), .val (.int (p0 &&& (15 : Int32))), .val (.int p1), .val (.ref (u 2))]) rfl ?_
                                    show Steps p.tables e below (T186.setTop (mkF m 180 #[.val (.int p0), .val (.int p1), .val (.int (p0 &&& (15 : Int32))), .val (.int p1), .val (.ref (u 2))] [])) _
                                    refine XS.aload X186.here hx rfl (hb hby at_180) rfl rfl ?_
                                    show Steps p.tables e below (T186.setTop (mkF m 182 #[.val (.int p0), .val (.int p1), .val (.int (p0 &&& (15 : Int32))), .val (.int p1), .val (.ref (u 2))] [(.ref (u 2))])) _
                                    refine XS.iloadN X186.here hx rfl (hb hby at_182) rfl ?_
                                    exact kt)
                                  obtain ⟨vr197, _, ⟨T197, L197, k197, n197⟩, -, X197, ⟨Lc197, hQ197, l197, y197, z197⟩, st197⟩ := Jvm.LawKit.callS X186 hx (y := (⟨"com/example/trailwire/trailwire/status/StatusCodeForHttpStatusPinLaw", "expected", "(I)Lcom/example/trailwire/trailwire/status/StatusCode;"⟩ : MethodName)) hown (mvT hZ (hw _ (List.mem_of_getElem? (i := 6) rfl))) (mvT hZ (hw _ (List.mem_of_getElem? (i := 7) rfl))) (mvT hZ (hw _ (List.mem_of_getElem? (i := 8) rfl))) (mvT hZ (hw _ (List.mem_of_getElem? (i := 9) rfl))) (by decide) (backOf (W := 1) (rm2 l Z a0 hw [] u p1 B h0 n0 O ) hZ (hw _ (List.mem_of_getElem? (i := 9) rfl)) (hw _ (List.mem_of_getElem? (i := 8) rfl)) (by decide) (by decide)) (g := (mkF m 183 #[.val (.int p0), .val (.int p1), .val (.int (p0 &&& (15 : Int32))), .val (.int p1), .val (.ref (u 2))] [(.int p1), (.ref (u 2))])) rfl (by rw [hml]; rfl) (argsL := [(.int p1)]) (rest := [(.ref (u 2))]) (lenOf own_pd0 rfl) rfl (by show 2 * 0 + _ ≤ _; exact Nat.le_of_eq rfl) (hb hby at_183) (fun _ _ => ⟨rfl, e186, (by decide : 0 + 0 ≤ _), (by decide : 0 + 0 ≤ _)⟩)
                                  dsimp only [Pt.U, Pt.locs, Pt.cells, Pt.slots] at X197 l197 y197 z197 st197 hQ197
                                  subst l197 y197 z197
                                  obtain ⟨hv197, N197q, e197⟩ := hQ197
                                  have N197 := Fr.app N186 N197q
                                  obtain rfl : vr197 = some (.ref (u 2)) := hv197.trans (by unfold own_r2; rw [if_neg hc187, if_neg hc191, if_pos hc195])
                                  obtain ⟨fs, hr, hrun, hended, hW, hsame⟩ := X197.leave (v := some (.int (1 : Int32))) (fun h => by rw [Bd.returns] at h; cases h)
                                  refine ⟨_, _, pre196 _ ?_, hrun, hended, _, _, rfl, ?_, ⟨_, rfl⟩, hW, hsame.mono (by decide) (by decide)⟩
                                  · show Steps p.tables e below (T186.setTop (mkF m 183 #[.val (.int p0), .val (.int p1), .val (.int (p0 &&& (15 : Int32))), .val (.int p1), .val (.ref (u 2))] [(.int p1), (.ref (u 2))])) _
                                    refine st197 _ ?_
                                    show Steps p.tables e below (T197.setTop (mkF m 186 #[.val (.int p0), .val (.int p1), .val (.int (p0 &&& (15 : Int32))), .val (.int p1), .val (.ref (u 2))] [(.ref (u 2)), (.ref (u 2))])) _
                                    refine Jvm.RoadKit.acmp (g := (mkF m 186 #[.val (.int p0), .val (.int p1), .val (.int (p0 &&& (15 : Int32))), .val (.int p1), .val (.ref (u 2))] [(.ref (u 2)), (.ref (u 2))])) X197 hx rfl rfl rfl (pc0 := 186) (pc' := 189) (same := true) rfl (hb hby at_186) rfl (decide_eq_true rfl) (by decide) (by decide) ?_
                                    show Steps p.tables e below (T197.setTop (mkF m 189 #[.val (.int p0), .val (.int p1), .val (.int (p0 &&& (15 : Int32))), .val (.int p1), .val (.ref (u 2))] [])) _
                                    refine XS.iconst X197.here hx rfl (hb hby at_189) ?_
                                    show Steps p.tables e below (T197.setTop (mkF m 190 #[.val (.int p0), .val (.int p1), .val (.int (p0 &&& (15 : Int32))), .val (.int p1), .val (.ref (u 2))] [(.int (1 : Int32))])) _
                                    refine XS.goto X197.here hx rfl (pc0 := 190) (pc' := 194) rfl (hb hby at_190) (by decide) (by decide) ?_
                                    show Steps p.tables e below (T197.setTop (mkF m 194 #[.val (.int p0), .val (.int p1), .val (.int (p0 &&& (15 : Int32))), .val (.int p1), .val (.ref (u 2))] [(.int (1 : Int32))])) _
                                    exact retN X197 hx (t := .boolean) Bd.returns (by simp) (hb hby at_194) hr
                                  · show own_Q0 Z u p0 p1 h0 n0 _ T197.heap _
                                    rw [e197]
                                    exact ⟨rfl, N197, trivial⟩
                                · --
                                  by_cases hc199 : p1 = (404 : Int32)
                                  · --
                                    obtain rfl : vr186 = some (.ref (u 4)) := hv186.trans (by unfold own_r1; rw [if_neg hc187, if_neg hc191, if_neg hc195, if_pos hc199])
                                    have pre200 : ∀ t, Steps p.tables e below (T186.setTop (mkF m 183 #[.val (.int p0), .val (.int p1), .val (.int (p0 &&& (15 : Int32))), .val (.int p1), .val (.ref (u 4))] [(.int p1), (.ref (u 4))])) t → Steps p.tables e below (s₁.setTop (entryFrame m #[(.int p0), (.int p1)] maxLocals)) t := fun t kt => pre185 t (by
                                      show Steps p.tables e below (s₁.setTop (mkF m 175 #[.val (.int p0), .val (.int p1), .val (.int (p0 &&& (15 : Int32))), .val (.int p1), .unset] [(.int p1)])) _
                                      refine st186 _ ?_
                                      show Steps p.tables e below (T186.setTop (mkF m 178 #[.val (.int p0), .val (.int p1), .val (.int (p0 &&& (15 : Int32))), .val (.int p1), .unset] [(.ref (u 4))])) _
                                      refine XS.astore X186.here hx rfl (hb hby at_178) rfl rfl (l' := #[.val (.int p0), .val (.int p1), .val (.int (p0 &&& (15 : Int32))), .val (.int p1), .val (.ref (u 4))]) rfl ?_
                                      show Steps p.tables e below (T186.setTop (mkF m 180 #[.val (.int p0), .val (.int p1), .val (.int (p0 &&& (15 : Int32))), .val (.int p1), .val (.ref (u 4))] [])) _
                                      refine XS.aload X186.here hx rfl (hb hby at_180) rfl rfl ?_
                                      show Steps p.tables e below (T186.setTop (mkF m 182 #[.val (.int p0), .val (.int p1), .val (.int (p0 &&& (15 : Int32))), .val (.int p1), .val (.ref (u 4))] [(.ref (u 4))])) _
                                      refine XS.iloadN X186.here hx rfl (hb hby at_182) rfl ?_
                                      exact kt)
                                    obtain ⟨vr201, _, ⟨T201, L201, k201, n201⟩, -, X201, ⟨Lc201, hQ201, l201, y201, z201⟩, st201⟩ := Jvm.LawKit.callS X186 hx (y := (⟨"com/example/trailwire/trailwire/status/StatusCodeForHttpStatusPinLaw", "expected", "(I)Lcom/example/trailwire/trailwire/status/StatusCode;"⟩ : MethodName)) hown (mvT hZ (hw _ (List.mem_of_getElem? (i := 6) rfl))) (mvT hZ (hw _ (List.mem_of_getElem? (i := 7) rfl))) (mvT hZ (hw _ (List.mem_of_getElem? (i := 8) rfl))) (mvT hZ (hw _ (List.mem_of_getElem? (i := 9) rfl))) (by decide) (backOf (W := 1) (rm2 l Z a0 hw [] u p1 B h0 n0 O ) hZ (hw _ (List.mem_of_getElem? (i := 9) rfl)) (hw _ (List.mem_of_getElem? (i := 8) rfl)) (by decide) (by decide)) (g := (mkF m 183 #[.val (.int p0), .val (.int p1), .val (.int (p0 &&& (15 : Int32))), .val (.int p1), .val (.ref (u 4))] [(.int p1), (.ref (u 4))])) rfl (by rw [hml]; rfl) (argsL := [(.int p1)]) (rest := [(.ref (u 4))]) (lenOf own_pd0 rfl) rfl (by show 2 * 0 + _ ≤ _; exact Nat.le_of_eq rfl) (hb hby at_183) (fun _ _ => ⟨rfl, e186, (by decide : 0 + 0 ≤ _), (by decide : 0 + 0 ≤ _)⟩)
                                    dsimp only [Pt.U, Pt.locs, Pt.cells, Pt.slots] at X201 l201 y201 z201 st201 hQ201
                                    subst l201 y201 z201
                                    obtain ⟨hv201, N201q, e201⟩ := hQ201
                                    have N201 := Fr.app N186 N201q
                                    obtain rfl : vr201 = some (.ref (u 4)) := hv201.trans (by unfold own_r2; rw [if_neg hc187, if_neg hc191, if_neg hc195, if_pos hc199])
                                    obtain ⟨fs, hr, hrun, hended, hW, hsame⟩ := X201.leave (v := some (.int (1 : Int32))) (fun h => by rw [Bd.returns] at h; cases h)
                                    refine ⟨_, _, pre200 _ ?_, hrun, hended, _, _, rfl, ?_, ⟨_, rfl⟩, hW, hsame.mono (by decide) (by decide)⟩
                                    · show Steps p.tables e below (T186.setTop (mkF m 183 #[.val (.int p0), .val (.int p1), .val (.int (p0 &&& (15 : Int32))), .val (.int p1), .val (.ref (u 4))] [(.int p1), (.ref (u 4))])) _
                                      refine st201 _ ?_
                                      show Steps p.tables e below (T201.setTop (mkF m 186 #[.val (.int p0), .val (.int p1), .val (.int (p0 &&& (15 : Int32))), .val (.int p1), .val (.ref (u 4))] [(.ref (u 4)), (.ref (u 4))])) _
                                      refine Jvm.RoadKit.acmp (g := (mkF m 186 #[.val (.int p0), .val (.int p1), .val (.int (p0 &&& (15 : Int32))), .val (.int p1), .val (.ref (u 4))] [(.ref (u 4)), (.ref (u 4))])) X201 hx rfl rfl rfl (pc0 := 186) (pc' := 189) (same := true) rfl (hb hby at_186) rfl (decide_eq_true rfl) (by decide) (by decide) ?_
                                      show Steps p.tables e below (T201.setTop (mkF m 189 #[.val (.int p0), .val (.int p1), .val (.int (p0 &&& (15 : Int32))), .val (.int p1), .val (.ref (u 4))] [])) _
                                      refine XS.iconst X201.here hx rfl (hb hby at_189) ?_
                                      show Steps p.tables e below (T201.setTop (mkF m 190 #[.val (.int p0), .val (.int p1), .val (.int (p0 &&& (15 : Int32))), .val (.int p1), .val (.ref (u 4))] [(.int (1 : Int32))])) _
                                      refine XS.goto X201.here hx rfl (pc0 := 190) (pc' := 194) rfl (hb hby at_190) (by decide) (by decide) ?_
                                      show Steps p.tables e below (T201.setTop (mkF m 194 #[.val (.int p0), .val (.int p1), .val (.int (p0 &&& (15 : Int32))), .val (.int p1), .val (.ref (u 4))] [(.int (1 : Int32))])) _
                                      exact retN X201 hx (t := .boolean) Bd.returns (by simp) (hb hby at_194) hr
                                    · show own_Q0 Z u p0 p1 h0 n0 _ T201.heap _
                                      rw [e201]
                                      exact ⟨rfl, N201, trivial⟩
                                  · --
                                    by_cases hc203 : p1 = (429 : Int32)
                                    · --
                                      obtain rfl : vr186 = some (.ref (u 3)) := hv186.trans (by unfold own_r1; rw [if_neg hc187, if_neg hc191, if_neg hc195, if_neg hc199, if_pos hc203])
                                      have pre204 : ∀ t, Steps p.tables e below (T186.setTop (mkF m 183 #[.val (.int p0), .val (.int p1), .val (.int (p0 &&& (15 : Int32))), .val (.int p1), .val (.ref (u 3))] [(.int p1), (.ref (u 3))])) t → Steps p.tables e below (s₁.setTop (entryFrame m #[(.int p0), (.int p1)] maxLocals)) t := fun t kt => pre185 t (by
                                        show Steps p.tables e below (s₁.setTop (mkF m 175 #[.val (.int p0), .val (.int p1), .val (.int (p0 &&& (15 : Int32))), .val (.int p1), .unset] [(.int p1)])) _
                                        refine st186 _ ?_
                                        show Steps p.tables e below (T186.setTop (mkF m 178 #[.val (.int p0), .val (.int p1), .val (.int (p0 &&& (15 : Int32))), .val (.int p1), .unset] [(.ref (u 3))])) _
                                        refine XS.astore X186.here hx rfl (hb hby at_178) rfl rfl (l' := #[.val (.int p0), .val (.int p1), .val (.int (p0 &&& (15 : Int32))), .val (.int p1), .val (.ref (u 3))]) rfl ?_
                                        show Steps p.tables e below (T186.setTop (mkF m 180 #[.val (.int p0), .val (.int p1), .val (.int (p0 &&& (15 : Int32))), .val (.int p1), .val (.ref (u 3))] [])) _
                                        refine XS.aload X186.here hx rfl (hb hby at_180) rfl rfl ?_
                                        show Steps p.tables e below (T186.setTop (mkF m 182 #[.val (.int p0), .val (.int p1), .val (.int (p0 &&& (15 : Int32))), .val (.int p1), .val (.ref (u 3))] [(.ref (u 3))])) _
                                        refine XS.iloadN X186.here hx rfl (hb hby at_182) rfl ?_
                                        exact kt)
                                      obtain ⟨vr205, _, ⟨T205, L205, k205, n205⟩, -, X205, ⟨Lc205, hQ205, l205, y205, z205⟩, st205⟩ := Jvm.LawKit.callS X186 hx (y := (⟨"com/example/trailwire/trailwire/status/StatusCodeForHttpStatusPinLaw", "expected", "(I)Lcom/example/trailwire/trailwire/status/StatusCode;"⟩ : MethodName)) hown (mvT hZ (hw _ (List.mem_of_getElem? (i := 6) rfl))) (mvT hZ (hw _ (List.mem_of_getElem? (i := 7) rfl))) (mvT hZ (hw _ (List.mem_of_getElem? (i := 8) rfl))) (mvT hZ (hw _ (List.mem_of_getElem? (i := 9) rfl))) (by decide) (backOf (W := 1) (rm2 l Z a0 hw [] u p1 B h0 n0 O ) hZ (hw _ (List.mem_of_getElem? (i := 9) rfl)) (hw _ (List.mem_of_getElem? (i := 8) rfl)) (by decide) (by decide)) (g := (mkF m 183 #[.val (.int p0), .val (.int p1), .val (.int (p0 &&& (15 : Int32))), .val (.int p1), .val (.ref (u 3))] [(.int p1), (.ref (u 3))])) rfl (by rw [hml]; rfl) (argsL := [(.int p1)]) (rest := [(.ref (u 3))]) (lenOf own_pd0 rfl) rfl (by show 2 * 0 + _ ≤ _; exact Nat.le_of_eq rfl) (hb hby at_183) (fun _ _ => ⟨rfl, e186, (by decide : 0 + 0 ≤ _), (by decide : 0 + 0 ≤ _)⟩)
                                      dsimp only [Pt.U, Pt.locs, Pt.cells, Pt.slots] at X205 l205 y205 z205 st205 hQ205
                                      subst l205 y205 z205
                                      obtain ⟨hv205, N205q, e205⟩ := hQ205
                                      have N205 := Fr.app N186 N205q
                                      obtain rfl : vr205 = some (.ref (u 3)) := hv205.trans (by unfold own_r2; rw [if_neg hc187, if_neg hc191, if_neg hc195, if_neg hc199, if_pos hc203])
                                      obtain ⟨fs, hr, hrun, hended, hW, hsame⟩ := X205.leave (v := some (.int (1 : Int32))) (fun h => by rw [Bd.returns] at h; cases h)
                                      refine ⟨_, _, pre204 _ ?_, hrun, hended, _, _, rfl, ?_, ⟨_, rfl⟩, hW, hsame.mono (by decide) (by decide)⟩
                                      · show Steps p.tables e below (T186.setTop (mkF m 183 #[.val (.int p0), .val (.int p1), .val (.int (p0 &&& (15 : Int32))), .val (.int p1), .val (.ref (u 3))] [(.int p1), (.ref (u 3))])) _
                                        refine st205 _ ?_
                                        show Steps p.tables e below (T205.setTop (mkF m 186 #[.val (.int p0), .val (.int p1), .val (.int (p0 &&& (15 : Int32))), .val (.int p1), .val (.ref (u 3))] [(.ref (u 3)), (.ref (u 3))])) _
                                        refine Jvm.RoadKit.acmp (g := (mkF m 186 #[.val (.int p0), .val (.int p1), .val (.int (p0 &&& (15 : Int32))), .val (.int p1), .val (.ref (u 3))] [(.ref (u 3)), (.ref (u 3))])) X205 hx rfl rfl rfl (pc0 := 186) (pc' := 189) (same := true) rfl (hb hby at_186) rfl (decide_eq_true rfl) (by decide) (by decide) ?_
                                        show Steps p.tables e below (T205.setTop (mkF m 189 #[.val (.int p0), .val (.int p1), .val (.int (p0 &&& (15 : Int32))), .val (.int p1), .val (.ref (u 3))] [])) _
                                        refine XS.iconst X205.here hx rfl (hb hby at_189) ?_
                                        show Steps p.tables e below (T205.setTop (mkF m 190 #[.val (.int p0), .val (.int p1), .val (.int (p0 &&& (15 : Int32))), .val (.int p1), .val (.ref (u 3))] [(.int (1 : Int32))])) _
                                        refine XS.goto X205.here hx rfl (pc0 := 190) (pc' := 194) rfl (hb hby at_190) (by decide) (by decide) ?_
                                        show Steps p.tables e below (T205.setTop (mkF m 194 #[.val (.int p0), .val (.int p1), .val (.int (p0 &&& (15 : Int32))), .val (.int p1), .val (.ref (u 3))] [(.int (1 : Int32))])) _
                                        exact retN X205 hx (t := .boolean) Bd.returns (by simp) (hb hby at_194) hr
                                      · show own_Q0 Z u p0 p1 h0 n0 _ T205.heap _
                                        rw [e205]
                                        exact ⟨rfl, N205, trivial⟩
                                    · --
                                      by_cases hc207 : p1 = (502 : Int32)
                                      · --
                                        obtain rfl : vr186 = some (.ref (u 3)) := hv186.trans (by unfold own_r1; rw [if_neg hc187, if_neg hc191, if_neg hc195, if_neg hc199, if_neg hc203, if_pos hc207])
                                        have pre208 : ∀ t, Steps p.tables e below (T186.setTop (mkF m 183 #[.val (.int p0), .val (.int p1), .val (.int (p0 &&& (15 : Int32))), .val (.int p1), .val (.ref (u 3))] [(.int p1), (.ref (u 3))])) t → Steps p.tables e below (s₁.setTop (entryFrame m #[(.int p0), (.int p1)] maxLocals)) t := fun t kt => pre185 t (by
                                          show Steps p.tables e below (s₁.setTop (mkF m 175 #[.val (.int p0), .val (.int p1), .val (.int (p0 &&& (15 : Int32))), .val (.int p1), .unset] [(.int p1)])) _
                                          refine st186 _ ?_
                                          show Steps p.tables e below (T186.setTop (mkF m 178 #[.val (.int p0), .val (.int p1), .val (.int (p0 &&& (15 : Int32))), .val (.int p1), .unset] [(.ref (u 3))])) _
                                          refine XS.astore X186.here hx rfl (hb hby at_178) rfl rfl (l' := #[.val (.int p0), .val (.int p1), .val (.int (p0 &&& (15 : Int32))), .val (.int p1), .val (.ref (u 3))]) rfl ?_
                                          show Steps p.tables e below (T186.setTop (mkF m 180 #[.val (.int p0), .val (.int p1), .val (.int (p0 &&& (15 : Int32))), .val (.int p1), .val (.ref (u 3))] [])) _
                                          refine XS.aload X186.here hx rfl (hb hby at_180) rfl rfl ?_
                                          show Steps p.tables e below (T186.setTop (mkF m 182 #[.val (.int p0), .val (.int p1), .val (.int (p0 &&& (15 : Int32))), .val (.int p1), .val (.ref (u 3))] [(.ref (u 3))])) _
                                          refine XS.iloadN X186.here hx rfl (hb hby at_182) rfl ?_
                                          exact kt)
                                        obtain ⟨vr209, _, ⟨T209, L209, k209, n209⟩, -, X209, ⟨Lc209, hQ209, l209, y209, z209⟩, st209⟩ := Jvm.LawKit.callS X186 hx (y := (⟨"com/example/trailwire/trailwire/status/StatusCodeForHttpStatusPinLaw", "expected", "(I)Lcom/example/trailwire/trailwire/status/StatusCode;"⟩ : MethodName)) hown (mvT hZ (hw _ (List.mem_of_getElem? (i := 6) rfl))) (mvT hZ (hw _ (List.mem_of_getElem? (i := 7) rfl))) (mvT hZ (hw _ (List.mem_of_getElem? (i := 8) rfl))) (mvT hZ (hw _ (List.mem_of_getElem? (i := 9) rfl))) (by decide) (backOf (W := 1) (rm2 l Z a0 hw [] u p1 B h0 n0 O ) hZ (hw _ (List.mem_of_getElem? (i := 9) rfl)) (hw _ (List.mem_of_getElem? (i := 8) rfl)) (by decide) (by decide)) (g := (mkF m 183 #[.val (.int p0), .val (.int p1), .val (.int (p0 &&& (15 : Int32))), .val (.int p1), .val (.ref (u 3))] [(.int p1), (.ref (u 3))])) rfl (by rw [hml]; rfl) (argsL := [(.int p1)]) (rest := [(.ref (u 3))]) (lenOf own_pd0 rfl) rfl (by show 2 * 0 + _ ≤ _; exact Nat.le_of_eq rfl) (hb hby at_183) (fun _ _ => ⟨rfl, e186, (by decide : 0 + 0 ≤ _), (by decide : 0 + 0 ≤ _)⟩)
                                        dsimp only [Pt.U, Pt.locs, Pt.cells, Pt.slots] at X209 l209 y209 z209 st209 hQ209
                                        subst l209 y209 z209
                                        obtain ⟨hv209, N209q, e209⟩ := hQ209
                                        have N209 := Fr.app N186 N209q
                                        obtain rfl : vr209 = some (.ref (u 3)) := hv209.trans (by unfold own_r2; rw [if_neg hc187, if_neg hc191, if_neg hc195, if_neg hc199, if_neg hc203, if_pos hc207])
                                        obtain ⟨fs, hr, hrun, hended, hW, hsame⟩ := X209.leave (v := some (.int (1 : Int32))) (fun h => by rw [Bd.returns] at h; cases h)
                                        refine ⟨_, _, pre208 _ ?_, hrun, hended, _, _, rfl, ?_, ⟨_, rfl⟩, hW, hsame.mono (by decide) (by decide)⟩
                                        · show Steps p.tables e below (T186.setTop (mkF m 183 #[.val (.int p0), .val (.int p1), .val (.int (p0 &&& (15 : Int32))), .val (.int p1), .val (.ref (u 3))] [(.int p1), (.ref (u 3))])) _
                                          refine st209 _ ?_
                                          show Steps p.tables e below (T209.setTop (mkF m 186 #[.val (.int p0), .val (.int p1), .val (.int (p0 &&& (15 : Int32))), .val (.int p1), .val (.ref (u 3))] [(.ref (u 3)), (.ref (u 3))])) _
                                          refine Jvm.RoadKit.acmp (g := (mkF m 186 #[.val (.int p0), .val (.int p1), .val (.int (p0 &&& (15 : Int32))), .val (.int p1), .val (.ref (u 3))] [(.ref (u 3)), (.ref (u 3))])) X209 hx rfl rfl rfl (pc0 := 186) (pc' := 189) (same := true) rfl (hb hby at_186) rfl (decide_eq_true rfl) (by decide) (by decide) ?_
                                          show Steps p.tables e below (T209.setTop (mkF m 189 #[.val (.int p0), .val (.int p1), .val (.int (p0 &&& (15 : Int32))), .val (.int p1), .val (.ref (u 3))] [])) _
                                          refine XS.iconst X209.here hx rfl (hb hby at_189) ?_
                                          show Steps p.tables e below (T209.setTop (mkF m 190 #[.val (.int p0), .val (.int p1), .val (.int (p0 &&& (15 : Int32))), .val (.int p1), .val (.ref (u 3))] [(.int (1 : Int32))])) _
                                          refine XS.goto X209.here hx rfl (pc0 := 190) (pc' := 194) rfl (hb hby at_190) (by decide) (by decide) ?_
                                          show Steps p.tables e below (T209.setTop (mkF m 194 #[.val (.int p0), .val (.int p1), .val (.int (p0 &&& (15 : Int32))), .val (.int p1), .val (.ref (u 3))] [(.int (1 : Int32))])) _
                                          exact retN X209 hx (t := .boolean) Bd.returns (by simp) (hb hby at_194) hr
                                        · show own_Q0 Z u p0 p1 h0 n0 _ T209.heap _
                                          rw [e209]
                                          exact ⟨rfl, N209, trivial⟩
                                      · --
                                        by_cases hc211 : p1 = (503 : Int32)
                                        · --
                                          obtain rfl : vr186 = some (.ref (u 3)) := hv186.trans (by unfold own_r1; rw [if_neg hc187, if_neg hc191, if_neg hc195, if_neg hc199, if_neg hc203, if_neg hc207, if_pos hc211])
                                          have pre212 : ∀ t, Steps p.tables e below (T186.setTop (mkF m 183 #[.val (.int p0), .val (.int p1), .val (.int (p0 &&& (15 : Int32))), .val (.int p1), .val (.ref (u 3))] [(.int p1), (.ref (u 3))])) t → Steps p.tables e below (s₁.setTop (entryFrame m #[(.int p0), (.int p1)] maxLocals)) t := fun t kt => pre185 t (by
                                            show Steps p.tables e below (s₁.setTop (mkF m 175 #[.val (.int p0), .val (.int p1), .val (.int (p0 &&& (15 : Int32))), .val (.int p1), .unset] [(.int p1)])) _
                                            refine st186 _ ?_
                                            show Steps p.tables e below (T186.setTop (mkF m 178 #[.val (.int p0), .val (.int p1), .val (.int (p0 &&& (15 : Int32))), .val (.int p1), .unset] [(.ref (u 3))])) _
                                            refine XS.astore X186.here hx rfl (hb hby at_178) rfl rfl (l' := #[.val (.int p0), .val (.int p1), .val (.int (p0 &&& (15 : Int32))), .val (.int p1), .val (.ref (u 3))]) rfl ?_
                                            show Steps p.tables e below (T186.setTop (mkF m 180 #[.val (.int p0), .val (.int p1), .val (.int (p0 &&& (15 : Int32))), .val (.int p1), .val (.ref (u 3))] [])) _
                                            refine XS.aload X186.here hx rfl (hb hby at_180) rfl rfl ?_
                                            show Steps p.tables e below (T186.setTop (mkF m 182 #[.val (.int p0), .val (.int p1), .val (.int (p0 &&& (15 : Int32))), .val (.int p1), .val (.ref (u 3))] [(.ref (u 3))])) _
                                            refine XS.iloadN X186.here hx rfl (hb hby at_182) rfl ?_
                                            exact kt)
                                          obtain ⟨vr213, _, ⟨T213, L213, k213, n213⟩, -, X213, ⟨Lc213, hQ213, l213, y213, z213⟩, st213⟩ := Jvm.LawKit.callS X186 hx (y := (⟨"com/example/trailwire/trailwire/status/StatusCodeForHttpStatusPinLaw", "expected", "(I)Lcom/example/trailwire/trailwire/status/StatusCode;"⟩ : MethodName)) hown (mvT hZ (hw _ (List.mem_of_getElem? (i := 6) rfl))) (mvT hZ (hw _ (List.mem_of_getElem? (i := 7) rfl))) (mvT hZ (hw _ (List.mem_of_getElem? (i := 8) rfl))) (mvT hZ (hw _ (List.mem_of_getElem? (i := 9) rfl))) (by decide) (backOf (W := 1) (rm2 l Z a0 hw [] u p1 B h0 n0 O ) hZ (hw _ (List.mem_of_getElem? (i := 9) rfl)) (hw _ (List.mem_of_getElem? (i := 8) rfl)) (by decide) (by decide)) (g := (mkF m 183 #[.val (.int p0), .val (.int p1), .val (.int (p0 &&& (15 : Int32))), .val (.int p1), .val (.ref (u 3))] [(.int p1), (.ref (u 3))])) rfl (by rw [hml]; rfl) (argsL := [(.int p1)]) (rest := [(.ref (u 3))]) (lenOf own_pd0 rfl) rfl (by show 2 * 0 + _ ≤ _; exact Nat.le_of_eq rfl) (hb hby at_183) (fun _ _ => ⟨rfl, e186, (by decide : 0 + 0 ≤ _), (by decide : 0 + 0 ≤ _)⟩)
                                          dsimp only [Pt.U, Pt.locs, Pt.cells, Pt.slots] at X213 l213 y213 z213 st213 hQ213
                                          subst l213 y213 z213
                                          obtain ⟨hv213, N213q, e213⟩ := hQ213
                                          have N213 := Fr.app N186 N213q
                                          obtain rfl : vr213 = some (.ref (u 3)) := hv213.trans (by unfold own_r2; rw [if_neg hc187, if_neg hc191, if_neg hc195, if_neg hc199, if_neg hc203, if_neg hc207, if_pos hc211])
                                          obtain ⟨fs, hr, hrun, hended, hW, hsame⟩ := X213.leave (v := some (.int (1 : Int32))) (fun h => by rw [Bd.returns] at h; cases h)
                                          refine ⟨_, _, pre212 _ ?_, hrun, hended, _, _, rfl, ?_, ⟨_, rfl⟩, hW, hsame.mono (by decide) (by decide)⟩
                                          · show Steps p.tables e below (T186.setTop (mkF m 183 #[.val (.int p0), .val (.int p1), .val (.int (p0 &&& (15 : Int32))), .val (.int p1), .val (.ref (u 3))] [(.int p1), (.ref (u 3))])) _
                                            refine st213 _ ?_
                                            show Steps p.tables e below (T213.setTop (mkF m 186 #[.val (.int p0), .val (.int p1), .val (.int (p0 &&& (15 : Int32))), .val (.int p1), .val (.ref (u 3))] [(.ref (u 3)), (.ref (u 3))])) _
                                            refine Jvm.RoadKit.acmp (g := (mkF m 186 #[.val (.int p0), .val (.int p1), .val (.int (p0 &&& (15 : Int32))), .val (.int p1), .val (.ref (u 3))] [(.ref (u 3)), (.ref (u 3))])) X213 hx rfl rfl rfl (pc0 := 186) (pc' := 189) (same := true) rfl (hb hby at_186) rfl (decide_eq_true rfl) (by decide) (by decide) ?_
                                            show Steps p.tables e below (T213.setTop (mkF m 189 #[.val (.int p0), .val (.int p1), .val (.int (p0 &&& (15 : Int32))), .val (.int p1), .val (.ref (u 3))] [])) _
                                            refine XS.iconst X213.here hx rfl (hb hby at_189) ?_
                                            show Steps p.tables e below (T213.setTop (mkF m 190 #[.val (.int p0), .val (.int p1), .val (.int (p0 &&& (15 : Int32))), .val (.int p1), .val (.ref (u 3))] [(.int (1 : Int32))])) _
                                            refine XS.goto X213.here hx rfl (pc0 := 190) (pc' := 194) rfl (hb hby at_190) (by decide) (by decide) ?_
                                            show Steps p.tables e below (T213.setTop (mkF m 194 #[.val (.int p0), .val (.int p1), .val (.int (p0 &&& (15 : Int32))), .val (.int p1), .val (.ref (u 3))] [(.int (1 : Int32))])) _
                                            exact retN X213 hx (t := .boolean) Bd.returns (by simp) (hb hby at_194) hr
                                          · show own_Q0 Z u p0 p1 h0 n0 _ T213.heap _
                                            rw [e213]
                                            exact ⟨rfl, N213, trivial⟩
                                        · --
                                          by_cases hc215 : p1 = (504 : Int32)
                                          · --
                                            obtain rfl : vr186 = some (.ref (u 3)) := hv186.trans (by unfold own_r1; rw [if_neg hc187, if_neg hc191, if_neg hc195, if_neg hc199, if_neg hc203, if_neg hc207, if_neg hc211, if_pos hc215])
                                            have pre216 : ∀ t, Steps p.tables e below (T186.setTop (mkF m 183 #[.val (.int p0), .val (.int p1), .val (.int (p0 &&& (15 : Int32))), .val (.int p1), .val (.ref (u 3))] [(.int p1), (.ref (u 3))])) t → Steps p.tables e below (s₁.setTop (entryFrame m #[(.int p0), (.int p1)] maxLocals)) t := fun t kt => pre185 t (by
                                              show Steps p.tables e below (s₁.setTop (mkF m 175 #[.val (.int p0), .val (.int p1), .val (.int (p0 &&& (15 : Int32))), .val (.int p1), .unset] [(.int p1)])) _
                                              refine st186 _ ?_
                                              show Steps p.tables e below (T186.setTop (mkF m 178 #[.val (.int p0), .val (.int p1), .val (.int (p0 &&& (15 : Int32))), .val (.int p1), .unset] [(.ref (u 3))])) _
                                              refine XS.astore X186.here hx rfl (hb hby at_178) rfl rfl (l' := #[.val (.int p0), .val (.int p1), .val (.int (p0 &&& (15 : Int32))), .val (.int p1), .val (.ref (u 3))]) rfl ?_
                                              show Steps p.tables e below (T186.setTop (mkF m 180 #[.val (.int p0), .val (.int p1), .val (.int (p0 &&& (15 : Int32))), .val (.int p1), .val (.ref (u 3))] [])) _
                                              refine XS.aload X186.here hx rfl (hb hby at_180) rfl rfl ?_
                                              show Steps p.tables e below (T186.setTop (mkF m 182 #[.val (.int p0), .val (.int p1), .val (.int (p0 &&& (15 : Int32))), .val (.int p1), .val (.ref (u 3))] [(.ref (u 3))])) _
                                              refine XS.iloadN X186.here hx rfl (hb hby at_182) rfl ?_
                                              exact kt)
                                            obtain ⟨vr217, _, ⟨T217, L217, k217, n217⟩, -, X217, ⟨Lc217, hQ217, l217, y217, z217⟩, st217⟩ := Jvm.LawKit.callS X186 hx (y := (⟨"com/example/trailwire/trailwire/status/StatusCodeForHttpStatusPinLaw", "expected", "(I)Lcom/example/trailwire/trailwire/status/StatusCode;"⟩ : MethodName)) hown (mvT hZ (hw _ (List.mem_of_getElem? (i := 6) rfl))) (mvT hZ (hw _ (List.mem_of_getElem? (i := 7) rfl))) (mvT hZ (hw _ (List.mem_of_getElem? (i := 8) rfl))) (mvT hZ (hw _ (List.mem_of_getElem? (i := 9) rfl))) (by decide) (backOf (W := 1) (rm2 l Z a0 hw [] u p1 B h0 n0 O ) hZ (hw _ (List.mem_of_getElem? (i := 9) rfl)) (hw _ (List.mem_of_getElem? (i := 8) rfl)) (by decide) (by decide)) (g := (mkF m 183 #[.val (.int p0), .val (.int p1), .val (.int (p0 &&& (15 : Int32))), .val (.int p1), .val (.ref (u 3))] [(.int p1), (.ref (u 3))])) rfl (by rw [hml]; rfl) (argsL := [(.int p1)]) (rest := [(.ref (u 3))]) (lenOf own_pd0 rfl) rfl (by show 2 * 0 + _ ≤ _; exact Nat.le_of_eq rfl) (hb hby at_183) (fun _ _ => ⟨rfl, e186, (by decide : 0 + 0 ≤ _), (by decide : 0 + 0 ≤ _)⟩)
                                            dsimp only [Pt.U, Pt.locs, Pt.cells, Pt.slots] at X217 l217 y217 z217 st217 hQ217
                                            subst l217 y217 z217
                                            obtain ⟨hv217, N217q, e217⟩ := hQ217
                                            have N217 := Fr.app N186 N217q
                                            obtain rfl : vr217 = some (.ref (u 3)) := hv217.trans (by unfold own_r2; rw [if_neg hc187, if_neg hc191, if_neg hc195, if_neg hc199, if_neg hc203, if_neg hc207, if_neg hc211, if_pos hc215])
                                            obtain ⟨fs, hr, hrun, hended, hW, hsame⟩ := X217.leave (v := some (.int (1 : Int32))) (fun h => by rw [Bd.returns] at h; cases h)
                                            refine ⟨_, _, pre216 _ ?_, hrun, hended, _, _, rfl, ?_, ⟨_, rfl⟩, hW, hsame.mono (by decide) (by decide)⟩
                                            · show Steps p.tables e below (T186.setTop (mkF m 183 #[.val (.int p0), .val (.int p1), .val (.int (p0 &&& (15 : Int32))), .val (.int p1), .val (.ref (u 3))] [(.int p1), (.ref (u 3))])) _
                                              refine st217 _ ?_
                                              show Steps p.tables e below (T217.setTop (mkF m 186 #[.val (.int p0), .val (.int p1), .val (.int (p0 &&& (15 : Int32))), .val (.int p1), .val (.ref (u 3))] [(.ref (u 3)), (.ref (u 3))])) _
                                              refine Jvm.RoadKit.acmp (g := (mkF m 186 #[.val (.int p0), .val (.int p1), .val (.int (p0 &&& (15 : Int32))), .val (.int p1), .val (.ref (u 3))] [(.ref (u 3)), (.ref (u 3))])) X217 hx rfl rfl rfl (pc0 := 186) (pc' := 189) (same := true) rfl (hb hby at_186) rfl (decide_eq_true rfl) (by decide) (by decide) ?_
                                              show Steps p.tables e below (T217.setTop (mkF m 189 #[.val (.int p0), .val (.int p1), .val (.int (p0 &&& (15 : Int32))), .val (.int p1), .val (.ref (u 3))] [])) _
                                              refine XS.iconst X217.here hx rfl (hb hby at_189) ?_
                                              show Steps p.tables e below (T217.setTop (mkF m 190 #[.val (.int p0), .val (.int p1), .val (.int (p0 &&& (15 : Int32))), .val (.int p1), .val (.ref (u 3))] [(.int (1 : Int32))])) _
                                              refine XS.goto X217.here hx rfl (pc0 := 190) (pc' := 194) rfl (hb hby at_190) (by decide) (by decide) ?_
                                              show Steps p.tables e below (T217.setTop (mkF m 194 #[.val (.int p0), .val (.int p1), .val (.int (p0 &&& (15 : Int32))), .val (.int p1), .val (.ref (u 3))] [(.int (1 : Int32))])) _
                                              exact retN X217 hx (t := .boolean) Bd.returns (by simp) (hb hby at_194) hr
                                            · show own_Q0 Z u p0 p1 h0 n0 _ T217.heap _
                                              rw [e217]
                                              exact ⟨rfl, N217, trivial⟩
                                          · --
                                            obtain rfl : vr186 = some (.ref (u 1)) := hv186.trans (by unfold own_r1; rw [if_neg hc187, if_neg hc191, if_neg hc195, if_neg hc199, if_neg hc203, if_neg hc207, if_neg hc211, if_neg hc215])
                                            have pre219 : ∀ t, Steps p.tables e below (T186.setTop (mkF m 183 #[.val (.int p0), .val (.int p1), .val (.int (p0 &&& (15 : Int32))), .val (.int p1), .val (.ref (u 1))] [(.int p1), (.ref (u 1))])) t → Steps p.tables e below (s₁.setTop (entryFrame m #[(.int p0), (.int p1)] maxLocals)) t := fun t kt => pre185 t (by
                                              show Steps p.tables e below (s₁.setTop (mkF m 175 #[.val (.int p0), .val (.int p1), .val (.int (p0 &&& (15 : Int32))), .val (.int p1), .unset] [(.int p1)])) _
                                              refine st186 _ ?_
                                              show Steps p.tables e below (T186.setTop (mkF m 178 #[.val (.int p0), .val (.int p1), .val (.int (p0 &&& (15 : Int32))), .val (.int p1), .unset] [(.ref (u 1))])) _
                                              refine XS.astore X186.here hx rfl (hb hby at_178) rfl rfl (l' := #[.val (.int p0), .val (.int p1), .val (.int (p0 &&& (15 : Int32))), .val (.int p1), .val (.ref (u 1))]) rfl ?_
                                              show Steps p.tables e below (T186.setTop (mkF m 180 #[.val (.int p0), .val (.int p1), .val (.int (p0 &&& (15 : Int32))), .val (.int p1), .val (.ref (u 1))] [])) _
                                              refine XS.aload X186.here hx rfl (hb hby at_180) rfl rfl ?_
                                              show Steps p.tables e below (T186.setTop (mkF m 182 #[.val (.int p0), .val (.int p1), .val (.int (p0 &&& (15 : Int32))), .val (.int p1), .val (.ref (u 1))] [(.ref (u 1))])) _
                                              refine XS.iloadN X186.here hx rfl (hb hby at_182) rfl ?_
                                              exact kt)
                                            obtain ⟨vr220, _, ⟨T220, L220, k220, n220⟩, -, X220, ⟨Lc220, hQ220, l220, y220, z220⟩, st220⟩ := Jvm.LawKit.callS X186 hx (y := (⟨"com/example/trailwire/trailwire/status/StatusCodeForHttpStatusPinLaw", "expected", "(I)Lcom/example/trailwire/trailwire/status/StatusCode;"⟩ : MethodName)) hown (mvT hZ (hw _ (List.mem_of_getElem? (i := 6) rfl))) (mvT hZ (hw _ (List.mem_of_getElem? (i := 7) rfl))) (mvT hZ (hw _ (List.mem_of_getElem? (i := 8) rfl))) (mvT hZ (hw _ (List.mem_of_getElem? (i := 9) rfl))) (by decide) (backOf (W := 1) (rm2 l Z a0 hw [] u p1 B h0 n0 O ) hZ (hw _ (List.mem_of_getElem? (i := 9) rfl)) (hw _ (List.mem_of_getElem? (i := 8) rfl)) (by decide) (by decide)) (g := (mkF m 183 #[.val (.int p0), .val (.int p1), .val (.int (p0 &&& (15 : Int32))), .val (.int p1), .val (.ref (u 1))] [(.int p1), (.ref (u 1))])) rfl (by rw [hml]; rfl) (argsL := [(.int p1)]) (rest := [(.ref (u 1))]) (lenOf own_pd0 rfl) rfl (by show 2 * 0 + _ ≤ _; exact Nat.le_of_eq rfl) (hb hby at_183) (fun _ _ => ⟨rfl, e186, (by decide : 0 + 0 ≤ _), (by decide : 0 + 0 ≤ _)⟩)
                                            dsimp only [Pt.U, Pt.locs, Pt.cells, Pt.slots] at X220 l220 y220 z220 st220 hQ220
                                            subst l220 y220 z220
                                            obtain ⟨hv220, N220q, e220⟩ := hQ220
                                            have N220 := Fr.app N186 N220q
                                            obtain rfl : vr220 = some (.ref (u 1)) := hv220.trans (by unfold own_r2; rw [if_neg hc187, if_neg hc191, if_neg hc195, if_neg hc199, if_neg hc203, if_neg hc207, if_neg hc211, if_neg hc215])
                                            obtain ⟨fs, hr, hrun, hended, hW, hsame⟩ := X220.leave (v := some (.int (1 : Int32))) (fun h => by rw [Bd.returns] at h; cases h)
                                            refine ⟨_, _, pre219 _ ?_, hrun, hended, _, _, rfl, ?_, ⟨_, rfl⟩, hW, hsame.mono (by decide) (by decide)⟩
                                            · show Steps p.tables e below (T186.setTop (mkF m 183 #[.val (.int p0), .val (.int p1), .val (.int (p0 &&& (15 : Int32))), .val (.int p1), .val (.ref (u 1))] [(.int p1), (.ref (u 1))])) _
                                              refine st220 _ ?_
                                              show Steps p.tables e below (T220.setTop (mkF m 186 #[.val (.int p0), .val (.int p1), .val (.int (p0 &&& (15 : Int32))), .val (.int p1), .val (.ref (u 1))] [(.ref (u 1)), (.ref (u 1))])) _
                                              refine Jvm.RoadKit.acmp (g := (mkF m 186 #[.val (.int p0), .val (.int p1), .val (.int (p0 &&& (15 : Int32))), .val (.int p1), .val (.ref (u 1))] [(.ref (u 1)), (.ref (u 1))])) X220 hx rfl rfl rfl (pc0 := 186) (pc' := 189) (same := true) rfl (hb hby at_186) rfl (decide_eq_true rfl) (by decide) (by decide) ?_
                                              show Steps p.tables e below (T220.setTop (mkF m 189 #[.val (.int p0), .val (.int p1), .val (.int (p0 &&& (15 : Int32))), .val (.int p1), .val (.ref (u 1))] [])) _
                                              refine XS.iconst X220.here hx rfl (hb hby at_189) ?_
                                              show Steps p.tables e below (T220.setTop (mkF m 190 #[.val (.int p0), .val (.int p1), .val (.int (p0 &&& (15 : Int32))), .val (.int p1), .val (.ref (u 1))] [(.int (1 : Int32))])) _
                                              refine XS.goto X220.here hx rfl (pc0 := 190) (pc' := 194) rfl (hb hby at_190) (by decide) (by decide) ?_
                                              show Steps p.tables e below (T220.setTop (mkF m 194 #[.val (.int p0), .val (.int p1), .val (.int (p0 &&& (15 : Int32))), .val (.int p1), .val (.ref (u 1))] [(.int (1 : Int32))])) _
                                              exact retN X220 hx (t := .boolean) Bd.returns (by simp) (hb hby at_194) hr
                                            · show own_Q0 Z u p0 p1 h0 n0 _ T220.heap _
                                              rw [e220]
                                              exact ⟨rfl, N220, trivial⟩
set_option maxRecDepth 65536 in
set_option maxHeartbeats 40000000 in
theorem comes_1 {Post : Tables → Env → Array Value → State → Outcome → State → Prop} (hpost : ∀ tb e args s v u, (limb_1_1.after args s (.returned v) u = true ∧ limb_1_2.after args s (.returned v) u = true ∧ True) → FrameEnd s (.returned v) u (Jvm.fieldLocs frame_1_writes args s ++ Jvm.arrayLocs frame_1_arrays args s ++ Jvm.staticLocs frame_1_statics s) 0 0 → Post tb e args s (.returned v) u) :
    ArmFor flags0 classFile x code maxLocals ret World_1 tables_1 room_1 Calls_1 rest_1 Pre_1 Post := by
  intro l hfl _ _ p e ha hc hk s m args below hf hA hF happ hP
  obtain ⟨hcalls, hrest, hpre⟩ := hP
  obtain ⟨-, -, -, hnamed, -, -, -, hat⟩ := (Spec.applies_iff hf).mp happ
  obtain ⟨hg, hn⟩ := and_e (Cond.before_iff.mp (show (Jvm.Cond.and given_1 narrow_1).before args s = true from hpre))
  obtain ⟨g0, gr0⟩ := and_e hg
  obtain ⟨g1, gr1⟩ := and_e gr0
  have g2 := gr1
  obtain ⟨w0, w1, rfl⟩ : ∃ w0 w1 : Value, args = #[w0, w1] := by
    have hs : args.size = 2 := by simpa [Cond.value, given_1] using g0
    obtain ⟨L⟩ := args
    match L, hs with
    | [w0, w1], _ => exact ⟨w0, w1, rfl⟩
  have hw := fun d (hd : d ∈ tables_1) => atoms_spec (ws := Jvm.Cond.code x code maxLocals ret :: tables_1) hat d (List.mem_cons_of_mem _ hd)
  have hfit : Fit s := fun {y c} hc i hi => by
    obtain ⟨ha, rfl⟩ := Array.getElem?_eq_some_iff.mp hc
    have q := List.all_eq_true.mp ((Array.all_eq_true_iff_forall_mem.mp hF) _ (Array.getElem_mem ha)) i (List.mem_range.mpr hi)
    simpa [Array.getElem?_eq_getElem hi] using q
  obtain ⟨i0, ei0⟩ := is_v g1
  obtain rfl : w0 = (.int i0) := Option.some.inj ei0
  obtain ⟨i1, ei1⟩ := is_v g2
  obtain rfl : w1 = (.int i1) := Option.some.inj ei1
  obtain ⟨b0, hn0⟩ := and_e hn
  obtain ⟨b1, hn1⟩ := and_e hn0
  obtain ⟨b2, hn2⟩ := and_e hn1
  obtain ⟨b3, hn3⟩ := and_e hn2
  obtain ⟨b4, hn4⟩ := and_e hn3
  have b5 := hn4
  obtain ⟨x0, v0⟩ := exa_v b0
  obtain ⟨x1, v1⟩ := exa_v b1
  obtain ⟨x2, v2⟩ := exa_v b2
  obtain ⟨x3, v3⟩ := exa_v b3
  obtain ⟨x4, v4⟩ := exa_v b4
  obtain ⟨x5, v5⟩ := exa_v b5
  have B : own_Base s (fun i => ([x0, x1, x2, x3, x4, x5] : List Addr).getD i 0) := ⟨Sta.start v0 (Or.inr ⟨(hw _ (List.mem_of_getElem? (i := 2) rfl)), (hw _ (List.mem_of_getElem? (i := 5) rfl))⟩),
    Exa.start v0 b0,
    Sta.start v1 (Or.inr ⟨(hw _ (List.mem_of_getElem? (i := 2) rfl)), (hw _ (List.mem_of_getElem? (i := 12) rfl))⟩),
    Exa.start v1 b1,
    Sta.start v2 (Or.inr ⟨(hw _ (List.mem_of_getElem? (i := 2) rfl)), (hw _ (List.mem_of_getElem? (i := 15) rfl))⟩),
    Exa.start v2 b2,
    Sta.start v3 (Or.inr ⟨(hw _ (List.mem_of_getElem? (i := 2) rfl)), (hw _ (List.mem_of_getElem? (i := 18) rfl))⟩),
    Exa.start v3 b3,
    Sta.start v4 (Or.inr ⟨(hw _ (List.mem_of_getElem? (i := 2) rfl)), (hw _ (List.mem_of_getElem? (i := 21) rfl))⟩),
    Exa.start v4 b4,
    Sta.start v5 (Or.inr ⟨(hw _ (List.mem_of_getElem? (i := 2) rfl)), (hw _ (List.mem_of_getElem? (i := 24) rfl))⟩),
    Exa.start v5 b5⟩
  obtain ⟨n, o, h1, h2, h3, _, L, rfl, ⟨rfl, N, -⟩, hq⟩ := rm0 l s _ hw tables_1 (fun i => ([x0, x1, x2, x3, x4, x5] : List Addr).getD i 0) i0 i1 B s.heap s.heap.size (Old.start s)  p e ha hc hk s m _ below hf ((Spec.applies_iff_loose hf).mp happ).1 ⟨rfl, State.Warmed39.refl s, rfl⟩ trivial
  refine ⟨n, _, h1, h2, h3, hpost _ _ _ _ _ _ ⟨Cond.after_iff.mpr rfl, Cond.after_iff.mpr (eq_i res_at (Term.int_eval (1)) rfl), trivial⟩ ⟨hq.1, hq.2.1, (hq.2.2.sift fun y hy => Or.inr (N y hy)).mono (by decide) (by decide)⟩⟩
theorem main_1_1 : Claimed_1_1 := comes_1 fun _ _ _ _ _ _ h hF => ⟨h.1, hF⟩
theorem main_1_2 : Claimed_1_2 := comes_1 fun _ _ _ _ _ _ h hF => ⟨h.2.1, hF⟩
end Jvm.Pilot.@@N@@
namespace Jvm.Pilot.@@N@@
open Jvm Jvm.ClassFile Sem Op Lib Jvm.Free Jvm.Stand Jvm.Pilot.@@N@@.Jvm.D
/-! MADE BY PROGRAM (witnessworld.py) out of the Statement's table words and the real class files: 12 classes; the members and pool entries that the words name. The judged class is class 1, her method 2. -/
namespace start1
open Jvm.ClassFile
def u (s : String) : CpInfo := .utf8 (stringToUtf16 s)
/-- a pool by its gaps: so many unusable entries, then the entry; so many at the end -/
def gap : Nat → List CpInfo → List CpInfo
  | 0, r => r
  | n + 1, r => .unusable :: gap n r
def poolList (es : List (Nat × CpInfo)) (last : Nat) : List CpInfo := es.foldr (fun e r => gap e.1 (e.2 :: r)) (gap last [])
def pool (es : List (Nat × CpInfo)) (last : Nat) : Array CpInfo := ⟨poolList es last⟩
def fileOf (pool : Array CpInfo) (this : Nat) (attrs : Array Attribute := #[]) (ms : Array MethodInfo := #[]) (fl : Nat := 33) (sup : Nat := 0) (ifs : Array Nat := #[]) (fds : Array FieldInfo := #[]) : ClassFile where
  minorVersion := 0
  majorVersion := 65
  constantPool := pool
  accessFlags := fl
  thisClass := this
  superClass := sup
  interfaces := ifs
  fields := fds
  methods := ms
  attributes := attrs
def plain (name : String) (sup : Option ClassId) : Class where
  name := name
  kind := .ordinary
  loader := none
  accessFlags := 33
  super := sup
  interfaces := #[]
  cf := none
  fields := #[]
  methods := #[]
  instanceTypes := #[]
  staticTypes := #[]
  resolved := #[]
  callSites := []
  init := .initialized
  statics := none
  mirror := none

def pool0 : Array CpInfo := pool [(5, u "<init>"), (0, u "()V"), (1, .class_ 10), (1, u "java/lang/Object")] 113

def k0m0 : Method := { name := "<init>", desc := "()V", sig := { parameters := [], returnType := none }, accessFlags := 1, code := none }
/-- java/lang/Object -/
def k0 : Class := { plain "java/lang/Object" none with
  accessFlags := 33
  interfaces := #[]
  cf := some (fileOf pool0 8 #[] #[{ accessFlags := 1, nameIndex := 5, descriptorIndex := 6, attributes := #[] }] 33 0 #[] #[])
  fields := #[]
  methods := #[k0m0]
  instanceTypes := #[]
  staticTypes := #[]
  resolved := Array.replicate 124 none
  statics := none }

def pool1 : Array CpInfo := pool [(2, .class_ 4), (1, u "java/lang/Object"), (0, u "<init>"), (0, u "()V"), (0, .fieldref 8 9), (0, .class_ 10), (0, .nameAndType 11 12), (0, u "com/example/trailwire/trailwire/status/StatusCode"), (0, u "INTERNAL"), (0, u "Lcom/example/trailwire/trailwire/status/StatusCode;"), (0, .fieldref 8 14), (0, .nameAndType 15 12), (0, u "UNAUTHENTICATED"), (0, .fieldref 8 17), (0, .nameAndType 18 12), (0, u "PERMISSION_DENIED"), (0, .fieldref 8 20), (0, .nameAndType 21 12), (0, u "UNIMPLEMENTED"), (0, .fieldref 8 23), (0, .nameAndType 24 12), (0, u "UNAVAILABLE"), (0, .fieldref 8 26), (0, .nameAndType 27 12), (0, u "UNKNOWN"), (0, .methodref 8 29), (0, .nameAndType 30 31), (0, u "forHttpStatus"), (0, u "(I)Lcom/example/trailwire/trailwire/status/StatusCode;"), (0, .methodref 33 34), (0, .class_ 35), (0, .nameAndType 36 31), (0, u "com/example/trailwire/trailwire/status/StatusCodeForHttpStatusPinLaw"), (0, u "expected"), (3, u "law"), (0, u "(II)Z")] 2

def k1m0 : Method := { name := "<init>", desc := "()V", sig := { parameters := [], returnType := none }, accessFlags := 2, code := none }
def k1c1 : Code := { maxStack := 2, maxLocals := 1, code := method_2_code, exceptionTable := #[], attributes := #[] }
def k1m1 : Method := { name := "expected", desc := "(I)Lcom/example/trailwire/trailwire/status/StatusCode;", sig := { parameters := [.int], returnType := some (.object "com/example/trailwire/trailwire/status/StatusCode") }, accessFlags := 10, code := some k1c1 }
def k1c2 : Code := { maxStack := 3, maxLocals := 5, code := code, exceptionTable := #[], attributes := #[] }
def k1m2 : Method := { name := "law", desc := "(II)Z", sig := { parameters := [.int, .int], returnType := some .boolean }, accessFlags := 9, code := some k1c2 }
/-- com/example/trailwire/trailwire/status/StatusCodeForHttpStatusPinLaw -/
def k1 : Class := { plain "com/example/trailwire/trailwire/status/StatusCodeForHttpStatusPinLaw" (some 0) with
  accessFlags := 49
  interfaces := #[]
  cf := some (fileOf pool1 33 #[] #[{ accessFlags := 2, nameIndex := 5, descriptorIndex := 6, attributes := #[] }, { accessFlags := 10, nameIndex := 36, descriptorIndex := 31, attributes := #[] }, { accessFlags := 9, nameIndex := 40, descriptorIndex := 41, attributes := #[] }] 49 2 #[] #[])
  fields := #[]
  methods := #[k1m0, k1m1, k1m2]
  instanceTypes := #[]
  staticTypes := #[]
  resolved := Array.replicate 44 none
  statics := none }

def pool2 : Array CpInfo := pool [(1, .class_ 2), (0, u "java/lang/constant/Constable"), (0, .class_ 4), (0, u "java/lang/Object")] 6

/-- java/lang/constant/Constable -/
def k2 : Class := { plain "java/lang/constant/Constable" (some 0) with
  accessFlags := 1537
  interfaces := #[]
  cf := some (fileOf pool2 1 #[] #[] 1537 3 #[] #[])
  fields := #[]
  methods := #[]
  instanceTypes := #[]
  staticTypes := #[]
  resolved := Array.replicate 11 none
  statics := none }

def pool3 : Array CpInfo := pool [(1, .class_ 2), (0, u "java/lang/Comparable"), (0, .class_ 4), (0, u "java/lang/Object")] 7

/-- java/lang/Comparable -/
def k3 : Class := { plain "java/lang/Comparable" (some 0) with
  accessFlags := 1537
  interfaces := #[]
  cf := some (fileOf pool3 1 #[] #[] 1537 3 #[] #[])
  fields := #[]
  methods := #[]
  instanceTypes := #[]
  staticTypes := #[]
  resolved := Array.replicate 12 none
  statics := none }

def pool4 : Array CpInfo := pool [(1, .class_ 2), (0, u "java/io/Serializable"), (0, .class_ 4), (0, u "java/lang/Object")] 2

/-- java/io/Serializable -/
def k4 : Class := { plain "java/io/Serializable" (some 0) with
  accessFlags := 1537
  interfaces := #[]
  cf := some (fileOf pool4 1 #[] #[] 1537 3 #[] #[])
  fields := #[]
  methods := #[]
  instanceTypes := #[]
  staticTypes := #[]
  resolved := Array.replicate 7 none
  statics := none }

def pool5 : Array CpInfo := pool [(2, .class_ 4), (1, u "java/lang/Enum"), (0, u "name"), (0, u "Ljava/lang/String;"), (2, u "ordinal"), (0, u "I"), (1, .class_ 14), (1, u "java/lang/Object"), (4, u "hash"), (86, .class_ 108), (1, u "java/lang/Enum$EnumDesc"), (2, .class_ 112), (0, u "java/lang/constant/Constable"), (0, .class_ 114), (0, u "java/lang/Comparable"), (0, .class_ 116), (0, u "java/io/Serializable")] 87

/-- java/lang/Enum -/
def k5 : Class := { plain "java/lang/Enum" (some 0) with
  accessFlags := 1057
  interfaces := #[2, 3, 4]
  cf := some (fileOf pool5 2 #[.nestMembers #[106]] #[] 1057 12 #[111, 113, 115] #[{ accessFlags := 18, nameIndex := 5, descriptorIndex := 6, attributes := #[] }, { accessFlags := 18, nameIndex := 9, descriptorIndex := 10, attributes := #[] }, { accessFlags := 2, nameIndex := 19, descriptorIndex := 10, attributes := #[] }])
  fields := #[{ name := "name", type := (.object "java/lang/String"), accessFlags := 18, slot := 0, constantValue := 0 }, { name := "ordinal", type := .int, accessFlags := 18, slot := 1, constantValue := 0 }, { name := "hash", type := .int, accessFlags := 2, slot := 2, constantValue := 0 }]
  methods := #[]
  instanceTypes := #[(.object "java/lang/String"), .int, .int]
  staticTypes := #[]
  resolved := Array.replicate 204 none
  statics := none }

def pool6 : Array CpInfo := pool [(1, .class_ 2), (0, u "com/example/trailwire/trailwire/status/StatusCode"), (2, u "OK"), (0, u "Lcom/example/trailwire/trailwire/status/StatusCode;"), (2, u "CANCELLED"), (0, .fieldref 1 11), (0, .nameAndType 12 6), (0, u "UNKNOWN"), (2, u "INVALID_ARGUMENT"), (2, u "DEADLINE_EXCEEDED"), (2, u "NOT_FOUND"), (2, u "ALREADY_EXISTS"), (0, .fieldref 1 26), (0, .nameAndType 27 6), (0, u "PERMISSION_DENIED"), (2, u "RESOURCE_EXHAUSTED"), (2, u "FAILED_PRECONDITION"), (2, u "ABORTED"), (2, u "OUT_OF_RANGE"), (0, .fieldref 1 41), (0, .nameAndType 42 6), (0, u "UNIMPLEMENTED"), (0, .fieldref 1 44), (0, .nameAndType 45 6), (0, u "INTERNAL"), (0, .fieldref 1 47), (0, .nameAndType 48 6), (0, u "UNAVAILABLE"), (2, u "DATA_LOSS"), (0, .fieldref 1 53), (0, .nameAndType 54 6), (0, u "UNAUTHENTICATED"), (2, u "$VALUES"), (0, u "[Lcom/example/trailwire/trailwire/status/StatusCode;"), (6, .class_ 67), (1, u "java/lang/Enum"), (8, u "number"), (0, u "I"), (8, u "headerValue"), (0, u "Ljava/lang/String;"), (2, u "BY_NUMBER"), (64, u "HTTP2_REFUSED_STREAM"), (0, u "J"), (1, u "HTTP2_CANCEL"), (0, u "HTTP2_ENHANCE_YOUR_CALM"), (0, u "HTTP2_INADEQUATE_SECURITY"), (7, u "(I)Lcom/example/trailwire/trailwire/status/StatusCode;"), (2, u "forHttpStatus")] 7

def k6c0 : Code := { maxStack := 1, maxLocals := 2, code := prog_23_method_9_code, exceptionTable := #[], attributes := #[] }
def k6m0 : Method := { name := "forHttpStatus", desc := "(I)Lcom/example/trailwire/trailwire/status/StatusCode;", sig := { parameters := [.int], returnType := some (.object "com/example/trailwire/trailwire/status/StatusCode") }, accessFlags := 9, code := some k6c0 }
/-- com/example/trailwire/trailwire/status/StatusCode -/
def k6 : Class := { plain "com/example/trailwire/trailwire/status/StatusCode" (some 5) with
  accessFlags := 16433
  interfaces := #[]
  cf := some (fileOf pool6 1 #[] #[{ accessFlags := 9, nameIndex := 171, descriptorIndex := 168, attributes := #[] }] 16433 65 #[] #[{ accessFlags := 16409, nameIndex := 5, descriptorIndex := 6, attributes := #[] }, { accessFlags := 16409, nameIndex := 9, descriptorIndex := 6, attributes := #[] }, { accessFlags := 16409, nameIndex := 12, descriptorIndex := 6, attributes := #[] }, { accessFlags := 16409, nameIndex := 15, descriptorIndex := 6, attributes := #[] }, { accessFlags := 16409, nameIndex := 18, descriptorIndex := 6, attributes := #[] }, { accessFlags := 16409, nameIndex := 21, descriptorIndex := 6, attributes := #[] }, { accessFlags := 16409, nameIndex := 24, descriptorIndex := 6, attributes := #[] }, { accessFlags := 16409, nameIndex := 27, descriptorIndex := 6, attributes := #[] }, { accessFlags := 16409, nameIndex := 30, descriptorIndex := 6, attributes := #[] }, { accessFlags := 16409, nameIndex := 33, descriptorIndex := 6, attributes := #[] }, { accessFlags := 16409, nameIndex := 36, descriptorIndex := 6, attributes := #[] }, { accessFlags := 16409, nameIndex := 39, descriptorIndex := 6, attributes := #[] }, { accessFlags := 16409, nameIndex := 42, descriptorIndex := 6, attributes := #[] }, { accessFlags := 16409, nameIndex := 45, descriptorIndex := 6, attributes := #[] }, { accessFlags := 16409, nameIndex := 48, descriptorIndex := 6, attributes := #[] }, { accessFlags := 16409, nameIndex := 51, descriptorIndex := 6, attributes := #[] }, { accessFlags := 16409, nameIndex := 54, descriptorIndex := 6, attributes := #[] }, { accessFlags := 26, nameIndex := 90, descriptorIndex := 58, attributes := #[] }, { accessFlags := 26, nameIndex := 155, descriptorIndex := 156, attributes := #[] }, { accessFlags := 26, nameIndex := 158, descriptorIndex := 156, attributes := #[] }, { accessFlags := 26, nameIndex := 159, descriptorIndex := 156, attributes := #[] }, { accessFlags := 26, nameIndex := 160, descriptorIndex := 156, attributes := #[] }, { accessFlags := 18, nameIndex := 76, descriptorIndex := 77, attributes := #[] }, { accessFlags := 18, nameIndex := 86, descriptorIndex := 87, attributes := #[] }, { accessFlags := 4122, nameIndex := 57, descriptorIndex := 58, attributes := #[] }])
  fields := #[{ name := "OK", type := (.object "com/example/trailwire/trailwire/status/StatusCode"), accessFlags := 16409, slot := 0, constantValue := 0 }, { name := "CANCELLED", type := (.object "com/example/trailwire/trailwire/status/StatusCode"), accessFlags := 16409, slot := 1, constantValue := 0 }, { name := "UNKNOWN", type := (.object "com/example/trailwire/trailwire/status/StatusCode"), accessFlags := 16409, slot := 2, constantValue := 0 }, { name := "INVALID_ARGUMENT", type := (.object "com/example/trailwire/trailwire/status/StatusCode"), accessFlags := 16409, slot := 3, constantValue := 0 }, { name := "DEADLINE_EXCEEDED", type := (.object "com/example/trailwire/trailwire/status/StatusCode"), accessFlags := 16409, slot := 4, constantValue := 0 }, { name := "NOT_FOUND", type := (.object "com/example/trailwire/trailwire/status/StatusCode"), accessFlags := 16409, slot := 5, constantValue := 0 }, { name := "ALREADY_EXISTS", type := (.object "com/example/trailwire/trailwire/status/StatusCode"), accessFlags := 16409, slot := 6, constantValue := 0 }, { name := "PERMISSION_DENIED", type := (.object "com/example/trailwire/trailwire/status/StatusCode"), accessFlags := 16409, slot := 7, constantValue := 0 }, { name := "RESOURCE_EXHAUSTED", type := (.object "com/example/trailwire/trailwire/status/StatusCode"), accessFlags := 16409, slot := 8, constantValue := 0 }, { name := "FAILED_PRECONDITION", type := (.object "com/example/trailwire/trailwire/status/StatusCode"), accessFlags := 16409, slot := 9, constantValue := 0 }, { name := "ABORTED", type := (.object "com/example/trailwire/trailwire/status/StatusCode"), accessFlags := 16409, slot := 10, constantValue := 0 }, { name := "OUT_OF_RANGE", type := (.object "com/example/trailwire/trailwire/status/StatusCode"), accessFlags := 16409, slot := 11, constantValue := 0 }, { name := "UNIMPLEMENTED", type := (.object "com/example/trailwire/trailwire/status/StatusCode"), accessFlags := 16409, slot := 12, constantValue := 0 }, { name := "INTERNAL", type := (.object "com/example/trailwire/trailwire/status/StatusCode"), accessFlags := 16409, slot := 13, constantValue := 0 }, { name := "UNAVAILABLE", type := (.object "com/example/trailwire/trailwire/status/StatusCode"), accessFlags := 16409, slot := 14, constantValue := 0 }, { name := "DATA_LOSS", type := (.object "com/example/trailwire/trailwire/status/StatusCode"), accessFlags := 16409, slot := 15, constantValue := 0 }, { name := "UNAUTHENTICATED", type := (.object "com/example/trailwire/trailwire/status/StatusCode"), accessFlags := 16409, slot := 16, constantValue := 0 }, { name := "BY_NUMBER", type := (.array (.object "com/example/trailwire/trailwire/status/StatusCode")), accessFlags := 26, slot := 17, constantValue := 0 }, { name := "HTTP2_REFUSED_STREAM", type := .long, accessFlags := 26, slot := 18, constantValue := 0 }, { name := "HTTP2_CANCEL", type := .long, accessFlags := 26, slot := 19, constantValue := 0 }, { name := "HTTP2_ENHANCE_YOUR_CALM", type := .long, accessFlags := 26, slot := 20, constantValue := 0 }, { name := "HTTP2_INADEQUATE_SECURITY", type := .long, accessFlags := 26, slot := 21, constantValue := 0 }, { name := "number", type := .int, accessFlags := 18, slot := 3, constantValue := 0 }, { name := "headerValue", type := (.object "java/lang/String"), accessFlags := 18, slot := 4, constantValue := 0 }, { name := "$VALUES", type := (.array (.object "com/example/trailwire/trailwire/status/StatusCode")), accessFlags := 4122, slot := 22, constantValue := 0 }]
  methods := #[k6m0]
  instanceTypes := #[(.object "java/lang/String"), .int, .int, .int, (.object "java/lang/String")]
  staticTypes := #[(.object "com/example/trailwire/trailwire/status/StatusCode"), (.object "com/example/trailwire/trailwire/status/StatusCode"), (.object "com/example/trailwire/trailwire/status/StatusCode"), (.object "com/example/trailwire/trailwire/status/StatusCode"), (.object "com/example/trailwire/trailwire/status/StatusCode"), (.object "com/example/trailwire/trailwire/status/StatusCode"), (.object "com/example/trailwire/trailwire/status/StatusCode"), (.object "com/example/trailwire/trailwire/status/StatusCode"), (.object "com/example/trailwire/trailwire/status/StatusCode"), (.object "com/example/trailwire/trailwire/status/StatusCode"), (.object "com/example/trailwire/trailwire/status/StatusCode"), (.object "com/example/trailwire/trailwire/status/StatusCode"), (.object "com/example/trailwire/trailwire/status/StatusCode"), (.object "com/example/trailwire/trailwire/status/StatusCode"), (.object "com/example/trailwire/trailwire/status/StatusCode"), (.object "com/example/trailwire/trailwire/status/StatusCode"), (.object "com/example/trailwire/trailwire/status/StatusCode"), (.array (.object "com/example/trailwire/trailwire/status/StatusCode")), .long, .long, .long, .long, (.array (.object "com/example/trailwire/trailwire/status/StatusCode"))]
  resolved := Array.replicate 179 none
  statics := some 0 }

def pool7 : Array CpInfo := pool [(1, u "java/lang/Cloneable"), (0, .class_ 1), (0, u "java/lang/Object"), (0, .class_ 3)] 3

/-- java/lang/Cloneable -/
def k7 : Class := { plain "java/lang/Cloneable" (some 0) with
  accessFlags := 1537
  interfaces := #[]
  cf := some (fileOf pool7 2 #[] #[] 1537 4 #[] #[])
  fields := #[]
  methods := #[]
  instanceTypes := #[]
  staticTypes := #[]
  resolved := Array.replicate 8 none
  statics := none }

/-- the primitive byte -/
def k8 : Class := { plain "byte" none with kind := .primitive 'B', accessFlags := 0x411 }
/-- [B -/
def k9 : Class := { plain "[B" (some 0) with kind := .array 8 .byte, interfaces := #[7, 4], accessFlags := 1041 }

/-- the primitive int -/
def k10 : Class := { plain "int" none with kind := .primitive 'I', accessFlags := 0x411 }
/-- [I -/
def k11 : Class := { plain "[I" (some 0) with kind := .array 10 .int, interfaces := #[7, 4], accessFlags := 1041 }

def heap : Heap := #[{ cls := 6, slots := #[.null, .null, .ref 2, .null, .null, .null, .null, .ref 3, .null, .null, .null, .null, .ref 5, .ref 1, .ref 4, .null, .ref 6, .null, .long 0, .long 0, .long 0, .long 0, .null], vm := .statics 6 },
  { cls := 6, slots := #[.null, .int 0, .int 0, .int 0, .null], vm := .none },
  { cls := 6, slots := #[.null, .int 0, .int 0, .int 0, .null], vm := .none },
  { cls := 6, slots := #[.null, .int 0, .int 0, .int 0, .null], vm := .none },
  { cls := 6, slots := #[.null, .int 0, .int 0, .int 0, .null], vm := .none },
  { cls := 6, slots := #[.null, .int 0, .int 0, .int 0, .null], vm := .none },
  { cls := 6, slots := #[.null, .int 0, .int 0, .int 0, .null], vm := .none }]
def classes : Array Class := #[k0, k1, k2, k3, k4, k5, k6, k7, k8, k9, k10, k11]
def interned : List (Array UInt16 × Addr) := []
def slotsUsed : Nat := 53
def theMethod : MethodId := ⟨1, 2⟩
def args0 : Array Value := #[.int 5, .int 6]
def aboutOver (below : List Frame) : State where
  vm := { classes := classes, interned := interned.toArray }
  heap := heap
  slotsUsed := slotsUsed
  threads := #[{ frames := .invoking theMethod args0 :: below }]
def below0 : List Frame := [.native { method := ⟨0, 0⟩, args := #[] }]
def about1 : State := aboutOver below0
def p0 : Program := .bare "" "" ""
def e0 : Env := launch0.env 0 0 0
theorem w_frames : about1.frames = Frame.invoking theMethod args0 :: below0 := rfl
set_option maxRecDepth 65536 in
theorem w_args : argsFit about1.vm theMethod args0 = true := by decide +kernel
set_option maxRecDepth 65536 in
theorem w_heap : heapFits about1 = true := by decide +kernel
set_option maxRecDepth 65536 in
theorem w_runnable : about1.curStatus? = some .runnable := by decide +kernel
set_option maxRecDepth 65536 in
theorem w_alone : about1.alone = true := by decide +kernel
set_option maxRecDepth 65536 in
theorem w_named : about1.methodNamed? x = some theMethod := by decide +kernel
set_option maxRecDepth 65536 in
theorem w_hears : about1.hears theMethod below0 = true := by decide +kernel
set_option maxRecDepth 65536 in
theorem w_ripe : about1.ripe theMethod args0 below0 = true := by decide +kernel
theorem w_running : about1.status = .running := rfl
set_option maxRecDepth 65536 in
theorem w_room : about1.hasRoom e0.platform room_1 = true :=
  launch0.hasRoom_least _ room_1 (by decide +kernel) (by decide +kernel) (by decide +kernel) (by decide +kernel) (by decide +kernel) (by decide +kernel)
theorem allAtoms_all (ts : List Jvm.Cond) (a : Array Jvm.Value) (st : Jvm.State) : (allAtoms ts).before a st = ts.all (fun c => c.before a st) := by
  induction ts with
  | nil => rfl
  | cons c t ih =>
    show (Jvm.Cond.and c (allAtoms t)).before a st = _
    rw [Jvm.Cond.before_and, ih, List.all_cons]
def words1 : List Jvm.Cond := Jvm.Cond.code x code maxLocals ret :: tables_1
/-- a 'code' word, met by the world's own term for the bytes: nothing is compared byte by byte -/
theorem code_word {y : MethodName} {bytes : ByteArray} {mx : Nat} {rt : Option FieldType} {a : Array Value} {s : State} {m : MethodId} {meth : Method} {c : Code} (h1 : s.methodNamed? y = some m) (h2 : s.vm.method? m = some meth) (h3 : meth.code = some c) (h4 : c.code = bytes)
    (h5 : (c.maxLocals == mx && c.exceptionTable.isEmpty && decide (c.maxStack ≤ mostOperands) && decide (meth.sig.returnType = rt) && !meth.locks && decide (parseMethodDescriptor y.desc = some meth.sig)) = true) : (Jvm.Cond.code y bytes mx rt).before a s = true := by
  simp only [Bool.and_eq_true, beq_iff_eq, Bool.not_eq_true', decide_eq_true_eq] at h5
  obtain ⟨⟨⟨⟨⟨g1, g2⟩, g3⟩, g4⟩, g5⟩, g6⟩ := h5
  simp [Cond.before, Cond.holds, Cond.value, h1, h2, h3, h4, g1, g2, g3, g4, g5, g6]
def isCode : Jvm.Cond → Bool
  | .code _ _ _ _ => true
  | _ => false
theorem all_split {L : List Jvm.Cond} {P : Jvm.Cond → Bool} (h1 : L.all (fun c => isCode c || P c) = true) (h2 : ∀ c ∈ L.filter isCode, P c = true) : L.all P = true := by
  refine List.all_eq_true.mpr fun c hc => ?_
  have h := List.all_eq_true.mp h1 c hc
  rcases Bool.eq_false_or_eq_true (isCode c) with hi | hi
  · exact h2 c (List.mem_filter.mpr ⟨hc, hi⟩)
  · simpa [hi] using h
set_option maxRecDepth 65536 in
theorem w_c0 : (Jvm.Cond.code x code maxLocals ret).before args0 about1 = true := code_word (m := ⟨1, 2⟩) (meth := k1m2) (c := k1c2) (by decide +kernel) rfl rfl rfl (by decide +kernel)
set_option maxRecDepth 65536 in
theorem w_c1 : (Jvm.Cond.code ({ cls := "com/example/trailwire/trailwire/status/StatusCode", name := "forHttpStatus", desc := "(I)Lcom/example/trailwire/trailwire/status/StatusCode;" } : Jvm.MethodName) prog_23_method_9_code (2 : Nat) (Option.some (Jvm.ClassFile.FieldType.object "com/example/trailwire/trailwire/status/StatusCode"))).before args0 about1 = true := code_word (m := ⟨6, 0⟩) (meth := k6m0) (c := k6c0) (by decide +kernel) rfl rfl rfl (by decide +kernel)
set_option maxRecDepth 65536 in
theorem w_c2 : (Jvm.Cond.code ({ cls := "com/example/trailwire/trailwire/status/StatusCodeForHttpStatusPinLaw", name := "expected", desc := "(I)Lcom/example/trailwire/trailwire/status/StatusCode;" } : Jvm.MethodName) method_2_code (1 : Nat) (Option.some (Jvm.ClassFile.FieldType.object "com/example/trailwire/trailwire/status/StatusCode"))).before args0 about1 = true := code_word (m := ⟨1, 1⟩) (meth := k1m1) (c := k1c1) (by decide +kernel) rfl rfl rfl (by decide +kernel)
def codes1 : List Jvm.Cond := [Jvm.Cond.code x code maxLocals ret, Jvm.Cond.code ({ cls := "com/example/trailwire/trailwire/status/StatusCode", name := "forHttpStatus", desc := "(I)Lcom/example/trailwire/trailwire/status/StatusCode;" } : Jvm.MethodName) prog_23_method_9_code (2 : Nat) (Option.some (Jvm.ClassFile.FieldType.object "com/example/trailwire/trailwire/status/StatusCode")), Jvm.Cond.code ({ cls := "com/example/trailwire/trailwire/status/StatusCodeForHttpStatusPinLaw", name := "expected", desc := "(I)Lcom/example/trailwire/trailwire/status/StatusCode;" } : Jvm.MethodName) method_2_code (1 : Nat) (Option.some (Jvm.ClassFile.FieldType.object "com/example/trailwire/trailwire/status/StatusCode"))]
set_option maxRecDepth 65536 in
theorem codes_eq : words1.filter isCode = codes1 := rfl
theorem w_codes : ∀ c ∈ words1.filter isCode, c.before args0 about1 = true := by
  rw [codes_eq]
  intro c hc
  simp only [codes1, List.mem_cons, List.not_mem_nil, or_false] at hc
  rcases hc with rfl | rfl | rfl
  · exact w_c0
  · exact w_c1
  · exact w_c2
set_option maxRecDepth 65536 in
theorem w_t1 : (words1.take 24).all (fun c => isCode c || c.before args0 about1) = true := by decide +kernel
set_option maxRecDepth 65536 in
theorem w_t2 : (words1.drop 24).all (fun c => isCode c || c.before args0 about1) = true := by decide +kernel
theorem w_tables : (allAtoms (Jvm.Cond.code x code maxLocals ret :: tables_1)).before args0 about1 = true := by
  rw [allAtoms_all]
  show words1.all (fun c => c.before args0 about1) = true
  refine all_split ?_ w_codes
  rw [← List.take_append_drop 24 words1, List.all_append, w_t1, w_t2]
  rfl
set_option maxRecDepth 65536 in
theorem w_case : (Jvm.Cond.and given_1 narrow_1).before args0 about1 = true := by decide +kernel
theorem w_applies : (headSpec (Jvm.Cond.code x code maxLocals ret :: tables_1) room_1).applies x e0.platform about1 = true :=
  (Spec.applies_iff w_frames).mpr ⟨w_running, w_runnable, w_alone, w_named, w_hears, w_ripe, w_room, w_tables⟩
theorem atStart : AtStart classFile x code maxLocals ret World_1 tables_1 room_1 Calls_1 rest_1 Pre_1 launch0 p0 e0 about1 theMethod args0 below0 :=
  ⟨lists_1, trivial, launch0.admits_env _ _ _, launch0.least_env, fairChoices_fair.cas, fairChoices_fair.clock, w_frames, w_args, w_heap, w_applies, trivial, trivial, w_case⟩
end start1
theorem witness_1 : WitnessClaimed_1 := ⟨start1.p0, start1.e0, start1.about1, start1.theMethod, start1.args0, start1.below0, start1.atStart⟩
end Jvm.Pilot.@@N@@
