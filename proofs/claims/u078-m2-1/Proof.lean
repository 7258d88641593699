import JvmDerived
import JvmDerived.Pilot.@@N@@Statement
import JvmDerived.Pilot.@@N@@Code
set_option linter.unusedVariables false
set_option linter.unusedSimpArgs false
namespace Jvm.RoadKit
open Sem ClassFile Op Lib Jvm.Stand Jvm.Free Jvm.LawKit
section New
variable {p : Program} {l : Launch} {e : Env} {R : Room} {s : State} {m : MethodId} {args : Array Value} {below : List Frame} {meth : Method} {c : Code} {T : State} {locs : List Loc} {cells slots : Nat}
theorem retI (X : Stand p l e R s m args below meth c T locs cells slots) (hx : p.tables.exec = Jvm.exec) {pc : Nat} {Ls : Array Slot} {z : Int32} {rest : List Value} (hret : meth.sig.returnType = some .int) (hd : decode c.code pc = .ok (.ireturn, 1)) {fs : List Frame}
    (hl : ∀ (f : JFrame) (acts : List Action), f.method = m → f.locked = none → f.entered = [] → (doReturn e (T.setTop f) acts (some (.int z))).1 = T.setFrames fs) : Steps p.tables e below (T.setTop (mkF m pc Ls (.int z :: rest))) (T.setFrames fs) :=
  retOut X hx hret rfl (Or.inl ⟨rfl, Or.inl rfl, z, rfl⟩) hd hl
end New
end Jvm.RoadKit
namespace Jvm.Pilot.@@N@@
open Jvm Jvm.ClassFile Sem Op Lib Jvm.Free Jvm.Stand Jvm.LawKit Jvm.RoadKit Bundle Jvm.Pilot.@@N@@.Jvm.D
/-! small laws of this text's own -/
theorem own_eqv {args : Array Value} {first s : State} {o : Option Outcome} {idx : List Nat} {a b : Term} {v : Value} (h : (Jvm.Cond.eq a b).value args first o s idx = some true) (hb : b.eval args first o idx s = some v) : a.eval args first o idx s = some v := by
  cases ha : a.eval args first o idx s with
  | none => simp [Cond.value, ha] at h
  | some x => cases x <;> cases v <;> simp_all [Cond.value]
theorem own_fld {args : Array Value} {s : State} {t b : Term} {x : Addr} {C n d : String} {v : Value} (ht : t.eval args s none [] s = some (.ref x)) (h : (Jvm.Cond.eq (.field t C n d) b).value args s none s [] = some true) (hb : b.eval args s none [] s = some v) : Fld s s.heap x C n d v :=
  Fld.start ((fld_at ht).symm.trans (own_eqv h hb))
theorem own_len {args : Array Value} {s : State} {t : Term} {x : Addr} {c : Cell} {n : Int32} (ht : t.eval args s none [] s = some (.ref x)) (hc : s.heap[x]? = some c) (h : (Jvm.Cond.eq (.length t) (.int n)).value args s none s [] = some true) : c.slots.size < 2 ^ 31 ∧ c.slots.size.toInt32 = n := by
  have e := own_eqv h (v := .int n) rfl
  simp only [Term.eval, ht, Option.bind_eq_bind, Option.bind_some] at e
  cases hq : s.arrayAt? x with
  | none => simp [hq] at e
  | some c' =>
    have h1 := (State.arrayAt?_spec hq).1
    cases hc.symm.trans h1
    simp only [hq, Option.bind_some] at e
    split at e
    · rename_i hl; exact ⟨hl, by simpa using e⟩
    · cases e
theorem own_elem {args : Array Value} {s : State} {t b : Term} {x : Addr} {c : Cell} {j : Int32} {v : Value} (ht : t.eval args s none [] s = some (.ref x)) (hc : s.heap[x]? = some c) (h : (Jvm.Cond.eq (.elem t (.int j)) b).value args s none s [] = some true) (hb : b.eval args s none [] s = some v) : c.slots[j.toNatClampNeg]? = some v :=
  (elem_in (own_eqv h hb) ht rfl hc).2
theorem own_selpriv {y : MethodName} {s : State} {args : Array Value} {n : Nat} (hy : y.cls ≠ "java/lang/invoke/MethodHandle" ∧ y.cls ≠ "java/lang/invoke/VarHandle") (hins : (Jvm.Cond.instantiable y.cls n).before args s = true) (hpriv : (Jvm.Cond.privateMethod y).before args s = true) (hinst : (Jvm.Cond.instanceMethod y).before args s = true) : (Jvm.Cond.selects y.cls y y).before args s = true := by
  obtain ⟨c, k, hc, hk, -, hniab, -, -⟩ := Cond.instantiable_spec hins
  exact Stand.selects_self_of_private hc hk (Bool.or_eq_false_iff.mp hniab).1 (Cond.privateMethod_at hpriv) hinst hy
theorem own_ext {h0 h : Heap} (K : Keep h0 h []) : Ext h0 h := ⟨K.1, fun x c q => K.2.1 x c q (fun z => nomatch z)⟩
theorem own_cat1 {v : Value} (h : v.isRef = true) : v.category = 1 := by cases v <;> first | rfl | simp [Value.isRef] at h
theorem own_narref {t : FieldType} {v : Value} (h : t.isReference = true) (hv : v.isRef = true) : narrow t v = v := by
  cases v <;> first | (simp [Value.isRef] at hv; done) | (cases t <;> first | rfl | simp [FieldType.isReference] at h)
theorem own_store1 {l : Array Slot} {i : Nat} {v : Value} {o : Slot} (hold : l[i]? = some o) (ho : o = .unset ∨ ∃ w, o = .val w ∧ w.category = 1) (hv : v.category = 1) : storeLocals l i v = some (l.setIfInBounds i (.val v)) := XS.store1 hold ho hv
def own_Base (Z : State) (u : Nat → Addr) : Prop :=
  (Sta Z Z.heap "com/example/resolvent/resolvent/core/Scope" "COMPILE" "Lcom/example/resolvent/resolvent/core/Scope;" (.ref (u 0))) ∧
  (Exa Z Z.heap (u 0) "com/example/resolvent/resolvent/core/Scope") ∧
  (Sta Z Z.heap "com/example/resolvent/resolvent/core/Scope" "RUNTIME" "Lcom/example/resolvent/resolvent/core/Scope;" (.ref (u 1))) ∧
  (Exa Z Z.heap (u 1) "com/example/resolvent/resolvent/core/Scope") ∧
  (Fld Z Z.heap (u 0) "java/lang/Enum" "ordinal" "I" (.int (0 : Int32))) ∧
  (Fld Z Z.heap (u 1) "java/lang/Enum" "ordinal" "I" (.int (1 : Int32)))
theorem own_pd0 : parseMethodDescriptor "(I)Lcom/example/resolvent/resolvent/core/Scope;" = some ⟨[.int], some (.object "com/example/resolvent/resolvent/core/Scope")⟩ := by decide +kernel
theorem own_pd1 : parseMethodDescriptor "(Lcom/example/resolvent/resolvent/core/Scope;)I" = some ⟨[(.object "com/example/resolvent/resolvent/core/Scope")], some .int⟩ := by decide +kernel
theorem own_pd2 : parseMethodDescriptor "(Lcom/example/resolvent/resolvent/core/Scope;)Z" = some ⟨[(.object "com/example/resolvent/resolvent/core/Scope")], some .boolean⟩ := by decide +kernel
theorem d3_0 : decode prog_23_method_6_code 0 = .ok (.aload_n 0, 1) := by decide +kernel
theorem d3_1 : decode prog_23_method_6_code 1 = .ok (.getstatic 3, 3) := by decide +kernel
theorem d3_4 : decode prog_23_method_6_code 4 = .ok (.if_acmp .eq 10, 3) := by decide +kernel
theorem d3_7 : decode prog_23_method_6_code 7 = .ok (.aload_n 1, 1) := by decide +kernel
theorem d3_8 : decode prog_23_method_6_code 8 = .ok (.getstatic 7, 3) := by decide +kernel
theorem d3_11 : decode prog_23_method_6_code 11 = .ok (.if_acmp .ne 7, 3) := by decide +kernel
theorem d3_14 : decode prog_23_method_6_code 14 = .ok (.iconst 1, 1) := by decide +kernel
theorem d3_15 : decode prog_23_method_6_code 15 = .ok (.goto 4, 3) := by decide +kernel
theorem d3_18 : decode prog_23_method_6_code 18 = .ok (.iconst 0, 1) := by decide +kernel
theorem d3_19 : decode prog_23_method_6_code 19 = .ok (.ireturn, 1) := by decide +kernel
theorem own_pn_3 : plainName "com/example/resolvent/resolvent/core/Scope" = true := by first | (simp [plainName, overriddenIn]; done) | decide +kernel
theorem own_ef_3 (m : MethodId) (x0 : Addr) (x1 : Addr) : entryFrame m #[(.ref x0), (.ref x1)] 2 = mkF m 0 #[.val (.ref x0), .val (.ref x1)] [] := by first | (simp [entryFrame, mkF, argsToLocals, Value.category]; done) | rfl
def own_r3 (u : Nat → Addr) (r0 : Addr) (r1 : Addr) : Int32 :=
  if r0 = (u 0) then
    (1 : Int32)
  else
    if r1 = (u 1) then
      (1 : Int32)
    else
      (0 : Int32)
def own_Q3 (Z : State) (u : Nat → Addr) (r0 : Addr) (r1 : Addr) (h0 : Heap) (n0 : Nat) (v : Option Value) (h : Heap) (L : List Loc) : Prop := v = some (.int (own_r3 u r0 r1)) ∧ Fr n0 L ∧ h = h0
set_option maxRecDepth 65536 in
set_option maxHeartbeats 40000000 in
theorem rm3 (l : Launch) (Z : State) (a0 : Array Value) (hw : ∀ d ∈ tables_1, d.before a0 Z = true) (ws : List Jvm.Cond) (u : Nat → Addr) (r0 : Addr) (r1 : Addr) (B : own_Base Z u) (h0 : Heap) (n0 : Nat) (O : Old Z n0 h0) :
    MetFree l (⟨"com/example/resolvent/resolvent/core/Scope", "covers", "(Lcom/example/resolvent/resolvent/core/Scope;)Z"⟩ : MethodName) (head1 (Jvm.Cond.code (⟨"com/example/resolvent/resolvent/core/Scope", "covers", "(Lcom/example/resolvent/resolvent/core/Scope;)Z"⟩ : MethodName) prog_23_method_6_code 2 (some .boolean) :: ws) ({ frames := 0, cells := 0, slots := 0, locals := 0 } : Room)) (fun a U => a = #[(.ref r0), (.ref r1)] ∧ Z.Warmed39 U.vm ∧ U.heap = h0) (fun _ _ _ _ _ => True) (fun _ U o U' => ∃ v L, o = .returned v ∧ own_Q3 Z u r0 r1 h0 n0 v U'.heap L ∧ FrameEnd U o U' L ({ frames := 0, cells := 0, slots := 0, locals := 0 } : Room).cells ({ frames := 0, cells := 0, slots := 0, locals := 0 } : Room).slots) := by
  refine MetFree.of_bodySF (plainFor_of_name own_pn_3) hisR ?_
  intro p e s m args below meth c s₁ Bd hml0 hP hK
  obtain ⟨rfl, hZ, hh⟩ := hP
  have hx := Bd.exec
  have hby := Bd.bytes
  have hml : c.maxLocals = 2 := hml0
  have hown : s.vm.findClass "com/example/resolvent/resolvent/core/Scope" = some m.cls := findClass_of_methodNamed Bd.named
  have hnm := (name_of_methodNamed Bd.named Bd.method).1
  have X0 : Stand p l e ({ frames := 0, cells := 0, slots := 0, locals := 0 } : Room) s m #[(.ref r0), (.ref r1)] below meth c s₁ [] 0 0 := Stand.of_body Bd
  have e0 : s₁.heap = h0 := by rw [← hh, Bd.state]; rfl
  have N0 := Fr.nil n0
  have K0 := Keep.refl h0 []
  have Z0 : n0 ≤ h0.size := O.1 ▸ O.2.1
  have pre0 : ∀ t, Steps p.tables e below (s₁.setTop (mkF m 0 #[.val (.ref r0), .val (.ref r1)] [])) t → Steps p.tables e below (s₁.setTop (entryFrame m #[(.ref r0), (.ref r1)] 2)) t := fun t k => castTop (own_ef_3 m r0 r1) k
  obtain ⟨T1, X1, e1, st1⟩ := getS2 X0 hx hZ hown (host := "") (Or.inl (hw _ (List.mem_of_getElem? (i := 17) rfl))) Via.refl e0 (B.1.ext O.2) (g := (mkF m 1 #[.val (.ref r0), .val (.ref r1)] [(.ref r0)])) rfl (hb hby d3_1)
  have pre2 : ∀ t, Steps p.tables e below (T1.setTop (mkF m 4 #[.val (.ref r0), .val (.ref r1)] [(.ref (u 0)), (.ref r0)])) t → Steps p.tables e below (s₁.setTop (entryFrame m #[(.ref r0), (.ref r1)] 2)) t := fun t kt => pre0 t (by
    show Steps p.tables e below (s₁.setTop (mkF m 0 #[.val (.ref r0), .val (.ref r1)] [])) _
    refine XS.aloadN X0.here hx rfl (hb hby d3_0) rfl rfl ?_
    show Steps p.tables e below (s₁.setTop (mkF m 1 #[.val (.ref r0), .val (.ref r1)] [(.ref r0)])) _
    refine st1 _ ?_
    exact kt)
  by_cases hc3 : r0 = (u 0)
  · --
    obtain ⟨fs, hr, hrun, hended, hW, hsame⟩ := X1.leave (v := some (.int (1 : Int32))) (fun h => by rw [Bd.returns] at h; cases h)
    refine ⟨_, _, pre2 _ ?_, hrun, hended, _, _, rfl, ?_, ⟨_, rfl⟩, hW, hsame.mono (by decide) (by decide)⟩
    · show Steps p.tables e below (T1.setTop (mkF m 4 #[.val (.ref r0), .val (.ref r1)] [(.ref (u 0)), (.ref r0)])) _
      refine Jvm.RoadKit.acmp (g := (mkF m 4 #[.val (.ref r0), .val (.ref r1)] [(.ref (u 0)), (.ref r0)])) X1 hx rfl rfl rfl (pc0 := 4) (pc' := 14) (same := true) rfl (hb hby d3_4) rfl (decide_eq_true (congrArg Value.ref hc3)) (by decide) (by decide) ?_
      show Steps p.tables e below (T1.setTop (mkF m 14 #[.val (.ref r0), .val (.ref r1)] [])) _
      refine XS.iconst X1.here hx rfl (hb hby d3_14) ?_
      show Steps p.tables e below (T1.setTop (mkF m 15 #[.val (.ref r0), .val (.ref r1)] [(.int (1 : Int32))])) _
      refine XS.goto X1.here hx rfl (pc0 := 15) (pc' := 19) rfl (hb hby d3_15) (by decide) (by decide) ?_
      show Steps p.tables e below (T1.setTop (mkF m 19 #[.val (.ref r0), .val (.ref r1)] [(.int (1 : Int32))])) _
      exact retN X1 hx (t := .boolean) Bd.returns (by simp) (hb hby d3_19) hr
    · show own_Q3 Z u r0 r1 h0 n0 _ T1.heap _
      rw [e1]
      exact ⟨(by unfold own_r3; rw [if_pos hc3]), N0, rfl⟩
  · --
    obtain ⟨T5, X5, e5, st5⟩ := getS2 X1 hx hZ hown (host := "") (Or.inl (hw _ (List.mem_of_getElem? (i := 18) rfl))) Via.refl e1 (B.2.2.1.ext O.2) (g := (mkF m 8 #[.val (.ref r0), .val (.ref r1)] [(.ref r1)])) rfl (hb hby d3_8)
    have pre6 : ∀ t, Steps p.tables e below (T5.setTop (mkF m 11 #[.val (.ref r0), .val (.ref r1)] [(.ref (u 1)), (.ref r1)])) t → Steps p.tables e below (s₁.setTop (entryFrame m #[(.ref r0), (.ref r1)] 2)) t := fun t kt => pre2 t (by
      show Steps p.tables e below (T1.setTop (mkF m 4 #[.val (.ref r0), .val (.ref r1)] [(.ref (u 0)), (.ref r0)])) _
      refine Jvm.RoadKit.acmp (g := (mkF m 4 #[.val (.ref r0), .val (.ref r1)] [(.ref (u 0)), (.ref r0)])) X1 hx rfl rfl rfl (pc0 := 4) (pc' := 7) (same := false) rfl (hb hby d3_4) rfl (decide_eq_false fun q => hc3 (Value.ref.inj q)) (by decide) (by decide) ?_
      show Steps p.tables e below (T1.setTop (mkF m 7 #[.val (.ref r0), .val (.ref r1)] [])) _
      refine XS.aloadN X1.here hx rfl (hb hby d3_7) rfl rfl ?_
      show Steps p.tables e below (T1.setTop (mkF m 8 #[.val (.ref r0), .val (.ref r1)] [(.ref r1)])) _
      refine st5 _ ?_
      exact kt)
    by_cases hc7 : r1 = (u 1)
    · --
      obtain ⟨fs, hr, hrun, hended, hW, hsame⟩ := X5.leave (v := some (.int (1 : Int32))) (fun h => by rw [Bd.returns] at h; cases h)
      refine ⟨_, _, pre6 _ ?_, hrun, hended, _, _, rfl, ?_, ⟨_, rfl⟩, hW, hsame.mono (by decide) (by decide)⟩
      · show Steps p.tables e below (T5.setTop (mkF m 11 #[.val (.ref r0), .val (.ref r1)] [(.ref (u 1)), (.ref r1)])) _
        refine Jvm.RoadKit.acmp (g := (mkF m 11 #[.val (.ref r0), .val (.ref r1)] [(.ref (u 1)), (.ref r1)])) X5 hx rfl rfl rfl (pc0 := 11) (pc' := 14) (same := true) rfl (hb hby d3_11) rfl (decide_eq_true (congrArg Value.ref hc7)) (by decide) (by decide) ?_
        show Steps p.tables e below (T5.setTop (mkF m 14 #[.val (.ref r0), .val (.ref r1)] [])) _
        refine XS.iconst X5.here hx rfl (hb hby d3_14) ?_
        show Steps p.tables e below (T5.setTop (mkF m 15 #[.val (.ref r0), .val (.ref r1)] [(.int (1 : Int32))])) _
        refine XS.goto X5.here hx rfl (pc0 := 15) (pc' := 19) rfl (hb hby d3_15) (by decide) (by decide) ?_
        show Steps p.tables e below (T5.setTop (mkF m 19 #[.val (.ref r0), .val (.ref r1)] [(.int (1 : Int32))])) _
        exact retN X5 hx (t := .boolean) Bd.returns (by simp) (hb hby d3_19) hr
      · show own_Q3 Z u r0 r1 h0 n0 _ T5.heap _
        rw [e5]
        exact ⟨(by unfold own_r3; rw [if_neg hc3, if_pos hc7]), N0, rfl⟩
    · --
      obtain ⟨fs, hr, hrun, hended, hW, hsame⟩ := X5.leave (v := some (.int (0 : Int32))) (fun h => by rw [Bd.returns] at h; cases h)
      refine ⟨_, _, pre6 _ ?_, hrun, hended, _, _, rfl, ?_, ⟨_, rfl⟩, hW, hsame.mono (by decide) (by decide)⟩
      · show Steps p.tables e below (T5.setTop (mkF m 11 #[.val (.ref r0), .val (.ref r1)] [(.ref (u 1)), (.ref r1)])) _
        refine Jvm.RoadKit.acmp (g := (mkF m 11 #[.val (.ref r0), .val (.ref r1)] [(.ref (u 1)), (.ref r1)])) X5 hx rfl rfl rfl (pc0 := 11) (pc' := 18) (same := false) rfl (hb hby d3_11) rfl (decide_eq_false fun q => hc7 (Value.ref.inj q)) (by decide) (by decide) ?_
        show Steps p.tables e below (T5.setTop (mkF m 18 #[.val (.ref r0), .val (.ref r1)] [])) _
        refine XS.iconst X5.here hx rfl (hb hby d3_18) ?_
        show Steps p.tables e below (T5.setTop (mkF m 19 #[.val (.ref r0), .val (.ref r1)] [(.int (0 : Int32))])) _
        exact retN X5 hx (t := .boolean) Bd.returns (by simp) (hb hby d3_19) hr
      · show own_Q3 Z u r0 r1 h0 n0 _ T5.heap _
        rw [e5]
        exact ⟨(by unfold own_r3; rw [if_neg hc3, if_neg hc7]), N0, rfl⟩
theorem d2_0 : decode method_3_code 0 = .ok (.aload_n 0, 1) := by decide +kernel
theorem d2_1 : decode method_3_code 1 = .ok (.getstatic 7, 3) := by decide +kernel
theorem d2_4 : decode method_3_code 4 = .ok (.if_acmp .ne 7, 3) := by decide +kernel
theorem d2_7 : decode method_3_code 7 = .ok (.iconst 0, 1) := by decide +kernel
theorem d2_8 : decode method_3_code 8 = .ok (.goto 4, 3) := by decide +kernel
theorem d2_11 : decode method_3_code 11 = .ok (.iconst 1, 1) := by decide +kernel
theorem d2_12 : decode method_3_code 12 = .ok (.ireturn, 1) := by decide +kernel
theorem own_pn_2 : plainName "com/example/resolvent/resolvent/core/ScopeCoversPinLaw" = true := by first | (simp [plainName, overriddenIn]; done) | decide +kernel
theorem own_ef_2 (m : MethodId) (x0 : Addr) : entryFrame m #[(.ref x0)] 1 = mkF m 0 #[.val (.ref x0)] [] := by first | (simp [entryFrame, mkF, argsToLocals, Value.category]; done) | rfl
def own_r2 (u : Nat → Addr) (r0 : Addr) : Int32 :=
  if r0 = (u 0) then
    (0 : Int32)
  else
    (1 : Int32)
def own_Q2 (Z : State) (u : Nat → Addr) (r0 : Addr) (h0 : Heap) (n0 : Nat) (v : Option Value) (h : Heap) (L : List Loc) : Prop := v = some (.int (own_r2 u r0)) ∧ Fr n0 L ∧ h = h0
set_option maxRecDepth 65536 in
set_option maxHeartbeats 40000000 in
theorem rm2 (l : Launch) (Z : State) (a0 : Array Value) (hw : ∀ d ∈ tables_1, d.before a0 Z = true) (ws : List Jvm.Cond) (u : Nat → Addr) (r0 : Addr) (B : own_Base Z u) (h0 : Heap) (n0 : Nat) (O : Old Z n0 h0) :
    MetFree l (⟨"com/example/resolvent/resolvent/core/ScopeCoversPinLaw", "rank", "(Lcom/example/resolvent/resolvent/core/Scope;)I"⟩ : MethodName) (head1 (Jvm.Cond.code (⟨"com/example/resolvent/resolvent/core/ScopeCoversPinLaw", "rank", "(Lcom/example/resolvent/resolvent/core/Scope;)I"⟩ : MethodName) method_3_code 1 (some .int) :: ws) ({ frames := 0, cells := 0, slots := 0, locals := 0 } : Room)) (fun a U => a = #[(.ref r0)] ∧ Z.Warmed39 U.vm ∧ U.heap = h0) (fun _ _ _ _ _ => True) (fun _ U o U' => ∃ v L, o = .returned v ∧ own_Q2 Z u r0 h0 n0 v U'.heap L ∧ FrameEnd U o U' L ({ frames := 0, cells := 0, slots := 0, locals := 0 } : Room).cells ({ frames := 0, cells := 0, slots := 0, locals := 0 } : Room).slots) := by
  refine MetFree.of_bodySF (plainFor_of_name own_pn_2) hisR ?_
  intro p e s m args below meth c s₁ Bd hml0 hP hK
  obtain ⟨rfl, hZ, hh⟩ := hP
  have hx := Bd.exec
  have hby := Bd.bytes
  have hml : c.maxLocals = 1 := hml0
  have hown : s.vm.findClass "com/example/resolvent/resolvent/core/ScopeCoversPinLaw" = some m.cls := findClass_of_methodNamed Bd.named
  have hnm := (name_of_methodNamed Bd.named Bd.method).1
  have X0 : Stand p l e ({ frames := 0, cells := 0, slots := 0, locals := 0 } : Room) s m #[(.ref r0)] below meth c s₁ [] 0 0 := Stand.of_body Bd
  have e0 : s₁.heap = h0 := by rw [← hh, Bd.state]; rfl
  have N0 := Fr.nil n0
  have K0 := Keep.refl h0 []
  have Z0 : n0 ≤ h0.size := O.1 ▸ O.2.1
  have pre0 : ∀ t, Steps p.tables e below (s₁.setTop (mkF m 0 #[.val (.ref r0)] [])) t → Steps p.tables e below (s₁.setTop (entryFrame m #[(.ref r0)] 1)) t := fun t k => castTop (own_ef_2 m r0) k
  obtain ⟨T10, X10, e10, st10⟩ := getS2 X0 hx hZ hown (host := "") (Or.inl (hw _ (List.mem_of_getElem? (i := 4) rfl))) Via.refl e0 (B.1.ext O.2) (g := (mkF m 1 #[.val (.ref r0)] [(.ref r0)])) rfl (hb hby d2_1)
  have pre11 : ∀ t, Steps p.tables e below (T10.setTop (mkF m 4 #[.val (.ref r0)] [(.ref (u 0)), (.ref r0)])) t → Steps p.tables e below (s₁.setTop (entryFrame m #[(.ref r0)] 1)) t := fun t kt => pre0 t (by
    show Steps p.tables e below (s₁.setTop (mkF m 0 #[.val (.ref r0)] [])) _
    refine XS.aloadN X0.here hx rfl (hb hby d2_0) rfl rfl ?_
    show Steps p.tables e below (s₁.setTop (mkF m 1 #[.val (.ref r0)] [(.ref r0)])) _
    refine st10 _ ?_
    exact kt)
  by_cases hc12 : r0 = (u 0)
  · --
    obtain ⟨fs, hr, hrun, hended, hW, hsame⟩ := X10.leave (v := some (.int (0 : Int32))) (fun h => by rw [Bd.returns] at h; cases h)
    refine ⟨_, _, pre11 _ ?_, hrun, hended, _, _, rfl, ?_, ⟨_, rfl⟩, hW, hsame.mono (by decide) (by decide)⟩
    · show Steps p.tables e below (T10.setTop (mkF m 4 #[.val (.ref r0)] [(.ref (u 0)), (.ref r0)])) _
      refine Jvm.RoadKit.acmp (g := (mkF m 4 #[.val (.ref r0)] [(.ref (u 0)), (.ref r0)])) X10 hx rfl rfl rfl (pc0 := 4) (pc' := 7) (same := true) rfl (hb hby d2_4) rfl (decide_eq_true (congrArg Value.ref hc12)) (by decide) (by decide) ?_
      show Steps p.tables e below (T10.setTop (mkF m 7 #[.val (.ref r0)] [])) _
      refine XS.iconst X10.here hx rfl (hb hby d2_7) ?_
      show Steps p.tables e below (T10.setTop (mkF m 8 #[.val (.ref r0)] [(.int (0 : Int32))])) _
      refine XS.goto X10.here hx rfl (pc0 := 8) (pc' := 12) rfl (hb hby d2_8) (by decide) (by decide) ?_
      show Steps p.tables e below (T10.setTop (mkF m 12 #[.val (.ref r0)] [(.int (0 : Int32))])) _
      exact retI X10 hx Bd.returns (hb hby d2_12) hr
    · show own_Q2 Z u r0 h0 n0 _ T10.heap _
      rw [e10]
      exact ⟨(by unfold own_r2; rw [if_pos hc12]), N0, rfl⟩
  · --
    obtain ⟨fs, hr, hrun, hended, hW, hsame⟩ := X10.leave (v := some (.int (1 : Int32))) (fun h => by rw [Bd.returns] at h; cases h)
    refine ⟨_, _, pre11 _ ?_, hrun, hended, _, _, rfl, ?_, ⟨_, rfl⟩, hW, hsame.mono (by decide) (by decide)⟩
    · show Steps p.tables e below (T10.setTop (mkF m 4 #[.val (.ref r0)] [(.ref (u 0)), (.ref r0)])) _
      refine Jvm.RoadKit.acmp (g := (mkF m 4 #[.val (.ref r0)] [(.ref (u 0)), (.ref r0)])) X10 hx rfl rfl rfl (pc0 := 4) (pc' := 11) (same := false) rfl (hb hby d2_4) rfl (decide_eq_false fun q => hc12 (Value.ref.inj q)) (by decide) (by decide) ?_
      show Steps p.tables e below (T10.setTop (mkF m 11 #[.val (.ref r0)] [])) _
      refine XS.iconst X10.here hx rfl (hb hby d2_11) ?_
      show Steps p.tables e below (T10.setTop (mkF m 12 #[.val (.ref r0)] [(.int (1 : Int32))])) _
      exact retI X10 hx Bd.returns (hb hby d2_12) hr
    · show own_Q2 Z u r0 h0 n0 _ T10.heap _
      rw [e10]
      exact ⟨(by unfold own_r2; rw [if_neg hc12]), N0, rfl⟩
theorem d1_0 : decode method_2_code 0 = .ok (.iload_n 0, 1) := by decide +kernel
theorem d1_1 : decode method_2_code 1 = .ok (.iconst 1, 1) := by decide +kernel
theorem d1_2 : decode method_2_code 2 = .ok (.iand, 1) := by decide +kernel
theorem d1_3 : decode method_2_code 3 = .ok (.ifCond .ne 9, 3) := by decide +kernel
theorem d1_6 : decode method_2_code 6 = .ok (.getstatic 7, 3) := by decide +kernel
theorem d1_9 : decode method_2_code 9 = .ok (.goto 6, 3) := by decide +kernel
theorem d1_12 : decode method_2_code 12 = .ok (.getstatic 13, 3) := by decide +kernel
theorem d1_15 : decode method_2_code 15 = .ok (.areturn, 1) := by decide +kernel
theorem own_pn_1 : plainName "com/example/resolvent/resolvent/core/ScopeCoversPinLaw" = true := by first | (simp [plainName, overriddenIn]; done) | decide +kernel
theorem own_ef_1 (m : MethodId) (x0 : Int32) : entryFrame m #[(.int x0)] 1 = mkF m 0 #[.val (.int x0)] [] := by first | (simp [entryFrame, mkF, argsToLocals, Value.category]; done) | rfl
def own_r1 (u : Nat → Addr) (p0 : Int32) : Addr :=
  if (p0 &&& (1 : Int32)) = (0 : Int32) then
    (u 0)
  else
    (u 1)
def own_Q1 (Z : State) (u : Nat → Addr) (p0 : Int32) (h0 : Heap) (n0 : Nat) (v : Option Value) (h : Heap) (L : List Loc) : Prop := v = some (.ref (own_r1 u p0)) ∧ Fr n0 L ∧ h = h0
set_option maxRecDepth 65536 in
set_option maxHeartbeats 40000000 in
theorem rm1 (l : Launch) (Z : State) (a0 : Array Value) (hw : ∀ d ∈ tables_1, d.before a0 Z = true) (ws : List Jvm.Cond) (u : Nat → Addr) (p0 : Int32) (B : own_Base Z u) (h0 : Heap) (n0 : Nat) (O : Old Z n0 h0) :
    MetFree l (⟨"com/example/resolvent/resolvent/core/ScopeCoversPinLaw", "pick", "(I)Lcom/example/resolvent/resolvent/core/Scope;"⟩ : MethodName) (head1 (Jvm.Cond.code (⟨"com/example/resolvent/resolvent/core/ScopeCoversPinLaw", "pick", "(I)Lcom/example/resolvent/resolvent/core/Scope;"⟩ : MethodName) method_2_code 1 (some (.object "com/example/resolvent/resolvent/core/Scope")) :: ws) ({ frames := 0, cells := 0, slots := 0, locals := 0 } : Room)) (fun a U => a = #[(.int p0)] ∧ Z.Warmed39 U.vm ∧ U.heap = h0) (fun _ _ _ _ _ => True) (fun _ U o U' => ∃ v L, o = .returned v ∧ own_Q1 Z u p0 h0 n0 v U'.heap L ∧ FrameEnd U o U' L ({ frames := 0, cells := 0, slots := 0, locals := 0 } : Room).cells ({ frames := 0, cells := 0, slots := 0, locals := 0 } : Room).slots) := by
  refine MetFree.of_bodySF (plainFor_of_name own_pn_1) hisR ?_
  intro p e s m args below meth c s₁ Bd hml0 hP hK
  obtain ⟨rfl, hZ, hh⟩ := hP
  have hx := Bd.exec
  have hby := Bd.bytes
  have hml : c.maxLocals = 1 := hml0
  have hown : s.vm.findClass "com/example/resolvent/resolvent/core/ScopeCoversPinLaw" = some m.cls := findClass_of_methodNamed Bd.named
  have hnm := (name_of_methodNamed Bd.named Bd.method).1
  have X0 : Stand p l e ({ frames := 0, cells := 0, slots := 0, locals := 0 } : Room) s m #[(.int p0)] below meth c s₁ [] 0 0 := Stand.of_body Bd
  have e0 : s₁.heap = h0 := by rw [← hh, Bd.state]; rfl
  have N0 := Fr.nil n0
  have K0 := Keep.refl h0 []
  have Z0 : n0 ≤ h0.size := O.1 ▸ O.2.1
  have pre0 : ∀ t, Steps p.tables e below (s₁.setTop (mkF m 0 #[.val (.int p0)] [])) t → Steps p.tables e below (s₁.setTop (entryFrame m #[(.int p0)] 1)) t := fun t k => castTop (own_ef_1 m p0) k
  have pre15 : ∀ t, Steps p.tables e below (s₁.setTop (mkF m 3 #[.val (.int p0)] [(.int (p0 &&& (1 : Int32)))])) t → Steps p.tables e below (s₁.setTop (entryFrame m #[(.int p0)] 1)) t := fun t kt => pre0 t (by
    show Steps p.tables e below (s₁.setTop (mkF m 0 #[.val (.int p0)] [])) _
    refine XS.iloadN X0.here hx rfl (hb hby d1_0) rfl ?_
    show Steps p.tables e below (s₁.setTop (mkF m 1 #[.val (.int p0)] [(.int p0)])) _
    refine XS.iconst X0.here hx rfl (hb hby d1_1) ?_
    show Steps p.tables e below (s₁.setTop (mkF m 2 #[.val (.int p0)] [(.int (1 : Int32)), (.int p0)])) _
    refine XS.iand X0.here hx rfl (hb hby d1_2) rfl ?_
    exact kt)
  by_cases hc16 : (p0 &&& (1 : Int32)) = (0 : Int32)
  · --
    obtain ⟨T17, X17, e17, st17⟩ := getS2 X0 hx hZ hown (host := "") (Or.inl (hw _ (List.mem_of_getElem? (i := 4) rfl))) Via.refl e0 (B.1.ext O.2) (g := (mkF m 6 #[.val (.int p0)] [])) rfl (hb hby d1_6)
    obtain ⟨fs, hr, hrun, hended, hW, hsame⟩ := X17.leave (v := some (.ref (u 0))) (fun h => by rw [Bd.returns] at h; cases h)
    refine ⟨_, _, pre15 _ ?_, hrun, hended, _, _, rfl, ?_, ⟨_, rfl⟩, hW, hsame.mono (by decide) (by decide)⟩
    · show Steps p.tables e below (s₁.setTop (mkF m 3 #[.val (.int p0)] [(.int (p0 &&& (1 : Int32)))])) _
      refine XS.ifNo X0.here hx rfl (hb hby d1_3) rfl ((if0 _ _).trans (teq hc16).2) ?_
      show Steps p.tables e below (s₁.setTop (mkF m 6 #[.val (.int p0)] [])) _
      refine st17 _ ?_
      show Steps p.tables e below (T17.setTop (mkF m 9 #[.val (.int p0)] [(.ref (u 0))])) _
      refine XS.goto X17.here hx rfl (pc0 := 9) (pc' := 15) rfl (hb hby d1_9) (by decide) (by decide) ?_
      show Steps p.tables e below (T17.setTop (mkF m 15 #[.val (.int p0)] [(.ref (u 0))])) _
      exact retOut X17 hx Bd.returns (own_narref rfl rfl) (Or.inr (Or.inr (Or.inr (Or.inr ⟨rfl, rfl, rfl⟩)))) (hb hby d1_15) hr
    · show own_Q1 Z u p0 h0 n0 _ T17.heap _
      rw [e17]
      exact ⟨(by unfold own_r1; rw [if_pos hc16]), N0, rfl⟩
  · --
    obtain ⟨T19, X19, e19, st19⟩ := getS2 X0 hx hZ hown (host := "") (Or.inl (hw _ (List.mem_of_getElem? (i := 7) rfl))) Via.refl e0 (B.2.2.1.ext O.2) (g := (mkF m 12 #[.val (.int p0)] [])) rfl (hb hby d1_12)
    obtain ⟨fs, hr, hrun, hended, hW, hsame⟩ := X19.leave (v := some (.ref (u 1))) (fun h => by rw [Bd.returns] at h; cases h)
    refine ⟨_, _, pre15 _ ?_, hrun, hended, _, _, rfl, ?_, ⟨_, rfl⟩, hW, hsame.mono (by decide) (by decide)⟩
    · show Steps p.tables e below (s₁.setTop (mkF m 3 #[.val (.int p0)] [(.int (p0 &&& (1 : Int32)))])) _
      refine XS.ifYes X0.here hx rfl (pc0 := 3) (pc' := 12) rfl (hb hby d1_3) rfl ((if0 _ _).trans (feq hc16).2) (by decide) (by decide) ?_
      show Steps p.tables e below (s₁.setTop (mkF m 12 #[.val (.int p0)] [])) _
      refine st19 _ ?_
      show Steps p.tables e below (T19.setTop (mkF m 15 #[.val (.int p0)] [(.ref (u 1))])) _
      exact retOut X19 hx Bd.returns (own_narref rfl rfl) (Or.inr (Or.inr (Or.inr (Or.inr ⟨rfl, rfl, rfl⟩)))) (hb hby d1_15) hr
    · show own_Q1 Z u p0 h0 n0 _ T19.heap _
      rw [e19]
      exact ⟨(by unfold own_r1; rw [if_neg hc16]), N0, rfl⟩
theorem own_pn_0 : plainName "com/example/resolvent/resolvent/core/ScopeCoversPinLaw" = true := by first | (simp [plainName, overriddenIn]; done) | decide +kernel
theorem own_ef_0 (m : MethodId) (x0 : Int32) (x1 : Int32) : entryFrame m #[(.int x0), (.int x1)] maxLocals = mkF m 0 #[.val (.int x0), .val (.int x1), .unset, .unset, .unset] [] := by first | (simp [entryFrame, mkF, argsToLocals, Value.category, maxLocals]; done) | rfl
def own_Q0 (Z : State) (u : Nat → Addr) (p0 : Int32) (p1 : Int32) (h0 : Heap) (n0 : Nat) (v : Option Value) (h : Heap) (L : List Loc) : Prop := v = some (.int (1 : Int32)) ∧ Fr n0 L ∧ True
set_option maxRecDepth 65536 in
set_option maxHeartbeats 40000000 in
theorem rm0 (l : Launch) (Z : State) (a0 : Array Value) (hw : ∀ d ∈ tables_1, d.before a0 Z = true) (ws : List Jvm.Cond) (u : Nat → Addr) (p0 : Int32) (p1 : Int32) (B : own_Base Z u) (h0 : Heap) (n0 : Nat) (O : Old Z n0 h0) :
    MetFree l x (head1 (Jvm.Cond.code x code maxLocals ret :: ws) room_1) (fun a U => a = #[(.int p0), (.int p1)] ∧ Z.Warmed39 U.vm ∧ U.heap = h0) (fun _ _ _ _ _ => True) (fun _ U o U' => ∃ v L, o = .returned v ∧ own_Q0 Z u p0 p1 h0 n0 v U'.heap L ∧ FrameEnd U o U' L room_1.cells room_1.slots) := by
  refine MetFree.of_bodySF (plainFor_of_name own_pn_0) hisR ?_
  intro p e s m args below meth c s₁ Bd hml0 hP hK
  obtain ⟨rfl, hZ, hh⟩ := hP
  have hx := Bd.exec
  have hby := Bd.bytes
  have hml : c.maxLocals = 5 := hml0
  have hown : s.vm.findClass "com/example/resolvent/resolvent/core/ScopeCoversPinLaw" = some m.cls := findClass_of_methodNamed Bd.named
  have hnm := (name_of_methodNamed Bd.named Bd.method).1
  have X0 : Stand p l e room_1 s m #[(.int p0), (.int p1)] below meth c s₁ [] 0 0 := Stand.of_body Bd
  have e0 : s₁.heap = h0 := by rw [← hh, Bd.state]; rfl
  have N0 := Fr.nil n0
  have K0 := Keep.refl h0 []
  have Z0 : n0 ≤ h0.size := O.1 ▸ O.2.1
  have pre0 : ∀ t, Steps p.tables e below (s₁.setTop (mkF m 0 #[.val (.int p0), .val (.int p1), .unset, .unset, .unset] [])) t → Steps p.tables e below (s₁.setTop (entryFrame m #[(.int p0), (.int p1)] maxLocals)) t := fun t k => castTop (own_ef_0 m p0 p1) k
  have pre21 : ∀ t, Steps p.tables e below (s₁.setTop (mkF m 1 #[.val (.int p0), .val (.int p1), .unset, .unset, .unset] [(.int p0)])) t → Steps p.tables e below (s₁.setTop (entryFrame m #[(.int p0), (.int p1)] maxLocals)) t := fun t kt => pre0 t (by
    show Steps p.tables e below (s₁.setTop (mkF m 0 #[.val (.int p0), .val (.int p1), .unset, .unset, .unset] [])) _
    refine XS.iloadN X0.here hx rfl (hb hby at_0) rfl ?_
    exact kt)
  obtain ⟨vr22, _, ⟨T22, L22, k22, n22⟩, -, X22, ⟨Lc22, hQ22, l22, y22, z22⟩, st22⟩ := Jvm.LawKit.callS X0 hx (y := (⟨"com/example/resolvent/resolvent/core/ScopeCoversPinLaw", "pick", "(I)Lcom/example/resolvent/resolvent/core/Scope;"⟩ : MethodName)) hown (mvT hZ (hw _ (List.mem_of_getElem? (i := 0) rfl))) (mvT hZ (hw _ (List.mem_of_getElem? (i := 1) rfl))) (mvT hZ (hw _ (List.mem_of_getElem? (i := 2) rfl))) (mvT hZ (hw _ (List.mem_of_getElem? (i := 3) rfl))) (by decide) (backOf (W := 0) (rm1 l Z a0 hw [] u p0 B h0 n0 O ) hZ (hw _ (List.mem_of_getElem? (i := 3) rfl)) (hw _ (List.mem_of_getElem? (i := 2) rfl)) (by decide) (by decide)) (g := (mkF m 1 #[.val (.int p0), .val (.int p1), .unset, .unset, .unset] [(.int p0)])) rfl (by rw [hml]; rfl) (argsL := [(.int p0)]) (rest := []) (lenOf own_pd0 rfl) rfl (by show 2 * 0 + _ ≤ _; exact Nat.le_of_eq rfl) (hb hby at_1) (fun _ _ => ⟨rfl, e0, (by decide : 0 + 0 ≤ _), (by decide : 0 + 0 ≤ _)⟩)
  dsimp only [Pt.U, Pt.locs, Pt.cells, Pt.slots] at X22 l22 y22 z22 st22 hQ22
  subst l22 y22 z22
  obtain ⟨hv22, N22q, e22⟩ := hQ22
  have N22 := Fr.app N0 N22q
  by_cases hc23 : (p0 &&& (1 : Int32)) = (0 : Int32)
  · --
    obtain rfl : vr22 = some (.ref (u 0)) := hv22.trans (by unfold own_r1; rw [if_pos hc23])
    have pre24 : ∀ t, Steps p.tables e below (T22.setTop (mkF m 6 #[.val (.int p0), .val (.int p1), .val (.ref (u 0)), .unset, .unset] [(.int p1)])) t → Steps p.tables e below (s₁.setTop (entryFrame m #[(.int p0), (.int p1)] maxLocals)) t := fun t kt => pre21 t (by
      show Steps p.tables e below (s₁.setTop (mkF m 1 #[.val (.int p0), .val (.int p1), .unset, .unset, .unset] [(.int p0)])) _
      refine st22 _ ?_
      show Steps p.tables e below (T22.setTop (mkF m 4 #[.val (.int p0), .val (.int p1), .unset, .unset, .unset] [(.ref (u 0))])) _
      refine XS.astoreN X22.here hx rfl (hb hby at_4) rfl rfl (l' := #[.val (.int p0), .val (.int p1), .val (.ref (u 0)), .unset, .unset]) rfl ?_
      show Steps p.tables e below (T22.setTop (mkF m 5 #[.val (.int p0), .val (.int p1), .val (.ref (u 0)), .unset, .unset] [])) _
      refine XS.iloadN X22.here hx rfl (hb hby at_5) rfl ?_
      exact kt)
    obtain ⟨vr25, _, ⟨T25, L25, k25, n25⟩, -, X25, ⟨Lc25, hQ25, l25, y25, z25⟩, st25⟩ := Jvm.LawKit.callS X22 hx (y := (⟨"com/example/resolvent/resolvent/core/ScopeCoversPinLaw", "pick", "(I)Lcom/example/resolvent/resolvent/core/Scope;"⟩ : MethodName)) hown (mvT hZ (hw _ (List.mem_of_getElem? (i := 0) rfl))) (mvT hZ (hw _ (List.mem_of_getElem? (i := 1) rfl))) (mvT hZ (hw _ (List.mem_of_getElem? (i := 2) rfl))) (mvT hZ (hw _ (List.mem_of_getElem? (i := 3) rfl))) (by decide) (backOf (W := 0) (rm1 l Z a0 hw [] u p1 B h0 n0 O ) hZ (hw _ (List.mem_of_getElem? (i := 3) rfl)) (hw _ (List.mem_of_getElem? (i := 2) rfl)) (by decide) (by decide)) (g := (mkF m 6 #[.val (.int p0), .val (.int p1), .val (.ref (u 0)), .unset, .unset] [(.int p1)])) rfl (by rw [hml]; rfl) (argsL := [(.int p1)]) (rest := []) (lenOf own_pd0 rfl) rfl (by show 2 * 0 + _ ≤ _; exact Nat.le_of_eq rfl) (hb hby at_6) (fun _ _ => ⟨rfl, e22, (by decide : 0 + 0 ≤ _), (by decide : 0 + 0 ≤ _)⟩)
    dsimp only [Pt.U, Pt.locs, Pt.cells, Pt.slots] at X25 l25 y25 z25 st25 hQ25
    subst l25 y25 z25
    obtain ⟨hv25, N25q, e25⟩ := hQ25
    have N25 := Fr.app N22 N25q
    by_cases hc26 : (p1 &&& (1 : Int32)) = (0 : Int32)
    · --
      obtain rfl : vr25 = some (.ref (u 0)) := hv25.trans (by unfold own_r1; rw [if_pos hc26])
      have pre27 : ∀ t, Steps p.tables e below (T25.setTop (mkF m 11 #[.val (.int p0), .val (.int p1), .val (.ref (u 0)), .val (.ref (u 0)), .unset] [(.ref (u 0))])) t → Steps p.tables e below (s₁.setTop (entryFrame m #[(.int p0), (.int p1)] maxLocals)) t := fun t kt => pre24 t (by
        show Steps p.tables e below (T22.setTop (mkF m 6 #[.val (.int p0), .val (.int p1), .val (.ref (u 0)), .unset, .unset] [(.int p1)])) _
        refine st25 _ ?_
        show Steps p.tables e below (T25.setTop (mkF m 9 #[.val (.int p0), .val (.int p1), .val (.ref (u 0)), .unset, .unset] [(.ref (u 0))])) _
        refine XS.astoreN X25.here hx rfl (hb hby at_9) rfl rfl (l' := #[.val (.int p0), .val (.int p1), .val (.ref (u 0)), .val (.ref (u 0)), .unset]) rfl ?_
        show Steps p.tables e below (T25.setTop (mkF m 10 #[.val (.int p0), .val (.int p1), .val (.ref (u 0)), .val (.ref (u 0)), .unset] [])) _
        refine XS.aloadN X25.here hx rfl (hb hby at_10) rfl rfl ?_
        exact kt)
      obtain ⟨vr28, _, ⟨T28, L28, k28, n28⟩, -, X28, ⟨Lc28, hQ28, l28, y28, z28⟩, st28⟩ := Jvm.LawKit.callS X25 hx (y := (⟨"com/example/resolvent/resolvent/core/ScopeCoversPinLaw", "rank", "(Lcom/example/resolvent/resolvent/core/Scope;)I"⟩ : MethodName)) hown (mvT hZ (hw _ (List.mem_of_getElem? (i := 9) rfl))) (mvT hZ (hw _ (List.mem_of_getElem? (i := 10) rfl))) (mvT hZ (hw _ (List.mem_of_getElem? (i := 2) rfl))) (mvT hZ (hw _ (List.mem_of_getElem? (i := 11) rfl))) (by decide) (backOf (W := 0) (rm2 l Z a0 hw [] u (u 0) B h0 n0 O ) hZ (hw _ (List.mem_of_getElem? (i := 11) rfl)) (hw _ (List.mem_of_getElem? (i := 2) rfl)) (by decide) (by decide)) (g := (mkF m 11 #[.val (.int p0), .val (.int p1), .val (.ref (u 0)), .val (.ref (u 0)), .unset] [(.ref (u 0))])) rfl (by rw [hml]; rfl) (argsL := [(.ref (u 0))]) (rest := []) (lenOf own_pd1 rfl) rfl (by show 2 * 0 + _ ≤ _; exact Nat.le_of_eq rfl) (hb hby at_11) (fun _ _ => ⟨rfl, e25, (by decide : 0 + 0 ≤ _), (by decide : 0 + 0 ≤ _)⟩)
      dsimp only [Pt.U, Pt.locs, Pt.cells, Pt.slots] at X28 l28 y28 z28 st28 hQ28
      subst l28 y28 z28
      obtain ⟨hv28, N28q, e28⟩ := hQ28
      have N28 := Fr.app N25 N28q
      obtain rfl : vr28 = some (.int (0 : Int32)) := hv28.trans (by unfold own_r2; rw [if_pos (rfl : (u 0) = (u 0))])
      have pre29 : ∀ t, Steps p.tables e below (T28.setTop (mkF m 15 #[.val (.int p0), .val (.int p1), .val (.ref (u 0)), .val (.ref (u 0)), .unset] [(.ref (u 0)), (.int (0 : Int32))])) t → Steps p.tables e below (s₁.setTop (entryFrame m #[(.int p0), (.int p1)] maxLocals)) t := fun t kt => pre27 t (by
        show Steps p.tables e below (T25.setTop (mkF m 11 #[.val (.int p0), .val (.int p1), .val (.ref (u 0)), .val (.ref (u 0)), .unset] [(.ref (u 0))])) _
        refine st28 _ ?_
        show Steps p.tables e below (T28.setTop (mkF m 14 #[.val (.int p0), .val (.int p1), .val (.ref (u 0)), .val (.ref (u 0)), .unset] [(.int (0 : Int32))])) _
        refine XS.aloadN X28.here hx rfl (hb hby at_14) rfl rfl ?_
        exact kt)
      obtain ⟨vr30, _, ⟨T30, L30, k30, n30⟩, -, X30, ⟨Lc30, hQ30, l30, y30, z30⟩, st30⟩ := Jvm.LawKit.callS X28 hx (y := (⟨"com/example/resolvent/resolvent/core/ScopeCoversPinLaw", "rank", "(Lcom/example/resolvent/resolvent/core/Scope;)I"⟩ : MethodName)) hown (mvT hZ (hw _ (List.mem_of_getElem? (i := 9) rfl))) (mvT hZ (hw _ (List.mem_of_getElem? (i := 10) rfl))) (mvT hZ (hw _ (List.mem_of_getElem? (i := 2) rfl))) (mvT hZ (hw _ (List.mem_of_getElem? (i := 11) rfl))) (by decide) (backOf (W := 1) (rm2 l Z a0 hw [] u (u 0) B h0 n0 O ) hZ (hw _ (List.mem_of_getElem? (i := 11) rfl)) (hw _ (List.mem_of_getElem? (i := 2) rfl)) (by decide) (by decide)) (g := (mkF m 15 #[.val (.int p0), .val (.int p1), .val (.ref (u 0)), .val (.ref (u 0)), .unset] [(.ref (u 0)), (.int (0 : Int32))])) rfl (by rw [hml]; rfl) (argsL := [(.ref (u 0))]) (rest := [(.int (0 : Int32))]) (lenOf own_pd1 rfl) rfl (by show 2 * 0 + _ ≤ _; exact Nat.le_of_eq rfl) (hb hby at_15) (fun _ _ => ⟨rfl, e28, (by decide : 0 + 0 ≤ _), (by decide : 0 + 0 ≤ _)⟩)
      dsimp only [Pt.U, Pt.locs, Pt.cells, Pt.slots] at X30 l30 y30 z30 st30 hQ30
      subst l30 y30 z30
      obtain ⟨hv30, N30q, e30⟩ := hQ30
      have N30 := Fr.app N28 N30q
      obtain rfl : vr30 = some (.int (0 : Int32)) := hv30.trans (by unfold own_r2; rw [if_pos (rfl : (u 0) = (u 0))])
      have pre31 : ∀ t, Steps p.tables e below (T30.setTop (mkF m 30 #[.val (.int p0), .val (.int p1), .val (.ref (u 0)), .val (.ref (u 0)), .val (.int (1 : Int32))] [(.ref (u 0)), (.ref (u 0))])) t → Steps p.tables e below (s₁.setTop (entryFrame m #[(.int p0), (.int p1)] maxLocals)) t := fun t kt => pre29 t (by
        show Steps p.tables e below (T28.setTop (mkF m 15 #[.val (.int p0), .val (.int p1), .val (.ref (u 0)), .val (.ref (u 0)), .unset] [(.ref (u 0)), (.int (0 : Int32))])) _
        refine st30 _ ?_
        show Steps p.tables e below (T30.setTop (mkF m 18 #[.val (.int p0), .val (.int p1), .val (.ref (u 0)), .val (.ref (u 0)), .unset] [(.int (0 : Int32)), (.int (0 : Int32))])) _
        refine XS.icmpNo X30.here hx rfl (hb hby at_18) rfl (flt (by decide : ¬ ((0 : Int32) < (0 : Int32)))).2.2.1 ?_
        show Steps p.tables e below (T30.setTop (mkF m 21 #[.val (.int p0), .val (.int p1), .val (.ref (u 0)), .val (.ref (u 0)), .unset] [])) _
        refine XS.iconst X30.here hx rfl (hb hby at_21) ?_
        show Steps p.tables e below (T30.setTop (mkF m 22 #[.val (.int p0), .val (.int p1), .val (.ref (u 0)), .val (.ref (u 0)), .unset] [(.int (1 : Int32))])) _
        refine XS.goto X30.here hx rfl (pc0 := 22) (pc' := 26) rfl (hb hby at_22) (by decide) (by decide) ?_
        show Steps p.tables e below (T30.setTop (mkF m 26 #[.val (.int p0), .val (.int p1), .val (.ref (u 0)), .val (.ref (u 0)), .unset] [(.int (1 : Int32))])) _
        refine XS.istore X30.here hx rfl (hb hby at_26) rfl (l' := #[.val (.int p0), .val (.int p1), .val (.ref (u 0)), .val (.ref (u 0)), .val (.int (1 : Int32))]) rfl ?_
        show Steps p.tables e below (T30.setTop (mkF m 28 #[.val (.int p0), .val (.int p1), .val (.ref (u 0)), .val (.ref (u 0)), .val (.int (1 : Int32))] [])) _
        refine XS.aloadN X30.here hx rfl (hb hby at_28) rfl rfl ?_
        show Steps p.tables e below (T30.setTop (mkF m 29 #[.val (.int p0), .val (.int p1), .val (.ref (u 0)), .val (.ref (u 0)), .val (.int (1 : Int32))] [(.ref (u 0))])) _
        refine XS.aloadN X30.here hx rfl (hb hby at_29) rfl rfl ?_
        exact kt)
      obtain ⟨cq32, kq32, q32a, q32b, q32c⟩ := isOf hZ e30 (B.2.1.ext O.2)
      obtain ⟨vr32, _, ⟨T32, L32, k32, n32⟩, -, X32, ⟨Lc32, hQ32, l32, y32, z32⟩, st32⟩ := X30.virtualBack hx (y := (⟨"com/example/resolvent/resolvent/core/Scope", "covers", "(Lcom/example/resolvent/resolvent/core/Scope;)Z"⟩ : MethodName)) (z := (⟨"com/example/resolvent/resolvent/core/Scope", "covers", "(Lcom/example/resolvent/resolvent/core/Scope;)Z"⟩ : MethodName)) hown (mvT hZ (hw _ (List.mem_of_getElem? (i := 12) rfl))) (mvT hZ (hw _ (List.mem_of_getElem? (i := 13) rfl))) (notFace_of_selects (args := #[]) (mvT hZ (hw _ (List.mem_of_getElem? (i := 15) rfl)))) (mvT hZ (hw _ (List.mem_of_getElem? (i := 15) rfl))) (mvT hZ (hw _ (List.mem_of_getElem? (i := 14) rfl))) (by decide) (backOf (W := 0) (rm3 l Z a0 hw [] u (u 0) (u 0) B h0 n0 O ) hZ (hw _ (List.mem_of_getElem? (i := 16) rfl)) (hw _ (List.mem_of_getElem? (i := 5) rfl)) (by decide) (by decide)) q32a q32c (g := (mkF m 30 #[.val (.int p0), .val (.int p1), .val (.ref (u 0)), .val (.ref (u 0)), .val (.int (1 : Int32))] [(.ref (u 0)), (.ref (u 0))])) rfl (by rw [hml]; rfl) (Steps.refl _) (argsL := [(.ref (u 0))]) (rest := []) (lenOf own_pd2 rfl) rfl (by show 2 * 0 + _ ≤ _; exact Nat.le_of_eq rfl) (hb hby at_30) (fun _ _ => ⟨rfl, e30, (by decide : 0 + 0 ≤ _), (by decide : 0 + 0 ≤ _)⟩)
      dsimp only [Pt.U, Pt.locs, Pt.cells, Pt.slots] at X32 l32 y32 z32 st32 hQ32
      subst l32 y32 z32
      obtain ⟨hv32, N32q, e32⟩ := hQ32
      have N32 := Fr.app N30 N32q
      obtain rfl : vr32 = some (.int (1 : Int32)) := hv32.trans (by unfold own_r3; rw [if_pos (rfl : (u 0) = (u 0))])
      obtain ⟨fs, hr, hrun, hended, hW, hsame⟩ := X32.leave (v := some (.int (1 : Int32))) (fun h => by rw [Bd.returns] at h; cases h)
      refine ⟨_, _, pre31 _ ?_, hrun, hended, _, _, rfl, ?_, ⟨_, rfl⟩, hW, hsame.mono (by decide) (by decide)⟩
      · show Steps p.tables e below (T30.setTop (mkF m 30 #[.val (.int p0), .val (.int p1), .val (.ref (u 0)), .val (.ref (u 0)), .val (.int (1 : Int32))] [(.ref (u 0)), (.ref (u 0))])) _
        refine st32.trans ?_
        show Steps p.tables e below (T32.setTop (mkF m 33 #[.val (.int p0), .val (.int p1), .val (.ref (u 0)), .val (.ref (u 0)), .val (.int (1 : Int32))] [(.int (1 : Int32))])) _
        refine XS.iload X32.here hx rfl (hb hby at_33) rfl ?_
        show Steps p.tables e below (T32.setTop (mkF m 35 #[.val (.int p0), .val (.int p1), .val (.ref (u 0)), .val (.ref (u 0)), .val (.int (1 : Int32))] [(.int (1 : Int32)), (.int (1 : Int32))])) _
        refine XS.icmpNo X32.here hx rfl (hb hby at_35) rfl (teq (by decide : (1 : Int32) = (1 : Int32))).2 ?_
        show Steps p.tables e below (T32.setTop (mkF m 38 #[.val (.int p0), .val (.int p1), .val (.ref (u 0)), .val (.ref (u 0)), .val (.int (1 : Int32))] [])) _
        refine XS.iconst X32.here hx rfl (hb hby at_38) ?_
        show Steps p.tables e below (T32.setTop (mkF m 39 #[.val (.int p0), .val (.int p1), .val (.ref (u 0)), .val (.ref (u 0)), .val (.int (1 : Int32))] [(.int (1 : Int32))])) _
        refine XS.goto X32.here hx rfl (pc0 := 39) (pc' := 43) rfl (hb hby at_39) (by decide) (by decide) ?_
        show Steps p.tables e below (T32.setTop (mkF m 43 #[.val (.int p0), .val (.int p1), .val (.ref (u 0)), .val (.ref (u 0)), .val (.int (1 : Int32))] [(.int (1 : Int32))])) _
        exact retN X32 hx (t := .boolean) Bd.returns (by simp) (hb hby at_43) hr
      · show own_Q0 Z u p0 p1 h0 n0 _ T32.heap _
        rw [e32]
        exact ⟨rfl, N32, trivial⟩
    · --
      obtain rfl : vr25 = some (.ref (u 1)) := hv25.trans (by unfold own_r1; rw [if_neg hc26])
      have pre34 : ∀ t, Steps p.tables e below (T25.setTop (mkF m 11 #[.val (.int p0), .val (.int p1), .val (.ref (u 0)), .val (.ref (u 1)), .unset] [(.ref (u 0))])) t → Steps p.tables e below (s₁.setTop (entryFrame m #[(.int p0), (.int p1)] maxLocals)) t := fun t kt => pre24 t (by
        show Steps p.tables e below (T22.setTop (mkF m 6 #[.val (.int p0), .val (.int p1), .val (.ref (u 0)), .unset, .unset] [(.int p1)])) _
        refine st25 _ ?_
        show Steps p.tables e below (T25.setTop (mkF m 9 #[.val (.int p0), .val (.int p1), .val (.ref (u 0)), .unset, .unset] [(.ref (u 1))])) _
        refine XS.astoreN X25.here hx rfl (hb hby at_9) rfl rfl (l' := #[.val (.int p0), .val (.int p1), .val (.ref (u 0)), .val (.ref (u 1)), .unset]) rfl ?_
        show Steps p.tables e below (T25.setTop (mkF m 10 #[.val (.int p0), .val (.int p1), .val (.ref (u 0)), .val (.ref (u 1)), .unset] [])) _
        refine XS.aloadN X25.here hx rfl (hb hby at_10) rfl rfl ?_
        exact kt)
      obtain ⟨vr35, _, ⟨T35, L35, k35, n35⟩, -, X35, ⟨Lc35, hQ35, l35, y35, z35⟩, st35⟩ := Jvm.LawKit.callS X25 hx (y := (⟨"com/example/resolvent/resolvent/core/ScopeCoversPinLaw", "rank", "(Lcom/example/resolvent/resolvent/core/Scope;)I"⟩ : MethodName)) hown (mvT hZ (hw _ (List.mem_of_getElem? (i := 9) rfl))) (mvT hZ (hw _ (List.mem_of_getElem? (i := 10) rfl))) (mvT hZ (hw _ (List.mem_of_getElem? (i := 2) rfl))) (mvT hZ (hw _ (List.mem_of_getElem? (i := 11) rfl))) (by decide) (backOf (W := 0) (rm2 l Z a0 hw [] u (u 0) B h0 n0 O ) hZ (hw _ (List.mem_of_getElem? (i := 11) rfl)) (hw _ (List.mem_of_getElem? (i := 2) rfl)) (by decide) (by decide)) (g := (mkF m 11 #[.val (.int p0), .val (.int p1), .val (.ref (u 0)), .val (.ref (u 1)), .unset] [(.ref (u 0))])) rfl (by rw [hml]; rfl) (argsL := [(.ref (u 0))]) (rest := []) (lenOf own_pd1 rfl) rfl (by show 2 * 0 + _ ≤ _; exact Nat.le_of_eq rfl) (hb hby at_11) (fun _ _ => ⟨rfl, e25, (by decide : 0 + 0 ≤ _), (by decide : 0 + 0 ≤ _)⟩)
      dsimp only [Pt.U, Pt.locs, Pt.cells, Pt.slots] at X35 l35 y35 z35 st35 hQ35
      subst l35 y35 z35
      obtain ⟨hv35, N35q, e35⟩ := hQ35
      have N35 := Fr.app N25 N35q
      obtain rfl : vr35 = some (.int (0 : Int32)) := hv35.trans (by unfold own_r2; rw [if_pos (rfl : (u 0) = (u 0))])
      have pre36 : ∀ t, Steps p.tables e below (T35.setTop (mkF m 15 #[.val (.int p0), .val (.int p1), .val (.ref (u 0)), .val (.ref (u 1)), .unset] [(.ref (u 1)), (.int (0 : Int32))])) t → Steps p.tables e below (s₁.setTop (entryFrame m #[(.int p0), (.int p1)] maxLocals)) t := fun t kt => pre34 t (by
        show Steps p.tables e below (T25.setTop (mkF m 11 #[.val (.int p0), .val (.int p1), .val (.ref (u 0)), .val (.ref (u 1)), .unset] [(.ref (u 0))])) _
        refine st35 _ ?_
        show Steps p.tables e below (T35.setTop (mkF m 14 #[.val (.int p0), .val (.int p1), .val (.ref (u 0)), .val (.ref (u 1)), .unset] [(.int (0 : Int32))])) _
        refine XS.aloadN X35.here hx rfl (hb hby at_14) rfl rfl ?_
        exact kt)
      obtain ⟨vr37, _, ⟨T37, L37, k37, n37⟩, -, X37, ⟨Lc37, hQ37, l37, y37, z37⟩, st37⟩ := Jvm.LawKit.callS X35 hx (y := (⟨"com/example/resolvent/resolvent/core/ScopeCoversPinLaw", "rank", "(Lcom/example/resolvent/resolvent/core/Scope;)I"⟩ : MethodName)) hown (mvT hZ (hw _ (List.mem_of_getElem? (i := 9) rfl))) (mvT hZ (hw _ (List.mem_of_getElem? (i := 10) rfl))) (mvT hZ (hw _ (List.mem_of_getElem? (i := 2) rfl))) (mvT hZ (hw _ (List.mem_of_getElem? (i := 11) rfl))) (by decide) (backOf (W := 1) (rm2 l Z a0 hw [] u (u 1) B h0 n0 O ) hZ (hw _ (List.mem_of_getElem? (i := 11) rfl)) (hw _ (List.mem_of_getElem? (i := 2) rfl)) (by decide) (by decide)) (g := (mkF m 15 #[.val (.int p0), .val (.int p1), .val (.ref (u 0)), .val (.ref (u 1)), .unset] [(.ref (u 1)), (.int (0 : Int32))])) rfl (by rw [hml]; rfl) (argsL := [(.ref (u 1))]) (rest := [(.int (0 : Int32))]) (lenOf own_pd1 rfl) rfl (by show 2 * 0 + _ ≤ _; exact Nat.le_of_eq rfl) (hb hby at_15) (fun _ _ => ⟨rfl, e35, (by decide : 0 + 0 ≤ _), (by decide : 0 + 0 ≤ _)⟩)
      dsimp only [Pt.U, Pt.locs, Pt.cells, Pt.slots] at X37 l37 y37 z37 st37 hQ37
      subst l37 y37 z37
      obtain ⟨hv37, N37q, e37⟩ := hQ37
      have N37 := Fr.app N35 N37q
      obtain rfl : vr37 = some (.int (1 : Int32)) := hv37.trans (by unfold own_r2; rw [if_neg ((Fld.ne B.2.2.2.2.2 B.2.2.2.2.1 (by decide)) : ¬ ((u 1) = (u 0)))])
      have pre38 : ∀ t, Steps p.tables e below (T37.setTop (mkF m 30 #[.val (.int p0), .val (.int p1), .val (.ref (u 0)), .val (.ref (u 1)), .val (.int (1 : Int32))] [(.ref (u 1)), (.ref (u 0))])) t → Steps p.tables e below (s₁.setTop (entryFrame m #[(.int p0), (.int p1)] maxLocals)) t := fun t kt => pre36 t (by
        show Steps p.tables e below (T35.setTop (mkF m 15 #[.val (.int p0), .val (.int p1), .val (.ref (u 0)), .val (.ref (u 1)), .unset] [(.ref (u 1)), (.int (0 : Int32))])) _
        refine st37 _ ?_
        show Steps p.tables e below (T37.setTop (mkF m 18 #[.val (.int p0), .val (.int p1), .val (.ref (u 0)), .val (.ref (u 1)), .unset] [(.int (1 : Int32)), (.int (0 : Int32))])) _
        refine XS.icmpNo X37.here hx rfl (hb hby at_18) rfl (flt (by decide : ¬ ((1 : Int32) < (0 : Int32)))).2.2.1 ?_
        show Steps p.tables e below (T37.setTop (mkF m 21 #[.val (.int p0), .val (.int p1), .val (.ref (u 0)), .val (.ref (u 1)), .unset] [])) _
        refine XS.iconst X37.here hx rfl (hb hby at_21) ?_
        show Steps p.tables e below (T37.setTop (mkF m 22 #[.val (.int p0), .val (.int p1), .val (.ref (u 0)), .val (.ref (u 1)), .unset] [(.int (1 : Int32))])) _
        refine XS.goto X37.here hx rfl (pc0 := 22) (pc' := 26) rfl (hb hby at_22) (by decide) (by decide) ?_
        show Steps p.tables e below (T37.setTop (mkF m 26 #[.val (.int p0), .val (.int p1), .val (.ref (u 0)), .val (.ref (u 1)), .unset] [(.int (1 : Int32))])) _
        refine XS.istore X37.here hx rfl (hb hby at_26) rfl (l' := #[.val (.int p0), .val (.int p1), .val (.ref (u 0)), .val (.ref (u 1)), .val (.int (1 : Int32))]) rfl ?_
        show Steps p.tables e below (T37.setTop (mkF m 28 #[.val (.int p0), .val (.int p1), .val (.ref (u 0)), .val (.ref (u 1)), .val (.int (1 : Int32))] [])) _
        refine XS.aloadN X37.here hx rfl (hb hby at_28) rfl rfl ?_
        show Steps p.tables e below (T37.setTop (mkF m 29 #[.val (.int p0), .val (.int p1), .val (.ref (u 0)), .val (.ref (u 1)), .val (.int (1 : Int32))] [(.ref (u 0))])) _
        refine XS.aloadN X37.here hx rfl (hb hby at_29) rfl rfl ?_
        exact kt)
      obtain ⟨cq39, kq39, q39a, q39b, q39c⟩ := isOf hZ e37 (B.2.1.ext O.2)
      obtain ⟨vr39, _, ⟨T39, L39, k39, n39⟩, -, X39, ⟨Lc39, hQ39, l39, y39, z39⟩, st39⟩ := X37.virtualBack hx (y := (⟨"com/example/resolvent/resolvent/core/Scope", "covers", "(Lcom/example/resolvent/resolvent/core/Scope;)Z"⟩ : MethodName)) (z := (⟨"com/example/resolvent/resolvent/core/Scope", "covers", "(Lcom/example/resolvent/resolvent/core/Scope;)Z"⟩ : MethodName)) hown (mvT hZ (hw _ (List.mem_of_getElem? (i := 12) rfl))) (mvT hZ (hw _ (List.mem_of_getElem? (i := 13) rfl))) (notFace_of_selects (args := #[]) (mvT hZ (hw _ (List.mem_of_getElem? (i := 15) rfl)))) (mvT hZ (hw _ (List.mem_of_getElem? (i := 15) rfl))) (mvT hZ (hw _ (List.mem_of_getElem? (i := 14) rfl))) (by decide) (backOf (W := 0) (rm3 l Z a0 hw [] u (u 0) (u 1) B h0 n0 O ) hZ (hw _ (List.mem_of_getElem? (i := 16) rfl)) (hw _ (List.mem_of_getElem? (i := 5) rfl)) (by decide) (by decide)) q39a q39c (g := (mkF m 30 #[.val (.int p0), .val (.int p1), .val (.ref (u 0)), .val (.ref (u 1)), .val (.int (1 : Int32))] [(.ref (u 1)), (.ref (u 0))])) rfl (by rw [hml]; rfl) (Steps.refl _) (argsL := [(.ref (u 1))]) (rest := []) (lenOf own_pd2 rfl) rfl (by show 2 * 0 + _ ≤ _; exact Nat.le_of_eq rfl) (hb hby at_30) (fun _ _ => ⟨rfl, e37, (by decide : 0 + 0 ≤ _), (by decide : 0 + 0 ≤ _)⟩)
      dsimp only [Pt.U, Pt.locs, Pt.cells, Pt.slots] at X39 l39 y39 z39 st39 hQ39
      subst l39 y39 z39
      obtain ⟨hv39, N39q, e39⟩ := hQ39
      have N39 := Fr.app N37 N39q
      obtain rfl : vr39 = some (.int (1 : Int32)) := hv39.trans (by unfold own_r3; rw [if_pos (rfl : (u 0) = (u 0))])
      obtain ⟨fs, hr, hrun, hended, hW, hsame⟩ := X39.leave (v := some (.int (1 : Int32))) (fun h => by rw [Bd.returns] at h; cases h)
      refine ⟨_, _, pre38 _ ?_, hrun, hended, _, _, rfl, ?_, ⟨_, rfl⟩, hW, hsame.mono (by decide) (by decide)⟩
      · show Steps p.tables e below (T37.setTop (mkF m 30 #[.val (.int p0), .val (.int p1), .val (.ref (u 0)), .val (.ref (u 1)), .val (.int (1 : Int32))] [(.ref (u 1)), (.ref (u 0))])) _
        refine st39.trans ?_
        show Steps p.tables e below (T39.setTop (mkF m 33 #[.val (.int p0), .val (.int p1), .val (.ref (u 0)), .val (.ref (u 1)), .val (.int (1 : Int32))] [(.int (1 : Int32))])) _
        refine XS.iload X39.here hx rfl (hb hby at_33) rfl ?_
        show Steps p.tables e below (T39.setTop (mkF m 35 #[.val (.int p0), .val (.int p1), .val (.ref (u 0)), .val (.ref (u 1)), .val (.int (1 : Int32))] [(.int (1 : Int32)), (.int (1 : Int32))])) _
        refine XS.icmpNo X39.here hx rfl (hb hby at_35) rfl (teq (by decide : (1 : Int32) = (1 : Int32))).2 ?_
        show Steps p.tables e below (T39.setTop (mkF m 38 #[.val (.int p0), .val (.int p1), .val (.ref (u 0)), .val (.ref (u 1)), .val (.int (1 : Int32))] [])) _
        refine XS.iconst X39.here hx rfl (hb hby at_38) ?_
        show Steps p.tables e below (T39.setTop (mkF m 39 #[.val (.int p0), .val (.int p1), .val (.ref (u 0)), .val (.ref (u 1)), .val (.int (1 : Int32))] [(.int (1 : Int32))])) _
        refine XS.goto X39.here hx rfl (pc0 := 39) (pc' := 43) rfl (hb hby at_39) (by decide) (by decide) ?_
        show Steps p.tables e below (T39.setTop (mkF m 43 #[.val (.int p0), .val (.int p1), .val (.ref (u 0)), .val (.ref (u 1)), .val (.int (1 : Int32))] [(.int (1 : Int32))])) _
        exact retN X39 hx (t := .boolean) Bd.returns (by simp) (hb hby at_43) hr
      · show own_Q0 Z u p0 p1 h0 n0 _ T39.heap _
        rw [e39]
        exact ⟨rfl, N39, trivial⟩
  · --
    obtain rfl : vr22 = some (.ref (u 1)) := hv22.trans (by unfold own_r1; rw [if_neg hc23])
    have pre41 : ∀ t, Steps p.tables e below (T22.setTop (mkF m 6 #[.val (.int p0), .val (.int p1), .val (.ref (u 1)), .unset, .unset] [(.int p1)])) t → Steps p.tables e below (s₁.setTop (entryFrame m #[(.int p0), (.int p1)] maxLocals)) t := fun t kt => pre21 t (by
      show Steps p.tables e below (s₁.setTop (mkF m 1 #[.val (.int p0), .val (.int p1), .unset, .unset, .unset] [(.int p0)])) _
      refine st22 _ ?_
      show Steps p.tables e below (T22.setTop (mkF m 4 #[.val (.int p0), .val (.int p1), .unset, .unset, .unset] [(.ref (u 1))])) _
      refine XS.astoreN X22.here hx rfl (hb hby at_4) rfl rfl (l' := #[.val (.int p0), .val (.int p1), .val (.ref (u 1)), .unset, .unset]) rfl ?_
      show Steps p.tables e below (T22.setTop (mkF m 5 #[.val (.int p0), .val (.int p1), .val (.ref (u 1)), .unset, .unset] [])) _
      refine XS.iloadN X22.here hx rfl (hb hby at_5) rfl ?_
      exact kt)
    obtain ⟨vr42, _, ⟨T42, L42, k42, n42⟩, -, X42, ⟨Lc42, hQ42, l42, y42, z42⟩, st42⟩ := Jvm.LawKit.callS X22 hx (y := (⟨"com/example/resolvent/resolvent/core/ScopeCoversPinLaw", "pick", "(I)Lcom/example/resolvent/resolvent/core/Scope;"⟩ : MethodName)) hown (mvT hZ (hw _ (List.mem_of_getElem? (i := 0) rfl))) (mvT hZ (hw _ (List.mem_of_getElem? (i := 1) rfl))) (mvT hZ (hw _ (List.mem_of_getElem? (i := 2) rfl))) (mvT hZ (hw _ (List.mem_of_getElem? (i := 3) rfl))) (by decide) (backOf (W := 0) (rm1 l Z a0 hw [] u p1 B h0 n0 O ) hZ (hw _ (List.mem_of_getElem? (i := 3) rfl)) (hw _ (List.mem_of_getElem? (i := 2) rfl)) (by decide) (by decide)) (g := (mkF m 6 #[.val (.int p0), .val (.int p1), .val (.ref (u 1)), .unset, .unset] [(.int p1)])) rfl (by rw [hml]; rfl) (argsL := [(.int p1)]) (rest := []) (lenOf own_pd0 rfl) rfl (by show 2 * 0 + _ ≤ _; exact Nat.le_of_eq rfl) (hb hby at_6) (fun _ _ => ⟨rfl, e22, (by decide : 0 + 0 ≤ _), (by decide : 0 + 0 ≤ _)⟩)
    dsimp only [Pt.U, Pt.locs, Pt.cells, Pt.slots] at X42 l42 y42 z42 st42 hQ42
    subst l42 y42 z42
    obtain ⟨hv42, N42q, e42⟩ := hQ42
    have N42 := Fr.app N22 N42q
    by_cases hc43 : (p1 &&& (1 : Int32)) = (0 : Int32)
    · --
      obtain rfl : vr42 = some (.ref (u 0)) := hv42.trans (by unfold own_r1; rw [if_pos hc43])
      have pre44 : ∀ t, Steps p.tables e below (T42.setTop (mkF m 11 #[.val (.int p0), .val (.int p1), .val (.ref (u 1)), .val (.ref (u 0)), .unset] [(.ref (u 1))])) t → Steps p.tables e below (s₁.setTop (entryFrame m #[(.int p0), (.int p1)] maxLocals)) t := fun t kt => pre41 t (by
        show Steps p.tables e below (T22.setTop (mkF m 6 #[.val (.int p0), .val (.int p1), .val (.ref (u 1)), .unset, .unset] [(.int p1)])) _
        refine st42 _ ?_
        show Steps p.tables e below (T42.setTop (mkF m 9 #[.val (.int p0), .val (.int p1), .val (.ref (u 1)), .unset, .unset] [(.ref (u 0))])) _
        refine XS.astoreN X42.here hx rfl (hb hby at_9) rfl rfl (l' := #[.val (.int p0), .val (.int p1), .val (.ref (u 1)), .val (.ref (u 0)), .unset]) rfl ?_
        show Steps p.tables e below (T42.setTop (mkF m 10 #[.val (.int p0), .val (.int p1), .val (.ref (u 1)), .val (.ref (u 0)), .unset] [])) _
        refine XS.aloadN X42.here hx rfl (hb hby at_10) rfl rfl ?_
        exact kt)
      obtain ⟨vr45, _, ⟨T45, L45, k45, n45⟩, -, X45, ⟨Lc45, hQ45, l45, y45, z45⟩, st45⟩ := Jvm.LawKit.callS X42 hx (y := (⟨"com/example/resolvent/resolvent/core/ScopeCoversPinLaw", "rank", "(Lcom/example/resolvent/resolvent/core/Scope;)I"⟩ : MethodName)) hown (mvT hZ (hw _ (List.mem_of_getElem? (i := 9) rfl))) (mvT hZ (hw _ (List.mem_of_getElem? (i := 10) rfl))) (mvT hZ (hw _ (List.mem_of_getElem? (i := 2) rfl))) (mvT hZ (hw _ (List.mem_of_getElem? (i := 11) rfl))) (by decide) (backOf (W := 0) (rm2 l Z a0 hw [] u (u 1) B h0 n0 O ) hZ (hw _ (List.mem_of_getElem? (i := 11) rfl)) (hw _ (List.mem_of_getElem? (i := 2) rfl)) (by decide) (by decide)) (g := (mkF m 11 #[.val (.int p0), .val (.int p1), .val (.ref (u 1)), .val (.ref (u 0)), .unset] [(.ref (u 1))])) rfl (by rw [hml]; rfl) (argsL := [(.ref (u 1))]) (rest := []) (lenOf own_pd1 rfl) rfl (by show 2 * 0 + _ ≤ _; exact Nat.le_of_eq rfl) (hb hby at_11) (fun _ _ => ⟨rfl, e42, (by decide : 0 + 0 ≤ _), (by decide : 0 + 0 ≤ _)⟩)
      dsimp only [Pt.U, Pt.locs, Pt.cells, Pt.slots] at X45 l45 y45 z45 st45 hQ45
      subst l45 y45 z45
      obtain ⟨hv45, N45q, e45⟩ := hQ45
      have N45 := Fr.app N42 N45q
      obtain rfl : vr45 = some (.int (1 : Int32)) := hv45.trans (by unfold own_r2; rw [if_neg ((Fld.ne B.2.2.2.2.2 B.2.2.2.2.1 (by decide)) : ¬ ((u 1) = (u 0)))])
      have pre46 : ∀ t, Steps p.tables e below (T45.setTop (mkF m 15 #[.val (.int p0), .val (.int p1), .val (.ref (u 1)), .val (.ref (u 0)), .unset] [(.ref (u 0)), (.int (1 : Int32))])) t → Steps p.tables e below (s₁.setTop (entryFrame m #[(.int p0), (.int p1)] maxLocals)) t := fun t kt => pre44 t (by
        show Steps p.tables e below (T42.setTop (mkF m 11 #[.val (.int p0), .val (.int p1), .val (.ref (u 1)), .val (.ref (u 0)), .unset] [(.ref (u 1))])) _
        refine st45 _ ?_
        show Steps p.tables e below (T45.setTop (mkF m 14 #[.val (.int p0), .val (.int p1), .val (.ref (u 1)), .val (.ref (u 0)), .unset] [(.int (1 : Int32))])) _
        refine XS.aloadN X45.here hx rfl (hb hby at_14) rfl rfl ?_
        exact kt)
      obtain ⟨vr47, _, ⟨T47, L47, k47, n47⟩, -, X47, ⟨Lc47, hQ47, l47, y47, z47⟩, st47⟩ := Jvm.LawKit.callS X45 hx (y := (⟨"com/example/resolvent/resolvent/core/ScopeCoversPinLaw", "rank", "(Lcom/example/resolvent/resolvent/core/Scope;)I"⟩ : MethodName)) hown (mvT hZ (hw _ (List.mem_of_getElem? (i := 9) rfl))) (mvT hZ (hw _ (List.mem_of_getElem? (i := 10) rfl))) (mvT hZ (hw _ (List.mem_of_getElem? (i := 2) rfl))) (mvT hZ (hw _ (List.mem_of_getElem? (i := 11) rfl))) (by decide) (backOf (W := 1) (rm2 l Z a0 hw [] u (u 0) B h0 n0 O ) hZ (hw _ (List.mem_of_getElem? (i := 11) rfl)) (hw _ (List.mem_of_getElem? (i := 2) rfl)) (by decide) (by decide)) (g := (mkF m 15 #[.val (.int p0), .val (.int p1), .val (.ref (u 1)), .val (.ref (u 0)), .unset] [(.ref (u 0)), (.int (1 : Int32))])) rfl (by rw [hml]; rfl) (argsL := [(.ref (u 0))]) (rest := [(.int (1 : Int32))]) (lenOf own_pd1 rfl) rfl (by show 2 * 0 + _ ≤ _; exact Nat.le_of_eq rfl) (hb hby at_15) (fun _ _ => ⟨rfl, e45, (by decide : 0 + 0 ≤ _), (by decide : 0 + 0 ≤ _)⟩)
      dsimp only [Pt.U, Pt.locs, Pt.cells, Pt.slots] at X47 l47 y47 z47 st47 hQ47
      subst l47 y47 z47
      obtain ⟨hv47, N47q, e47⟩ := hQ47
      have N47 := Fr.app N45 N47q
      obtain rfl : vr47 = some (.int (0 : Int32)) := hv47.trans (by unfold own_r2; rw [if_pos (rfl : (u 0) = (u 0))])
      have pre48 : ∀ t, Steps p.tables e below (T47.setTop (mkF m 30 #[.val (.int p0), .val (.int p1), .val (.ref (u 1)), .val (.ref (u 0)), .val (.int (0 : Int32))] [(.ref (u 0)), (.ref (u 1))])) t → Steps p.tables e below (s₁.setTop (entryFrame m #[(.int p0), (.int p1)] maxLocals)) t := fun t kt => pre46 t (by
        show Steps p.tables e below (T45.setTop (mkF m 15 #[.val (.int p0), .val (.int p1), .val (.ref (u 1)), .val (.ref (u 0)), .unset] [(.ref (u 0)), (.int (1 : Int32))])) _
        refine st47 _ ?_
        show Steps p.tables e below (T47.setTop (mkF m 18 #[.val (.int p0), .val (.int p1), .val (.ref (u 1)), .val (.ref (u 0)), .unset] [(.int (0 : Int32)), (.int (1 : Int32))])) _
        refine XS.icmpYes X47.here hx rfl (pc0 := 18) (pc' := 25) rfl (hb hby at_18) rfl (tlt (by decide : (0 : Int32) < (1 : Int32))).2.2.1 (by decide) (by decide) ?_
        show Steps p.tables e below (T47.setTop (mkF m 25 #[.val (.int p0), .val (.int p1), .val (.ref (u 1)), .val (.ref (u 0)), .unset] [])) _
        refine XS.iconst X47.here hx rfl (hb hby at_25) ?_
        show Steps p.tables e below (T47.setTop (mkF m 26 #[.val (.int p0), .val (.int p1), .val (.ref (u 1)), .val (.ref (u 0)), .unset] [(.int (0 : Int32))])) _
        refine XS.istore X47.here hx rfl (hb hby at_26) rfl (l' := #[.val (.int p0), .val (.int p1), .val (.ref (u 1)), .val (.ref (u 0)), .val (.int (0 : Int32))]) rfl ?_
        show Steps p.tables e below (T47.setTop (mkF m 28 #[.val (.int p0), .val (.int p1), .val (.ref (u 1)), .val (.ref (u 0)), .val (.int (0 : Int32))] [])) _
        refine XS.aloadN X47.here hx rfl (hb hby at_28) rfl rfl ?_
        show Steps p.tables e below (T47.setTop (mkF m 29 #[.val (.int p0), .val (.int p1), .val (.ref (u 1)), .val (.ref (u 0)), .val (.int (0 : Int32))] [(.ref (u 1))])) _
        refine XS.aloadN X47.here hx rfl (hb hby at_29) rfl rfl ?_
        exact kt)
      obtain ⟨cq49, kq49, q49a, q49b, q49c⟩ := isOf hZ e47 (B.2.2.2.1.ext O.2)
      obtain ⟨vr49, _, ⟨T49, L49, k49, n49⟩, -, X49, ⟨Lc49, hQ49, l49, y49, z49⟩, st49⟩ := X47.virtualBack hx (y := (⟨"com/example/resolvent/resolvent/core/Scope", "covers", "(Lcom/example/resolvent/resolvent/core/Scope;)Z"⟩ : MethodName)) (z := (⟨"com/example/resolvent/resolvent/core/Scope", "covers", "(Lcom/example/resolvent/resolvent/core/Scope;)Z"⟩ : MethodName)) hown (mvT hZ (hw _ (List.mem_of_getElem? (i := 12) rfl))) (mvT hZ (hw _ (List.mem_of_getElem? (i := 13) rfl))) (notFace_of_selects (args := #[]) (mvT hZ (hw _ (List.mem_of_getElem? (i := 15) rfl)))) (mvT hZ (hw _ (List.mem_of_getElem? (i := 15) rfl))) (mvT hZ (hw _ (List.mem_of_getElem? (i := 14) rfl))) (by decide) (backOf (W := 0) (rm3 l Z a0 hw [] u (u 1) (u 0) B h0 n0 O ) hZ (hw _ (List.mem_of_getElem? (i := 16) rfl)) (hw _ (List.mem_of_getElem? (i := 5) rfl)) (by decide) (by decide)) q49a q49c (g := (mkF m 30 #[.val (.int p0), .val (.int p1), .val (.ref (u 1)), .val (.ref (u 0)), .val (.int (0 : Int32))] [(.ref (u 0)), (.ref (u 1))])) rfl (by rw [hml]; rfl) (Steps.refl _) (argsL := [(.ref (u 0))]) (rest := []) (lenOf own_pd2 rfl) rfl (by show 2 * 0 + _ ≤ _; exact Nat.le_of_eq rfl) (hb hby at_30) (fun _ _ => ⟨rfl, e47, (by decide : 0 + 0 ≤ _), (by decide : 0 + 0 ≤ _)⟩)
      dsimp only [Pt.U, Pt.locs, Pt.cells, Pt.slots] at X49 l49 y49 z49 st49 hQ49
      subst l49 y49 z49
      obtain ⟨hv49, N49q, e49⟩ := hQ49
      have N49 := Fr.app N47 N49q
      obtain rfl : vr49 = some (.int (0 : Int32)) := hv49.trans (by unfold own_r3; rw [if_neg ((Fld.ne B.2.2.2.2.2 B.2.2.2.2.1 (by decide)) : ¬ ((u 1) = (u 0))), if_neg ((Fld.ne B.2.2.2.2.1 B.2.2.2.2.2 (by decide)) : ¬ ((u 0) = (u 1)))])
      obtain ⟨fs, hr, hrun, hended, hW, hsame⟩ := X49.leave (v := some (.int (1 : Int32))) (fun h => by rw [Bd.returns] at h; cases h)
      refine ⟨_, _, pre48 _ ?_, hrun, hended, _, _, rfl, ?_, ⟨_, rfl⟩, hW, hsame.mono (by decide) (by decide)⟩
      · show Steps p.tables e below (T47.setTop (mkF m 30 #[.val (.int p0), .val (.int p1), .val (.ref (u 1)), .val (.ref (u 0)), .val (.int (0 : Int32))] [(.ref (u 0)), (.ref (u 1))])) _
        refine st49.trans ?_
        show Steps p.tables e below (T49.setTop (mkF m 33 #[.val (.int p0), .val (.int p1), .val (.ref (u 1)), .val (.ref (u 0)), .val (.int (0 : Int32))] [(.int (0 : Int32))])) _
        refine XS.iload X49.here hx rfl (hb hby at_33) rfl ?_
        show Steps p.tables e below (T49.setTop (mkF m 35 #[.val (.int p0), .val (.int p1), .val (.ref (u 1)), .val (.ref (u 0)), .val (.int (0 : Int32))] [(.int (0 : Int32)), (.int (0 : Int32))])) _
        refine XS.icmpNo X49.here hx rfl (hb hby at_35) rfl (teq (by decide : (0 : Int32) = (0 : Int32))).2 ?_
        show Steps p.tables e below (T49.setTop (mkF m 38 #[.val (.int p0), .val (.int p1), .val (.ref (u 1)), .val (.ref (u 0)), .val (.int (0 : Int32))] [])) _
        refine XS.iconst X49.here hx rfl (hb hby at_38) ?_
        show Steps p.tables e below (T49.setTop (mkF m 39 #[.val (.int p0), .val (.int p1), .val (.ref (u 1)), .val (.ref (u 0)), .val (.int (0 : Int32))] [(.int (1 : Int32))])) _
        refine XS.goto X49.here hx rfl (pc0 := 39) (pc' := 43) rfl (hb hby at_39) (by decide) (by decide) ?_
        show Steps p.tables e below (T49.setTop (mkF m 43 #[.val (.int p0), .val (.int p1), .val (.ref (u 1)), .val (.ref (u 0)), .val (.int (0 : Int32))] [(.int (1 : Int32))])) _
        exact retN X49 hx (t := .boolean) Bd.returns (by simp) (hb hby at_43) hr
      · show own_Q0 Z u p0 p1 h0 n0 _ T49.heap _
        rw [e49]
        exact ⟨rfl, N49, trivial⟩
    · --
      obtain rfl : vr42 = some (.ref (u 1)) := hv42.trans (by unfold own_r1; rw [if_neg hc43])
      have pre51 : ∀ t, Steps p.tables e below (T42.setTop (mkF m 11 #[.val (.int p0), .val (.int p1), .val (.ref (u 1)), .val (.ref (u 1)), .unset] [(.ref (u 1))])) t → Steps p.tables e below (s₁.setTop (entryFrame m #[(.int p0), (.int p1)] maxLocals)) t := fun t kt => pre41 t (by
        show Steps p.tables e below (T22.setTop (mkF m 6 #[.val (.int p0), .val (.int p1), .val (.ref (u 1)), .unset, .unset] [(.int p1)])) _
        refine st42 _ ?_
        show Steps p.tables e below (T42.setTop (mkF m 9 #[.val (.int p0), .val (.int p1), .val (.ref (u 1)), .unset, .unset] [(.ref (u 1))])) _
        refine XS.astoreN X42.here hx rfl (hb hby at_9) rfl rfl (l' := #[.val (.int p0), .val (.int p1), .val (.ref (u 1)), .val (.ref (u 1)), .unset]) rfl ?_
        show Steps p.tables e below (T42.setTop (mkF m 10 #[.val (.int p0), .val (.int p1), .val (.ref (u 1)), .val (.ref (u 1)), .unset] [])) _
        refine XS.aloadN X42.here hx rfl (hb hby at_10) rfl rfl ?_
        exact kt)
      obtain ⟨vr52, _, ⟨T52, L52, k52, n52⟩, -, X52, ⟨Lc52, hQ52, l52, y52, z52⟩, st52⟩ := Jvm.LawKit.callS X42 hx (y := (⟨"com/example/resolvent/resolvent/core/ScopeCoversPinLaw", "rank", "(Lcom/example/resolvent/resolvent/core/Scope;)I"⟩ : MethodName)) hown (mvT hZ (hw _ (List.mem_of_getElem? (i := 9) rfl))) (mvT hZ (hw _ (List.mem_of_getElem? (i := 10) rfl))) (mvT hZ (hw _ (List.mem_of_getElem? (i := 2) rfl))) (mvT hZ (hw _ (List.mem_of_getElem? (i := 11) rfl))) (by decide) (backOf (W := 0) (rm2 l Z a0 hw [] u (u 1) B h0 n0 O ) hZ (hw _ (List.mem_of_getElem? (i := 11) rfl)) (hw _ (List.mem_of_getElem? (i := 2) rfl)) (by decide) (by decide)) (g := (mkF m 11 #[.val (.int p0), .val (.int p1), .val (.ref (u 1)), .val (.ref (u 1)), .unset] [(.ref (u 1))])) rfl (by rw [hml]; rfl) (argsL := [(.ref (u 1))]) (rest := []) (lenOf own_pd1 rfl) rfl (by show 2 * 0 + _ ≤ _; exact Nat.le_of_eq rfl) (hb hby at_11) (fun _ _ => ⟨rfl, e42, (by decide : 0 + 0 ≤ _), (by decide : 0 + 0 ≤ _)⟩)
      dsimp only [Pt.U, Pt.locs, Pt.cells, Pt.slots] at X52 l52 y52 z52 st52 hQ52
      subst l52 y52 z52
      obtain ⟨hv52, N52q, e52⟩ := hQ52
      have N52 := Fr.app N42 N52q
      obtain rfl : vr52 = some (.int (1 : Int32)) := hv52.trans (by unfold own_r2; rw [if_neg ((Fld.ne B.2.2.2.2.2 B.2.2.2.2.1 (by decide)) : ¬ ((u 1) = (u 0)))])
      have pre53 : ∀ t, Steps p.tables e below (T52.setTop (mkF m 15 #[.val (.int p0), .val (.int p1), .val (.ref (u 1)), .val (.ref (u 1)), .unset] [(.ref (u 1)), (.int (1 : Int32))])) t → Steps p.tables e below (s₁.setTop (entryFrame m #[(.int p0), (.int p1)] maxLocals)) t := fun t kt => pre51 t (by
        show Steps p.tables e below (T42.setTop (mkF m 11 #[.val (.int p0), .val (.int p1), .val (.ref (u 1)), .val (.ref (u 1)), .unset] [(.ref (u 1))])) _
        refine st52 _ ?_
        show Steps p.tables e below (T52.setTop (mkF m 14 #[.val (.int p0), .val (.int p1), .val (.ref (u 1)), .val (.ref (u 1)), .unset] [(.int (1 : Int32))])) _
        refine XS.aloadN X52.here hx rfl (hb hby at_14) rfl rfl ?_
        exact kt)
      obtain ⟨vr54, _, ⟨T54, L54, k54, n54⟩, -, X54, ⟨Lc54, hQ54, l54, y54, z54⟩, st54⟩ := Jvm.LawKit.callS X52 hx (y := (⟨"com/example/resolvent/resolvent/core/ScopeCoversPinLaw", "rank", "(Lcom/example/resolvent/resolvent/core/Scope;)I"⟩ : MethodName)) hown (mvT hZ (hw _ (List.mem_of_getElem? (i := 9) rfl))) (mvT hZ (hw _ (List.mem_of_getElem? (i := 10) rfl))) (mvT hZ (hw _ (List.mem_of_getElem? (i := 2) rfl))) (mvT hZ (hw _ (List.mem_of_getElem? (i := 11) rfl))) (by decide) (backOf (W := 1) (rm2 l Z a0 hw [] u (u 1) B h0 n0 O ) hZ (hw _ (List.mem_of_getElem? (i := 11) rfl)) (hw _ (List.mem_of_getElem? (i := 2) rfl)) (by decide) (by decide)) (g := (mkF m 15 #[.val (.int p0), .val (.int p1), .val (.ref (u 1)), .val (.ref (u 1)), .unset] [(.ref (u 1)), (.int (1 : Int32))])) rfl (by rw [hml]; rfl) (argsL := [(.ref (u 1))]) (rest := [(.int (1 : Int32))]) (lenOf own_pd1 rfl) rfl (by show 2 * 0 + _ ≤ _; exact Nat.le_of_eq rfl) (hb hby at_15) (fun _ _ => ⟨rfl, e52, (by decide : 0 + 0 ≤ _), (by decide : 0 + 0 ≤ _)⟩)
      dsimp only [Pt.U, Pt.locs, Pt.cells, Pt.slots] at X54 l54 y54 z54 st54 hQ54
      subst l54 y54 z54
      obtain ⟨hv54, N54q, e54⟩ := hQ54
      have N54 := Fr.app N52 N54q
      obtain rfl : vr54 = some (.int (1 : Int32)) := hv54.trans (by unfold own_r2; rw [if_neg ((Fld.ne B.2.2.2.2.2 B.2.2.2.2.1 (by decide)) : ¬ ((u 1) = (u 0)))])
      have pre55 : ∀ t, Steps p.tables e below (T54.setTop (mkF m 30 #[.val (.int p0), .val (.int p1), .val (.ref (u 1)), .val (.ref (u 1)), .val (.int (1 : Int32))] [(.ref (u 1)), (.ref (u 1))])) t → Steps p.tables e below (s₁.setTop (entryFrame m #[(.int p0), (.int p1)] maxLocals)) t := fun t kt => pre53 t (by
        show Steps p.tables e below (T52.setTop (mkF m 15 #[.val (.int p0), .val (.int p1), .val (.ref (u 1)), .val (.ref (u 1)), .unset] [(.ref (u 1)), (.int (1 : Int32))])) _
        refine st54 _ ?_
        show Steps p.tables e below (T54.setTop (mkF m 18 #[.val (.int p0), .val (.int p1), .val (.ref (u 1)), .val (.ref (u 1)), .unset] [(.int (1 : Int32)), (.int (1 : Int32))])) _
        refine XS.icmpNo X54.here hx rfl (hb hby at_18) rfl (flt (by decide : ¬ ((1 : Int32) < (1 : Int32)))).2.2.1 ?_
        show Steps p.tables e below (T54.setTop (mkF m 21 #[.val (.int p0), .val (.int p1), .val (.ref (u 1)), .val (.ref (u 1)), .unset] [])) _
        refine XS.iconst X54.here hx rfl (hb hby at_21) ?_
        show Steps p.tables e below (T54.setTop (mkF m 22 #[.val (.int p0), .val (.int p1), .val (.ref (u 1)), .val (.ref (u 1)), .unset] [(.int (1 : Int32))])) _
        refine XS.goto X54.here hx rfl (pc0 := 22) (pc' := 26) rfl (hb hby at_22) (by decide) (by decide) ?_
        show Steps p.tables e below (T54.setTop (mkF m 26 #[.val (.int p0), .val (.int p1), .val (.ref (u 1)), .val (.ref (u 1)), .unset] [(.int (1 : Int32))])) _
        refine XS.istore X54.here hx rfl (hb hby at_26) rfl (l' := #[.val (.int p0), .val (.int p1), .val (.ref (u 1)), .val (.ref (u 1)), .val (.int (1 : Int32))]) rfl ?_
        show Steps p.tables e below (T54.setTop (mkF m 28 #[.val (.int p0), .val (.int p1), .val (.ref (u 1)), .val (.ref (u 1)), .val (.int (1 : Int32))] [])) _
        refine XS.aloadN X54.here hx rfl (hb hby at_28) rfl rfl ?_
        show Steps p.tables e below (T54.setTop (mkF m 29 #[.val (.int p0), .val (.int p1), .val (.ref (u 1)), .val (.ref (u 1)), .val (.int (1 : Int32))] [(.ref (u 1))])) _
        refine XS.aloadN X54.here hx rfl (hb hby at_29) rfl rfl ?_
        exact kt)
      obtain ⟨cq56, kq56, q56a, q56b, q56c⟩ := isOf hZ e54 (B.2.2.2.1.ext O.2)
      obtain ⟨vr56, _, ⟨T56, L56, k56, n56⟩, -, X56, ⟨Lc56, hQ56, l56, y56, z56⟩, st56⟩ := X54.virtualBack hx (y := (⟨"com/example/resolvent/resolvent/core/Scope", "covers", "(Lcom/example/resolvent/resolvent/core/Scope;)Z"⟩ : MethodName)) (z := (⟨"com/example/resolvent/resolvent/core/Scope", "covers", "(Lcom/example/resolvent/resolvent/core/Scope;)Z"⟩ : MethodName)) hown (mvT hZ (hw _ (List.mem_of_getElem? (i := 12) rfl))) (mvT hZ (hw _ (List.mem_of_getElem? (i := 13) rfl))) (notFace_of_selects (args := #[]) (mvT hZ (hw _ (List.mem_of_getElem? (i := 15) rfl)))) (mvT hZ (hw _ (List.mem_of_getElem? (i := 15) rfl))) (mvT hZ (hw _ (List.mem_of_getElem? (i := 14) rfl))) (by decide) (backOf (W := 0) (rm3 l Z a0 hw [] u (u 1) (u 1) B h0 n0 O ) hZ (hw _ (List.mem_of_getElem? (i := 16) rfl)) (hw _ (List.mem_of_getElem? (i := 5) rfl)) (by decide) (by decide)) q56a q56c (g := (mkF m 30 #[.val (.int p0), .val (.int p1), .val (.ref (u 1)), .val (.ref (u 1)), .val (.int (1 : Int32))] [(.ref (u 1)), (.ref (u 1))])) rfl (by rw [hml]; rfl) (Steps.refl _) (argsL := [(.ref (u 1))]) (rest := []) (lenOf own_pd2 rfl) rfl (by show 2 * 0 + _ ≤ _; exact Nat.le_of_eq rfl) (hb hby at_30) (fun _ _ => ⟨rfl, e54, (by decide : 0 + 0 ≤ _), (by decide : 0 + 0 ≤ _)⟩)
      dsimp only [Pt.U, Pt.locs, Pt.cells, Pt.slots] at X56 l56 y56 z56 st56 hQ56
      subst l56 y56 z56
      obtain ⟨hv56, N56q, e56⟩ := hQ56
      have N56 := Fr.app N54 N56q
      obtain rfl : vr56 = some (.int (1 : Int32)) := hv56.trans (by unfold own_r3; rw [if_neg ((Fld.ne B.2.2.2.2.2 B.2.2.2.2.1 (by decide)) : ¬ ((u 1) = (u 0))), if_pos (rfl : (u 1) = (u 1))])
      obtain ⟨fs, hr, hrun, hended, hW, hsame⟩ := X56.leave (v := some (.int (1 : Int32))) (fun h => by rw [Bd.returns] at h; cases h)
      refine ⟨_, _, pre55 _ ?_, hrun, hended, _, _, rfl, ?_, ⟨_, rfl⟩, hW, hsame.mono (by decide) (by decide)⟩
      · show Steps p.tables e below (T54.setTop (mkF m 30 #[.val (.int p0), .val (.int p1), .val (.ref (u 1)), .val (.ref (u 1)), .val (.int (1 : Int32))] [(.ref (u 1)), (.ref (u 1))])) _
        refine st56.trans ?_
        show Steps p.tables e below (T56.setTop (mkF m 33 #[.val (.int p0), .val (.int p1), .val (.ref (u 1)), .val (.ref (u 1)), .val (.int (1 : Int32))] [(.int (1 : Int32))])) _
        refine XS.iload X56.here hx rfl (hb hby at_33) rfl ?_
        show Steps p.tables e below (T56.setTop (mkF m 35 #[.val (.int p0), .val (.int p1), .val (.ref (u 1)), .val (.ref (u 1)), .val (.int (1 : Int32))] [(.int (1 : Int32)), (.int (1 : Int32))])) _
        refine XS.icmpNo X56.here hx rfl (hb hby at_35) rfl (teq (by decide : (1 : Int32) = (1 : Int32))).2 ?_
        show Steps p.tables e below (T56.setTop (mkF m 38 #[.val (.int p0), .val (.int p1), .val (.ref (u 1)), .val (.ref (u 1)), .val (.int (1 : Int32))] [])) _
        refine XS.iconst X56.here hx rfl (hb hby at_38) ?_
        show Steps p.tables e below (T56.setTop (mkF m 39 #[.val (.int p0), .val (.int p1), .val (.ref (u 1)), .val (.ref (u 1)), .val (.int (1 : Int32))] [(.int (1 : Int32))])) _
        refine XS.goto X56.here hx rfl (pc0 := 39) (pc' := 43) rfl (hb hby at_39) (by decide) (by decide) ?_
        show Steps p.tables e below (T56.setTop (mkF m 43 #[.val (.int p0), .val (.int p1), .val (.ref (u 1)), .val (.ref (u 1)), .val (.int (1 : Int32))] [(.int (1 : Int32))])) _
        exact retN X56 hx (t := .boolean) Bd.returns (by simp) (hb hby at_43) hr
      · show own_Q0 Z u p0 p1 h0 n0 _ T56.heap _
        rw [e56]
        exact ⟨rfl, N56, trivial⟩
set_option maxRecDepth 65536 in
set_option maxHeartbeats 40000000 in
theorem comes_1 {Post : Tables → Env → Array Value → State → Outcome → State → Prop} (hpost : ∀ tb e args s v u, (limb_1_1.after args s (.returned v) u = true ∧ limb_1_2.after args s (.returned v) u = true ∧ True) → FrameEnd s (.returned v) u (Jvm.fieldLocs frame_1_writes args s ++ Jvm.arrayLocs frame_1_arrays args s ++ Jvm.staticLocs frame_1_statics s) 0 0 → Post tb e args s (.returned v) u) :
    ArmFor flags0 classFile x code maxLocals ret World_1 tables_1 room_1 Calls_1 rest_1 Pre_1 Post := by
  intro l hfl _ _ p e ha hc hk s m args below hf hA hF happ hP
  obtain ⟨hcalls, hrest, hpre⟩ := hP
  obtain ⟨-, -, -, hnamed, -, -, -, hat⟩ := (Spec.applies_iff hf).mp happ
  obtain ⟨hg, hn⟩ := and_e (Cond.before_iff.mp (show (Jvm.Cond.and given_1 narrow_1).before args s = true from hpre))
  obtain ⟨g0, gr0⟩ := and_e hg
  obtain ⟨g1, gr1⟩ := and_e gr0
  have g2 := gr1
  obtain ⟨w0, w1, rfl⟩ : ∃ w0 w1 : Value, args = #[w0, w1] := by
    have hs : args.size = 2 := by simpa [Cond.value, given_1] using g0
    obtain ⟨L⟩ := args
    match L, hs with
    | [w0, w1], _ => exact ⟨w0, w1, rfl⟩
  have hw := fun d (hd : d ∈ tables_1) => atoms_spec (ws := Jvm.Cond.code x code maxLocals ret :: tables_1) hat d (List.mem_cons_of_mem _ hd)
  have hfit : Fit s := fun {y c} hc i hi => by
    obtain ⟨ha, rfl⟩ := Array.getElem?_eq_some_iff.mp hc
    have q := List.all_eq_true.mp ((Array.all_eq_true_iff_forall_mem.mp hF) _ (Array.getElem_mem ha)) i (List.mem_range.mpr hi)
    simpa [Array.getElem?_eq_getElem hi] using q
  obtain ⟨i0, ei0⟩ := is_v g1
  obtain rfl : w0 = (.int i0) := Option.some.inj ei0
  obtain ⟨i1, ei1⟩ := is_v g2
  obtain rfl : w1 = (.int i1) := Option.some.inj ei1
  obtain ⟨b0, hn0⟩ := and_e hn
  obtain ⟨b1, hn1⟩ := and_e hn0
  obtain ⟨b2, hn2⟩ := and_e hn1
  have b3 := hn2
  obtain ⟨x0, v0⟩ := exa_v b0
  obtain ⟨x1, v1⟩ := exa_v b1
  have B : own_Base s (fun i => ([x0, x1] : List Addr).getD i 0) := ⟨Sta.start v0 (Or.inr ⟨(hw _ (List.mem_of_getElem? (i := 5) rfl)), (hw _ (List.mem_of_getElem? (i := 6) rfl))⟩),
    Exa.start v0 b0,
    Sta.start v1 (Or.inr ⟨(hw _ (List.mem_of_getElem? (i := 5) rfl)), (hw _ (List.mem_of_getElem? (i := 8) rfl))⟩),
    Exa.start v1 b1,
    own_fld v0 b3 rfl,
    own_fld v1 b2 rfl⟩
  obtain ⟨n, o, h1, h2, h3, _, L, rfl, ⟨rfl, N, -⟩, hq⟩ := rm0 l s _ hw tables_1 (fun i => ([x0, x1] : List Addr).getD i 0) i0 i1 B s.heap s.heap.size (Old.start s)  p e ha hc hk s m _ below hf ((Spec.applies_iff_loose hf).mp happ).1 ⟨rfl, State.Warmed39.refl s, rfl⟩ trivial
  refine ⟨n, _, h1, h2, h3, hpost _ _ _ _ _ _ ⟨Cond.after_iff.mpr rfl, Cond.after_iff.mpr (eq_i res_at (Term.int_eval (1)) rfl), trivial⟩ ⟨hq.1, hq.2.1, (hq.2.2.sift fun y hy => Or.inr (N y hy)).mono (by decide) (by decide)⟩⟩
theorem main_1_1 : Claimed_1_1 := comes_1 fun _ _ _ _ _ _ h hF => ⟨h.1, hF⟩
theorem main_1_2 : Claimed_1_2 := comes_1 fun _ _ _ _ _ _ h hF => ⟨h.2.1, hF⟩
end Jvm.Pilot.@@N@@
namespace Jvm.Pilot.@@N@@
open Jvm Jvm.ClassFile Sem Op Lib Jvm.Free Jvm.Stand Jvm.Pilot.@@N@@.Jvm.D
/-! MADE BY PROGRAM (witnessworld.py) out of the Statement's table words and the real class files: 12 classes; the members and pool entries that the words name. The judged class is class 1, her method 3. -/
namespace start1
open Jvm.ClassFile
def u (s : String) : CpInfo := .utf8 (stringToUtf16 s)
/-- a pool by its gaps: so many unusable entries, then the entry; so many at the end -/
def gap : Nat → List CpInfo → List CpInfo
  | 0, r => r
  | n + 1, r => .unusable :: gap n r
def poolList (es : List (Nat × CpInfo)) (last : Nat) : List CpInfo := es.foldr (fun e r => gap e.1 (e.2 :: r)) (gap last [])
def pool (es : List (Nat × CpInfo)) (last : Nat) : Array CpInfo := ⟨poolList es last⟩
def fileOf (pool : Array CpInfo) (this : Nat) (attrs : Array Attribute := #[]) (ms : Array MethodInfo := #[]) (fl : Nat := 33) (sup : Nat := 0) (ifs : Array Nat := #[]) (fds : Array FieldInfo := #[]) : ClassFile where
  minorVersion := 0
  majorVersion := 65
  constantPool := pool
  accessFlags := fl
  thisClass := this
  superClass := sup
  interfaces := ifs
  fields := fds
  methods := ms
  attributes := attrs
def plain (name : String) (sup : Option ClassId) : Class where
  name := name
  kind := .ordinary
  loader := none
  accessFlags := 33
  super := sup
  interfaces := #[]
  cf := none
  fields := #[]
  methods := #[]
  instanceTypes := #[]
  staticTypes := #[]
  resolved := #[]
  callSites := []
  init := .initialized
  statics := none
  mirror := none

def pool0 : Array CpInfo := pool [(5, u "<init>"), (0, u "()V"), (1, .class_ 10), (1, u "java/lang/Object")] 113

def k0m0 : Method := { name := "<init>", desc := "()V", sig := { parameters := [], returnType := none }, accessFlags := 1, code := none }
/-- java/lang/Object -/
def k0 : Class := { plain "java/lang/Object" none with
  accessFlags := 33
  interfaces := #[]
  cf := some (fileOf pool0 8 #[] #[{ accessFlags := 1, nameIndex := 5, descriptorIndex := 6, attributes := #[] }] 33 0 #[] #[])
  fields := #[]
  methods := #[k0m0]
  instanceTypes := #[]
  staticTypes := #[]
  resolved := Array.replicate 124 none
  statics := none }

def pool1 : Array CpInfo := pool [(2, .class_ 4), (1, u "java/lang/Object"), (0, u "<init>"), (0, u "()V"), (0, .fieldref 8 9), (0, .class_ 10), (0, .nameAndType 11 12), (0, u "com/example/resolvent/resolvent/core/Scope"), (0, u "COMPILE"), (0, u "Lcom/example/resolvent/resolvent/core/Scope;"), (0, .fieldref 8 14), (0, .nameAndType 15 12), (0, u "RUNTIME"), (0, .methodref 17 18), (0, .class_ 19), (0, .nameAndType 20 21), (0, u "com/example/resolvent/resolvent/core/ScopeCoversPinLaw"), (0, u "pick"), (0, u "(I)Lcom/example/resolvent/resolvent/core/Scope;"), (0, .methodref 17 23), (0, .nameAndType 24 25), (0, u "rank"), (0, u "(Lcom/example/resolvent/resolvent/core/Scope;)I"), (0, .methodref 8 27), (0, .nameAndType 28 29), (0, u "covers"), (0, u "(Lcom/example/resolvent/resolvent/core/Scope;)Z"), (3, u "law"), (0, u "(II)Z")] 2

def k1m0 : Method := { name := "<init>", desc := "()V", sig := { parameters := [], returnType := none }, accessFlags := 2, code := none }
def k1c1 : Code := { maxStack := 2, maxLocals := 1, code := method_2_code, exceptionTable := #[], attributes := #[] }
def k1m1 : Method := { name := "pick", desc := "(I)Lcom/example/resolvent/resolvent/core/Scope;", sig := { parameters := [.int], returnType := some (.object "com/example/resolvent/resolvent/core/Scope") }, accessFlags := 10, code := some k1c1 }
def k1c2 : Code := { maxStack := 2, maxLocals := 1, code := method_3_code, exceptionTable := #[], attributes := #[] }
def k1m2 : Method := { name := "rank", desc := "(Lcom/example/resolvent/resolvent/core/Scope;)I", sig := { parameters := [(.object "com/example/resolvent/resolvent/core/Scope")], returnType := some .int }, accessFlags := 10, code := some k1c2 }
def k1c3 : Code := { maxStack := 2, maxLocals := 5, code := code, exceptionTable := #[], attributes := #[] }
def k1m3 : Method := { name := "law", desc := "(II)Z", sig := { parameters := [.int, .int], returnType := some .boolean }, accessFlags := 9, code := some k1c3 }
/-- com/example/resolvent/resolvent/core/ScopeCoversPinLaw -/
def k1 : Class := { plain "com/example/resolvent/resolvent/core/ScopeCoversPinLaw" (some 0) with
  accessFlags := 49
  interfaces := #[]
  cf := some (fileOf pool1 17 #[] #[{ accessFlags := 2, nameIndex := 5, descriptorIndex := 6, attributes := #[] }, { accessFlags := 10, nameIndex := 20, descriptorIndex := 21, attributes := #[] }, { accessFlags := 10, nameIndex := 24, descriptorIndex := 25, attributes := #[] }, { accessFlags := 9, nameIndex := 33, descriptorIndex := 34, attributes := #[] }] 49 2 #[] #[])
  fields := #[]
  methods := #[k1m0, k1m1, k1m2, k1m3]
  instanceTypes := #[]
  staticTypes := #[]
  resolved := Array.replicate 37 none
  statics := none }

def pool2 : Array CpInfo := pool [(1, .class_ 2), (0, u "java/lang/constant/Constable"), (0, .class_ 4), (0, u "java/lang/Object")] 6

/-- java/lang/constant/Constable -/
def k2 : Class := { plain "java/lang/constant/Constable" (some 0) with
  accessFlags := 1537
  interfaces := #[]
  cf := some (fileOf pool2 1 #[] #[] 1537 3 #[] #[])
  fields := #[]
  methods := #[]
  instanceTypes := #[]
  staticTypes := #[]
  resolved := Array.replicate 11 none
  statics := none }

def pool3 : Array CpInfo := pool [(1, .class_ 2), (0, u "java/lang/Comparable"), (0, .class_ 4), (0, u "java/lang/Object")] 7

/-- java/lang/Comparable -/
def k3 : Class := { plain "java/lang/Comparable" (some 0) with
  accessFlags := 1537
  interfaces := #[]
  cf := some (fileOf pool3 1 #[] #[] 1537 3 #[] #[])
  fields := #[]
  methods := #[]
  instanceTypes := #[]
  staticTypes := #[]
  resolved := Array.replicate 12 none
  statics := none }

def pool4 : Array CpInfo := pool [(1, .class_ 2), (0, u "java/io/Serializable"), (0, .class_ 4), (0, u "java/lang/Object")] 2

/-- java/io/Serializable -/
def k4 : Class := { plain "java/io/Serializable" (some 0) with
  accessFlags := 1537
  interfaces := #[]
  cf := some (fileOf pool4 1 #[] #[] 1537 3 #[] #[])
  fields := #[]
  methods := #[]
  instanceTypes := #[]
  staticTypes := #[]
  resolved := Array.replicate 7 none
  statics := none }

def pool5 : Array CpInfo := pool [(2, .class_ 4), (1, u "java/lang/Enum"), (0, u "name"), (0, u "Ljava/lang/String;"), (2, u "ordinal"), (0, u "I"), (1, .class_ 14), (1, u "java/lang/Object"), (4, u "hash"), (86, .class_ 108), (1, u "java/lang/Enum$EnumDesc"), (2, .class_ 112), (0, u "java/lang/constant/Constable"), (0, .class_ 114), (0, u "java/lang/Comparable"), (0, .class_ 116), (0, u "java/io/Serializable")] 87

/-- java/lang/Enum -/
def k5 : Class := { plain "java/lang/Enum" (some 0) with
  accessFlags := 1057
  interfaces := #[2, 3, 4]
  cf := some (fileOf pool5 2 #[.nestMembers #[106]] #[] 1057 12 #[111, 113, 115] #[{ accessFlags := 18, nameIndex := 5, descriptorIndex := 6, attributes := #[] }, { accessFlags := 18, nameIndex := 9, descriptorIndex := 10, attributes := #[] }, { accessFlags := 2, nameIndex := 19, descriptorIndex := 10, attributes := #[] }])
  fields := #[{ name := "name", type := (.object "java/lang/String"), accessFlags := 18, slot := 0, constantValue := 0 }, { name := "ordinal", type := .int, accessFlags := 18, slot := 1, constantValue := 0 }, { name := "hash", type := .int, accessFlags := 2, slot := 2, constantValue := 0 }]
  methods := #[]
  instanceTypes := #[(.object "java/lang/String"), .int, .int]
  staticTypes := #[]
  resolved := Array.replicate 204 none
  statics := none }

def pool6 : Array CpInfo := pool [(1, .class_ 2), (0, u "com/example/resolvent/resolvent/core/Scope"), (0, .fieldref 1 4), (0, .nameAndType 5 6), (0, u "COMPILE"), (0, u "Lcom/example/resolvent/resolvent/core/Scope;"), (0, .fieldref 1 8), (0, .nameAndType 9 6), (0, u "RUNTIME"), (2, u "$VALUES"), (0, u "[Lcom/example/resolvent/resolvent/core/Scope;"), (6, .class_ 22), (1, u "java/lang/Enum"), (40, u "covers"), (0, u "(Lcom/example/resolvent/resolvent/core/Scope;)Z")] 36

def k6c0 : Code := { maxStack := 2, maxLocals := 2, code := prog_23_method_6_code, exceptionTable := #[], attributes := #[] }
def k6m0 : Method := { name := "covers", desc := "(Lcom/example/resolvent/resolvent/core/Scope;)Z", sig := { parameters := [(.object "com/example/resolvent/resolvent/core/Scope")], returnType := some .boolean }, accessFlags := 0, code := some k6c0 }
/-- com/example/resolvent/resolvent/core/Scope -/
def k6 : Class := { plain "com/example/resolvent/resolvent/core/Scope" (some 5) with
  accessFlags := 16433
  interfaces := #[]
  cf := some (fileOf pool6 1 #[] #[{ accessFlags := 0, nameIndex := 63, descriptorIndex := 64, attributes := #[] }] 16433 20 #[] #[{ accessFlags := 16409, nameIndex := 5, descriptorIndex := 6, attributes := #[] }, { accessFlags := 16409, nameIndex := 9, descriptorIndex := 6, attributes := #[] }, { accessFlags := 4122, nameIndex := 12, descriptorIndex := 13, attributes := #[] }])
  fields := #[{ name := "COMPILE", type := (.object "com/example/resolvent/resolvent/core/Scope"), accessFlags := 16409, slot := 0, constantValue := 0 }, { name := "RUNTIME", type := (.object "com/example/resolvent/resolvent/core/Scope"), accessFlags := 16409, slot := 1, constantValue := 0 }, { name := "$VALUES", type := (.array (.object "com/example/resolvent/resolvent/core/Scope")), accessFlags := 4122, slot := 2, constantValue := 0 }]
  methods := #[k6m0]
  instanceTypes := #[(.object "java/lang/String"), .int, .int]
  staticTypes := #[(.object "com/example/resolvent/resolvent/core/Scope"), (.object "com/example/resolvent/resolvent/core/Scope"), (.array (.object "com/example/resolvent/resolvent/core/Scope"))]
  resolved := Array.replicate 101 none
  statics := some 0 }

def pool7 : Array CpInfo := pool [(1, u "java/lang/Cloneable"), (0, .class_ 1), (0, u "java/lang/Object"), (0, .class_ 3)] 3

/-- java/lang/Cloneable -/
def k7 : Class := { plain "java/lang/Cloneable" (some 0) with
  accessFlags := 1537
  interfaces := #[]
  cf := some (fileOf pool7 2 #[] #[] 1537 4 #[] #[])
  fields := #[]
  methods := #[]
  instanceTypes := #[]
  staticTypes := #[]
  resolved := Array.replicate 8 none
  statics := none }

/-- the primitive byte -/
def k8 : Class := { plain "byte" none with kind := .primitive 'B', accessFlags := 0x411 }
/-- [B -/
def k9 : Class := { plain "[B" (some 0) with kind := .array 8 .byte, interfaces := #[7, 4], accessFlags := 1041 }

/-- the primitive int -/
def k10 : Class := { plain "int" none with kind := .primitive 'I', accessFlags := 0x411 }
/-- [I -/
def k11 : Class := { plain "[I" (some 0) with kind := .array 10 .int, interfaces := #[7, 4], accessFlags := 1041 }

def heap : Heap := #[{ cls := 6, slots := #[.ref 1, .ref 2, .null], vm := .statics 6 },
  { cls := 6, slots := #[.null, .int (0), .int 0], vm := .none },
  { cls := 6, slots := #[.null, .int (1), .int 0], vm := .none }]
def classes : Array Class := #[k0, k1, k2, k3, k4, k5, k6, k7, k8, k9, k10, k11]
def interned : List (Array UInt16 × Addr) := []
def slotsUsed : Nat := 9
def theMethod : MethodId := ⟨1, 3⟩
def args0 : Array Value := #[.int 5, .int 6]
def aboutOver (below : List Frame) : State where
  vm := { classes := classes, interned := interned.toArray }
  heap := heap
  slotsUsed := slotsUsed
  threads := #[{ frames := .invoking theMethod args0 :: below }]
def below0 : List Frame := [.native { method := ⟨0, 0⟩, args := #[] }]
def about1 : State := aboutOver below0
def p0 : Program := .bare "" "" ""
def e0 : Env := launch0.env 0 0 0
theorem w_frames : about1.frames = Frame.invoking theMethod args0 :: below0 := rfl
set_option maxRecDepth 65536 in
theorem w_args : argsFit about1.vm theMethod args0 = true := by decide +kernel
set_option maxRecDepth 65536 in
theorem w_heap : heapFits about1 = true := by decide +kernel
set_option maxRecDepth 65536 in
theorem w_runnable : about1.curStatus? = some .runnable := by decide +kernel
set_option maxRecDepth 65536 in
theorem w_alone : about1.alone = true := by decide +kernel
set_option maxRecDepth 65536 in
theorem w_named : about1.methodNamed? x = some theMethod := by decide +kernel
set_option maxRecDepth 65536 in
theorem w_hears : about1.hears theMethod below0 = true := by decide +kernel
set_option maxRecDepth 65536 in
theorem w_ripe : about1.ripe theMethod args0 below0 = true := by decide +kernel
theorem w_running : about1.status = .running := rfl
set_option maxRecDepth 65536 in
theorem w_room : about1.hasRoom e0.platform room_1 = true :=
  launch0.hasRoom_least _ room_1 (by decide +kernel) (by decide +kernel) (by decide +kernel) (by decide +kernel) (by decide +kernel) (by decide +kernel)
theorem allAtoms_all (ts : List Jvm.Cond) (a : Array Jvm.Value) (st : Jvm.State) : (allAtoms ts).before a st = ts.all (fun c => c.before a st) := by
  induction ts with
  | nil => rfl
  | cons c t ih =>
    show (Jvm.Cond.and c (allAtoms t)).before a st = _
    rw [Jvm.Cond.before_and, ih, List.all_cons]
def words1 : List Jvm.Cond := Jvm.Cond.code x code maxLocals ret :: tables_1
/-- a 'code' word, met by the world's own term for the bytes: nothing is compared byte by byte -/
theorem code_word {y : MethodName} {bytes : ByteArray} {mx : Nat} {rt : Option FieldType} {a : Array Value} {s : State} {m : MethodId} {meth : Method} {c : Code} (h1 : s.methodNamed? y = some m) (h2 : s.vm.method? m = some meth) (h3 : meth.code = some c) (h4 : c.code = bytes)
    (h5 : (c.maxLocals == mx && c.exceptionTable.isEmpty && decide (c.maxStack ≤ mostOperands) && decide (meth.sig.returnType = rt) && !meth.locks && decide (parseMethodDescriptor y.desc = some meth.sig)) = true) : (Jvm.Cond.code y bytes mx rt).before a s = true := by
  simp only [Bool.and_eq_true, beq_iff_eq, Bool.not_eq_true', decide_eq_true_eq] at h5
  obtain ⟨⟨⟨⟨⟨g1, g2⟩, g3⟩, g4⟩, g5⟩, g6⟩ := h5
  simp [Cond.before, Cond.holds, Cond.value, h1, h2, h3, h4, g1, g2, g3, g4, g5, g6]
def isCode : Jvm.Cond → Bool
  | .code _ _ _ _ => true
  | _ => false
theorem all_split {L : List Jvm.Cond} {P : Jvm.Cond → Bool} (h1 : L.all (fun c => isCode c || P c) = true) (h2 : ∀ c ∈ L.filter isCode, P c = true) : L.all P = true := by
  refine List.all_eq_true.mpr fun c hc => ?_
  have h := List.all_eq_true.mp h1 c hc
  rcases Bool.eq_false_or_eq_true (isCode c) with hi | hi
  · exact h2 c (List.mem_filter.mpr ⟨hc, hi⟩)
  · simpa [hi] using h
set_option maxRecDepth 65536 in
theorem w_c0 : (Jvm.Cond.code x code maxLocals ret).before args0 about1 = true := code_word (m := ⟨1, 3⟩) (meth := k1m3) (c := k1c3) (by decide +kernel) rfl rfl rfl (by decide +kernel)
set_option maxRecDepth 65536 in
theorem w_c1 : (Jvm.Cond.code ({ cls := "com/example/resolvent/resolvent/core/ScopeCoversPinLaw", name := "pick", desc := "(I)Lcom/example/resolvent/resolvent/core/Scope;" } : Jvm.MethodName) method_2_code (1 : Nat) (Option.some (Jvm.ClassFile.FieldType.object "com/example/resolvent/resolvent/core/Scope"))).before args0 about1 = true := code_word (m := ⟨1, 1⟩) (meth := k1m1) (c := k1c1) (by decide +kernel) rfl rfl rfl (by decide +kernel)
set_option maxRecDepth 65536 in
theorem w_c2 : (Jvm.Cond.code ({ cls := "com/example/resolvent/resolvent/core/ScopeCoversPinLaw", name := "rank", desc := "(Lcom/example/resolvent/resolvent/core/Scope;)I" } : Jvm.MethodName) method_3_code (1 : Nat) (Option.some Jvm.ClassFile.FieldType.int)).before args0 about1 = true := code_word (m := ⟨1, 2⟩) (meth := k1m2) (c := k1c2) (by decide +kernel) rfl rfl rfl (by decide +kernel)
set_option maxRecDepth 65536 in
theorem w_c3 : (Jvm.Cond.code ({ cls := "com/example/resolvent/resolvent/core/Scope", name := "covers", desc := "(Lcom/example/resolvent/resolvent/core/Scope;)Z" } : Jvm.MethodName) prog_23_method_6_code (2 : Nat) (Option.some Jvm.ClassFile.FieldType.boolean)).before args0 about1 = true := code_word (m := ⟨6, 0⟩) (meth := k6m0) (c := k6c0) (by decide +kernel) rfl rfl rfl (by decide +kernel)
def codes1 : List Jvm.Cond := [Jvm.Cond.code x code maxLocals ret, Jvm.Cond.code ({ cls := "com/example/resolvent/resolvent/core/ScopeCoversPinLaw", name := "pick", desc := "(I)Lcom/example/resolvent/resolvent/core/Scope;" } : Jvm.MethodName) method_2_code (1 : Nat) (Option.some (Jvm.ClassFile.FieldType.object "com/example/resolvent/resolvent/core/Scope")), Jvm.Cond.code ({ cls := "com/example/resolvent/resolvent/core/ScopeCoversPinLaw", name := "rank", desc := "(Lcom/example/resolvent/resolvent/core/Scope;)I" } : Jvm.MethodName) method_3_code (1 : Nat) (Option.some Jvm.ClassFile.FieldType.int), Jvm.Cond.code ({ cls := "com/example/resolvent/resolvent/core/Scope", name := "covers", desc := "(Lcom/example/resolvent/resolvent/core/Scope;)Z" } : Jvm.MethodName) prog_23_method_6_code (2 : Nat) (Option.some Jvm.ClassFile.FieldType.boolean)]
set_option maxRecDepth 65536 in
theorem codes_eq : words1.filter isCode = codes1 := rfl
theorem w_codes : ∀ c ∈ words1.filter isCode, c.before args0 about1 = true := by
  rw [codes_eq]
  intro c hc
  simp only [codes1, List.mem_cons, List.not_mem_nil, or_false] at hc
  rcases hc with rfl | rfl | rfl | rfl
  · exact w_c0
  · exact w_c1
  · exact w_c2
  · exact w_c3
set_option maxRecDepth 65536 in
theorem w_t1 : words1.all (fun c => isCode c || c.before args0 about1) = true := by decide +kernel
theorem w_tables : (allAtoms (Jvm.Cond.code x code maxLocals ret :: tables_1)).before args0 about1 = true := by
  rw [allAtoms_all]
  show words1.all (fun c => c.before args0 about1) = true
  refine all_split ?_ w_codes
  rw [w_t1]
set_option maxRecDepth 65536 in
theorem w_case : (Jvm.Cond.and given_1 narrow_1).before args0 about1 = true := by decide +kernel
theorem w_applies : (headSpec (Jvm.Cond.code x code maxLocals ret :: tables_1) room_1).applies x e0.platform about1 = true :=
  (Spec.applies_iff w_frames).mpr ⟨w_running, w_runnable, w_alone, w_named, w_hears, w_ripe, w_room, w_tables⟩
theorem atStart : AtStart classFile x code maxLocals ret World_1 tables_1 room_1 Calls_1 rest_1 Pre_1 launch0 p0 e0 about1 theMethod args0 below0 :=
  ⟨lists_1, trivial, launch0.admits_env _ _ _, launch0.least_env, fairChoices_fair.cas, fairChoices_fair.clock, w_frames, w_args, w_heap, w_applies, trivial, trivial, w_case⟩
end start1
theorem witness_1 : WitnessClaimed_1 := ⟨start1.p0, start1.e0, start1.about1, start1.theMethod, start1.args0, start1.below0, start1.atStart⟩
end Jvm.Pilot.@@N@@
