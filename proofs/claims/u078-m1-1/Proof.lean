import JvmDerived
import JvmDerived.Pilot.@@N@@Statement
import JvmDerived.Pilot.@@N@@Code
set_option linter.unusedVariables false
set_option linter.unusedSimpArgs false
namespace Jvm.RoadKit
open Sem ClassFile Op Lib Jvm.Stand Jvm.Free Jvm.LawKit
section New
variable {p : Program} {l : Launch} {e : Env} {R : Room} {s : State} {m : MethodId} {args : Array Value} {below : List Frame} {meth : Method} {c : Code} {T : State} {locs : List Loc} {cells slots : Nat}
theorem retI (X : Stand p l e R s m args below meth c T locs cells slots) (hx : p.tables.exec = Jvm.exec) {pc : Nat} {Ls : Array Slot} {z : Int32} {rest : List Value} (hret : meth.sig.returnType = some .int) (hd : decode c.code pc = .ok (.ireturn, 1)) {fs : List Frame}
    (hl : ∀ (f : JFrame) (acts : List Action), f.method = m → f.locked = none → f.entered = [] → (doReturn e (T.setTop f) acts (some (.int z))).1 = T.setFrames fs) : Steps p.tables e below (T.setTop (mkF m pc Ls (.int z :: rest))) (T.setFrames fs) :=
  retOut X hx hret rfl (Or.inl ⟨rfl, Or.inl rfl, z, rfl⟩) hd hl
end New
end Jvm.RoadKit
namespace Jvm.Pilot.@@N@@
open Jvm Jvm.ClassFile Sem Op Lib Jvm.Free Jvm.Stand Jvm.LawKit Jvm.RoadKit Bundle Jvm.Pilot.@@N@@.Jvm.D
/-! small laws of this text's own -/
theorem own_eqv {args : Array Value} {first s : State} {o : Option Outcome} {idx : List Nat} {a b : Term} {v : Value} (h : (Jvm.Cond.eq a b).value args first o s idx = some true) (hb : b.eval args first o idx s = some v) : a.eval args first o idx s = some v := by
  cases ha : a.eval args first o idx s with
  | none => simp [Cond.value, ha] at h
  | some x => cases x <;> cases v <;> simp_all [Cond.value]
theorem own_fld {args : Array Value} {s : State} {t b : Term} {x : Addr} {C n d : String} {v : Value} (ht : t.eval args s none [] s = some (.ref x)) (h : (Jvm.Cond.eq (.field t C n d) b).value args s none s [] = some true) (hb : b.eval args s none [] s = some v) : Fld s s.heap x C n d v :=
  Fld.start ((fld_at ht).symm.trans (own_eqv h hb))
theorem own_len {args : Array Value} {s : State} {t : Term} {x : Addr} {c : Cell} {n : Int32} (ht : t.eval args s none [] s = some (.ref x)) (hc : s.heap[x]? = some c) (h : (Jvm.Cond.eq (.length t) (.int n)).value args s none s [] = some true) : c.slots.size < 2 ^ 31 ∧ c.slots.size.toInt32 = n := by
  have e := own_eqv h (v := .int n) rfl
  simp only [Term.eval, ht, Option.bind_eq_bind, Option.bind_some] at e
  cases hq : s.arrayAt? x with
  | none => simp [hq] at e
  | some c' =>
    have h1 := (State.arrayAt?_spec hq).1
    cases hc.symm.trans h1
    simp only [hq, Option.bind_some] at e
    split at e
    · rename_i hl; exact ⟨hl, by simpa using e⟩
    · cases e
theorem own_elem {args : Array Value} {s : State} {t b : Term} {x : Addr} {c : Cell} {j : Int32} {v : Value} (ht : t.eval args s none [] s = some (.ref x)) (hc : s.heap[x]? = some c) (h : (Jvm.Cond.eq (.elem t (.int j)) b).value args s none s [] = some true) (hb : b.eval args s none [] s = some v) : c.slots[j.toNatClampNeg]? = some v :=
  (elem_in (own_eqv h hb) ht rfl hc).2
theorem own_selpriv {y : MethodName} {s : State} {args : Array Value} {n : Nat} (hy : y.cls ≠ "java/lang/invoke/MethodHandle" ∧ y.cls ≠ "java/lang/invoke/VarHandle") (hins : (Jvm.Cond.instantiable y.cls n).before args s = true) (hpriv : (Jvm.Cond.privateMethod y).before args s = true) (hinst : (Jvm.Cond.instanceMethod y).before args s = true) : (Jvm.Cond.selects y.cls y y).before args s = true := by
  obtain ⟨c, k, hc, hk, -, hniab, -, -⟩ := Cond.instantiable_spec hins
  exact Stand.selects_self_of_private hc hk (Bool.or_eq_false_iff.mp hniab).1 (Cond.privateMethod_at hpriv) hinst hy
theorem own_ext {h0 h : Heap} (K : Keep h0 h []) : Ext h0 h := ⟨K.1, fun x c q => K.2.1 x c q (fun z => nomatch z)⟩
theorem own_cat1 {v : Value} (h : v.isRef = true) : v.category = 1 := by cases v <;> first | rfl | simp [Value.isRef] at h
theorem own_narref {t : FieldType} {v : Value} (h : t.isReference = true) (hv : v.isRef = true) : narrow t v = v := by
  cases v <;> first | (simp [Value.isRef] at hv; done) | (cases t <;> first | rfl | simp [FieldType.isReference] at h)
theorem own_store1 {l : Array Slot} {i : Nat} {v : Value} {o : Slot} (hold : l[i]? = some o) (ho : o = .unset ∨ ∃ w, o = .val w ∧ w.category = 1) (hv : v.category = 1) : storeLocals l i v = some (l.setIfInBounds i (.val v)) := XS.store1 hold ho hv
def own_Base (Z : State) (u : Nat → Addr) : Prop :=
  (Sta Z Z.heap "com/example/resolvent/resolvent/core/Scope" "COMPILE" "Lcom/example/resolvent/resolvent/core/Scope;" (.ref (u 0))) ∧
  (Exa Z Z.heap (u 0) "com/example/resolvent/resolvent/core/Scope") ∧
  (Sta Z Z.heap "com/example/resolvent/resolvent/core/Scope" "RUNTIME" "Lcom/example/resolvent/resolvent/core/Scope;" (.ref (u 1))) ∧
  (Exa Z Z.heap (u 1) "com/example/resolvent/resolvent/core/Scope") ∧
  (Fld Z Z.heap (u 0) "java/lang/Enum" "ordinal" "I" (.int (0 : Int32))) ∧
  (Fld Z Z.heap (u 1) "java/lang/Enum" "ordinal" "I" (.int (1 : Int32)))
theorem own_pd0 : parseMethodDescriptor "(Lcom/example/resolvent/resolvent/core/Scope;)Lcom/example/resolvent/resolvent/core/Scope;" = some ⟨[(.object "com/example/resolvent/resolvent/core/Scope")], some (.object "com/example/resolvent/resolvent/core/Scope")⟩ := by decide +kernel
theorem d1_0 : decode prog_23_method_8_code 0 = .ok (.aload_n 0, 1) := by decide +kernel
theorem d1_1 : decode prog_23_method_8_code 1 = .ok (.getstatic 3, 3) := by decide +kernel
theorem d1_4 : decode prog_23_method_8_code 4 = .ok (.if_acmp .ne 16, 3) := by decide +kernel
theorem d1_7 : decode prog_23_method_8_code 7 = .ok (.aload_n 1, 1) := by decide +kernel
theorem d1_8 : decode prog_23_method_8_code 8 = .ok (.getstatic 3, 3) := by decide +kernel
theorem d1_11 : decode prog_23_method_8_code 11 = .ok (.if_acmp .ne 9, 3) := by decide +kernel
theorem d1_14 : decode prog_23_method_8_code 14 = .ok (.getstatic 3, 3) := by decide +kernel
theorem d1_17 : decode prog_23_method_8_code 17 = .ok (.goto 6, 3) := by decide +kernel
theorem d1_20 : decode prog_23_method_8_code 20 = .ok (.getstatic 7, 3) := by decide +kernel
theorem d1_23 : decode prog_23_method_8_code 23 = .ok (.areturn, 1) := by decide +kernel
theorem own_pn_1 : plainName "com/example/resolvent/resolvent/core/Scope" = true := by first | (simp [plainName, overriddenIn]; done) | decide +kernel
theorem own_ef_1 (m : MethodId) (x0 : Addr) (x1 : Addr) : entryFrame m #[(.ref x0), (.ref x1)] 2 = mkF m 0 #[.val (.ref x0), .val (.ref x1)] [] := by first | (simp [entryFrame, mkF, argsToLocals, Value.category]; done) | rfl
def own_r1 (u : Nat → Addr) (r0 : Addr) (r1 : Addr) : Addr :=
  if r0 = (u 0) then
    if r1 = (u 0) then
      (u 0)
    else
      (u 1)
  else
    (u 1)
def own_Q1 (Z : State) (u : Nat → Addr) (r0 : Addr) (r1 : Addr) (h0 : Heap) (n0 : Nat) (v : Option Value) (h : Heap) (L : List Loc) : Prop := v = some (.ref (own_r1 u r0 r1)) ∧ Fr n0 L ∧ h = h0
set_option maxRecDepth 65536 in
set_option maxHeartbeats 40000000 in
theorem rm1 (l : Launch) (Z : State) (a0 : Array Value) (hw : ∀ d ∈ tables_1, d.before a0 Z = true) (ws : List Jvm.Cond) (u : Nat → Addr) (r0 : Addr) (r1 : Addr) (B : own_Base Z u) (h0 : Heap) (n0 : Nat) (O : Old Z n0 h0) :
    MetFree l (⟨"com/example/resolvent/resolvent/core/Scope", "through", "(Lcom/example/resolvent/resolvent/core/Scope;)Lcom/example/resolvent/resolvent/core/Scope;"⟩ : MethodName) (head1 (Jvm.Cond.code (⟨"com/example/resolvent/resolvent/core/Scope", "through", "(Lcom/example/resolvent/resolvent/core/Scope;)Lcom/example/resolvent/resolvent/core/Scope;"⟩ : MethodName) prog_23_method_8_code 2 (some (.object "com/example/resolvent/resolvent/core/Scope")) :: ws) ({ frames := 0, cells := 0, slots := 0, locals := 0 } : Room)) (fun a U => a = #[(.ref r0), (.ref r1)] ∧ Z.Warmed39 U.vm ∧ U.heap = h0) (fun _ _ _ _ _ => True) (fun _ U o U' => ∃ v L, o = .returned v ∧ own_Q1 Z u r0 r1 h0 n0 v U'.heap L ∧ FrameEnd U o U' L ({ frames := 0, cells := 0, slots := 0, locals := 0 } : Room).cells ({ frames := 0, cells := 0, slots := 0, locals := 0 } : Room).slots) := by
  refine MetFree.of_bodySF (plainFor_of_name own_pn_1) hisR ?_
  intro p e s m args below meth c s₁ Bd hml0 hP hK
  obtain ⟨rfl, hZ, hh⟩ := hP
  have hx := Bd.exec
  have hby := Bd.bytes
  have hml : c.maxLocals = 2 := hml0
  have hown : s.vm.findClass "com/example/resolvent/resolvent/core/Scope" = some m.cls := findClass_of_methodNamed Bd.named
  have hnm := (name_of_methodNamed Bd.named Bd.method).1
  have X0 : Stand p l e ({ frames := 0, cells := 0, slots := 0, locals := 0 } : Room) s m #[(.ref r0), (.ref r1)] below meth c s₁ [] 0 0 := Stand.of_body Bd
  have e0 : s₁.heap = h0 := by rw [← hh, Bd.state]; rfl
  have N0 := Fr.nil n0
  have K0 := Keep.refl h0 []
  have Z0 : n0 ≤ h0.size := O.1 ▸ O.2.1
  have pre0 : ∀ t, Steps p.tables e below (s₁.setTop (mkF m 0 #[.val (.ref r0), .val (.ref r1)] [])) t → Steps p.tables e below (s₁.setTop (entryFrame m #[(.ref r0), (.ref r1)] 2)) t := fun t k => castTop (own_ef_1 m r0 r1) k
  obtain ⟨T1, X1, e1, st1⟩ := getS2 X0 hx hZ hown (host := "") (Or.inl (hw _ (List.mem_of_getElem? (i := 10) rfl))) Via.refl e0 (B.1.ext O.2) (g := (mkF m 1 #[.val (.ref r0), .val (.ref r1)] [(.ref r0)])) rfl (hb hby d1_1)
  have pre2 : ∀ t, Steps p.tables e below (T1.setTop (mkF m 4 #[.val (.ref r0), .val (.ref r1)] [(.ref (u 0)), (.ref r0)])) t → Steps p.tables e below (s₁.setTop (entryFrame m #[(.ref r0), (.ref r1)] 2)) t := fun t kt => pre0 t (by
    show Steps p.tables e below (s₁.setTop (mkF m 0 #[.val (.ref r0), .val (.ref r1)] [])) _
    refine XS.aloadN X0.here hx rfl (hb hby d1_0) rfl rfl ?_
    show Steps p.tables e below (s₁.setTop (mkF m 1 #[.val (.ref r0), .val (.ref r1)] [(.ref r0)])) _
    refine st1 _ ?_
    exact kt)
  by_cases hc3 : r0 = (u 0)
  · --
    obtain ⟨T4, X4, e4, st4⟩ := getS2 X1 hx hZ hown (host := "") (Or.inl (hw _ (List.mem_of_getElem? (i := 10) rfl))) Via.refl e1 (B.1.ext O.2) (g := (mkF m 8 #[.val (.ref r0), .val (.ref r1)] [(.ref r1)])) rfl (hb hby d1_8)
    have pre5 : ∀ t, Steps p.tables e below (T4.setTop (mkF m 11 #[.val (.ref r0), .val (.ref r1)] [(.ref (u 0)), (.ref r1)])) t → Steps p.tables e below (s₁.setTop (entryFrame m #[(.ref r0), (.ref r1)] 2)) t := fun t kt => pre2 t (by
      show Steps p.tables e below (T1.setTop (mkF m 4 #[.val (.ref r0), .val (.ref r1)] [(.ref (u 0)), (.ref r0)])) _
      refine Jvm.RoadKit.acmp (g := (mkF m 4 #[.val (.ref r0), .val (.ref r1)] [(.ref (u 0)), (.ref r0)])) X1 hx rfl rfl rfl (pc0 := 4) (pc' := 7) (same := true) rfl (hb hby d1_4) rfl (decide_eq_true (congrArg Value.ref hc3)) (by decide) (by decide) ?_
      show Steps p.tables e below (T1.setTop (mkF m 7 #[.val (.ref r0), .val (.ref r1)] [])) _
      refine XS.aloadN X1.here hx rfl (hb hby d1_7) rfl rfl ?_
      show Steps p.tables e below (T1.setTop (mkF m 8 #[.val (.ref r0), .val (.ref r1)] [(.ref r1)])) _
      refine st4 _ ?_
      exact kt)
    by_cases hc6 : r1 = (u 0)
    · --
      obtain ⟨T7, X7, e7, st7⟩ := getS2 X4 hx hZ hown (host := "") (Or.inl (hw _ (List.mem_of_getElem? (i := 10) rfl))) Via.refl e4 (B.1.ext O.2) (g := (mkF m 14 #[.val (.ref r0), .val (.ref r1)] [])) rfl (hb hby d1_14)
      obtain ⟨fs, hr, hrun, hended, hW, hsame⟩ := X7.leave (v := some (.ref (u 0))) (fun h => by rw [Bd.returns] at h; cases h)
      refine ⟨_, _, pre5 _ ?_, hrun, hended, _, _, rfl, ?_, ⟨_, rfl⟩, hW, hsame.mono (by decide) (by decide)⟩
      · show Steps p.tables e below (T4.setTop (mkF m 11 #[.val (.ref r0), .val (.ref r1)] [(.ref (u 0)), (.ref r1)])) _
        refine Jvm.RoadKit.acmp (g := (mkF m 11 #[.val (.ref r0), .val (.ref r1)] [(.ref (u 0)), (.ref r1)])) X4 hx rfl rfl rfl (pc0 := 11) (pc' := 14) (same := true) rfl (hb hby d1_11) rfl (decide_eq_true (congrArg Value.ref hc6)) (by decide) (by decide) ?_
        show Steps p.tables e below (T4.setTop (mkF m 14 #[.val (.ref r0), .val (.ref r1)] [])) _
        refine st7 _ ?_
        show Steps p.tables e below (T7.setTop (mkF m 17 #[.val (.ref r0), .val (.ref r1)] [(.ref (u 0))])) _
        refine XS.goto X7.here hx rfl (pc0 := 17) (pc' := 23) rfl (hb hby d1_17) (by decide) (by decide) ?_
        show Steps p.tables e below (T7.setTop (mkF m 23 #[.val (.ref r0), .val (.ref r1)] [(.ref (u 0))])) _
        exact retOut X7 hx Bd.returns (own_narref rfl rfl) (Or.inr (Or.inr (Or.inr (Or.inr ⟨rfl, rfl, rfl⟩)))) (hb hby d1_23) hr
      · show own_Q1 Z u r0 r1 h0 n0 _ T7.heap _
        rw [e7]
        exact ⟨(by unfold own_r1; rw [if_pos hc3, if_pos hc6]), N0, rfl⟩
    · --
      obtain ⟨T9, X9, e9, st9⟩ := getS2 X4 hx hZ hown (host := "") (Or.inl (hw _ (List.mem_of_getElem? (i := 11) rfl))) Via.refl e4 (B.2.2.1.ext O.2) (g := (mkF m 20 #[.val (.ref r0), .val (.ref r1)] [])) rfl (hb hby d1_20)
      obtain ⟨fs, hr, hrun, hended, hW, hsame⟩ := X9.leave (v := some (.ref (u 1))) (fun h => by rw [Bd.returns] at h; cases h)
      refine ⟨_, _, pre5 _ ?_, hrun, hended, _, _, rfl, ?_, ⟨_, rfl⟩, hW, hsame.mono (by decide) (by decide)⟩
      · show Steps p.tables e below (T4.setTop (mkF m 11 #[.val (.ref r0), .val (.ref r1)] [(.ref (u 0)), (.ref r1)])) _
        refine Jvm.RoadKit.acmp (g := (mkF m 11 #[.val (.ref r0), .val (.ref r1)] [(.ref (u 0)), (.ref r1)])) X4 hx rfl rfl rfl (pc0 := 11) (pc' := 20) (same := false) rfl (hb hby d1_11) rfl (decide_eq_false fun q => hc6 (Value.ref.inj q)) (by decide) (by decide) ?_
        show Steps p.tables e below (T4.setTop (mkF m 20 #[.val (.ref r0), .val (.ref r1)] [])) _
        refine st9 _ ?_
        show Steps p.tables e below (T9.setTop (mkF m 23 #[.val (.ref r0), .val (.ref r1)] [(.ref (u 1))])) _
        exact retOut X9 hx Bd.returns (own_narref rfl rfl) (Or.inr (Or.inr (Or.inr (Or.inr ⟨rfl, rfl, rfl⟩)))) (hb hby d1_23) hr
      · show own_Q1 Z u r0 r1 h0 n0 _ T9.heap _
        rw [e9]
        exact ⟨(by unfold own_r1; rw [if_pos hc3, if_neg hc6]), N0, rfl⟩
  · --
    obtain ⟨T11, X11, e11, st11⟩ := getS2 X1 hx hZ hown (host := "") (Or.inl (hw _ (List.mem_of_getElem? (i := 11) rfl))) Via.refl e1 (B.2.2.1.ext O.2) (g := (mkF m 20 #[.val (.ref r0), .val (.ref r1)] [])) rfl (hb hby d1_20)
    obtain ⟨fs, hr, hrun, hended, hW, hsame⟩ := X11.leave (v := some (.ref (u 1))) (fun h => by rw [Bd.returns] at h; cases h)
    refine ⟨_, _, pre2 _ ?_, hrun, hended, _, _, rfl, ?_, ⟨_, rfl⟩, hW, hsame.mono (by decide) (by decide)⟩
    · show Steps p.tables e below (T1.setTop (mkF m 4 #[.val (.ref r0), .val (.ref r1)] [(.ref (u 0)), (.ref r0)])) _
      refine Jvm.RoadKit.acmp (g := (mkF m 4 #[.val (.ref r0), .val (.ref r1)] [(.ref (u 0)), (.ref r0)])) X1 hx rfl rfl rfl (pc0 := 4) (pc' := 20) (same := false) rfl (hb hby d1_4) rfl (decide_eq_false fun q => hc3 (Value.ref.inj q)) (by decide) (by decide) ?_
      show Steps p.tables e below (T1.setTop (mkF m 20 #[.val (.ref r0), .val (.ref r1)] [])) _
      refine st11 _ ?_
      show Steps p.tables e below (T11.setTop (mkF m 23 #[.val (.ref r0), .val (.ref r1)] [(.ref (u 1))])) _
      exact retOut X11 hx Bd.returns (own_narref rfl rfl) (Or.inr (Or.inr (Or.inr (Or.inr ⟨rfl, rfl, rfl⟩)))) (hb hby d1_23) hr
    · show own_Q1 Z u r0 r1 h0 n0 _ T11.heap _
      rw [e11]
      exact ⟨(by unfold own_r1; rw [if_neg hc3]), N0, rfl⟩
theorem own_pn_0 : plainName "com/example/resolvent/resolvent/core/ScopeThroughPinLaw" = true := by first | (simp [plainName, overriddenIn]; done) | decide +kernel
theorem own_ef_0 (m : MethodId) (x0 : Int32) (x1 : Int32) : entryFrame m #[(.int x0), (.int x1)] maxLocals = mkF m 0 #[.val (.int x0), .val (.int x1), .unset, .unset, .unset, .unset, .unset, .unset] [] := by first | (simp [entryFrame, mkF, argsToLocals, Value.category, maxLocals]; done) | rfl
def own_Q0 (Z : State) (u : Nat → Addr) (p0 : Int32) (p1 : Int32) (h0 : Heap) (n0 : Nat) (v : Option Value) (h : Heap) (L : List Loc) : Prop := v = some (.int (1 : Int32)) ∧ Fr n0 L ∧ True
set_option maxRecDepth 65536 in
set_option maxHeartbeats 40000000 in
theorem rm0 (l : Launch) (Z : State) (a0 : Array Value) (hw : ∀ d ∈ tables_1, d.before a0 Z = true) (ws : List Jvm.Cond) (u : Nat → Addr) (p0 : Int32) (p1 : Int32) (B : own_Base Z u) (h0 : Heap) (n0 : Nat) (O : Old Z n0 h0) :
    MetFree l x (head1 (Jvm.Cond.code x code maxLocals ret :: ws) room_1) (fun a U => a = #[(.int p0), (.int p1)] ∧ Z.Warmed39 U.vm ∧ U.heap = h0) (fun _ _ _ _ _ => True) (fun _ U o U' => ∃ v L, o = .returned v ∧ own_Q0 Z u p0 p1 h0 n0 v U'.heap L ∧ FrameEnd U o U' L room_1.cells room_1.slots) := by
  refine MetFree.of_bodySF (plainFor_of_name own_pn_0) hisR ?_
  intro p e s m args below meth c s₁ Bd hml0 hP hK
  obtain ⟨rfl, hZ, hh⟩ := hP
  have hx := Bd.exec
  have hby := Bd.bytes
  have hml : c.maxLocals = 8 := hml0
  have hown : s.vm.findClass "com/example/resolvent/resolvent/core/ScopeThroughPinLaw" = some m.cls := findClass_of_methodNamed Bd.named
  have hnm := (name_of_methodNamed Bd.named Bd.method).1
  have X0 : Stand p l e room_1 s m #[(.int p0), (.int p1)] below meth c s₁ [] 0 0 := Stand.of_body Bd
  have e0 : s₁.heap = h0 := by rw [← hh, Bd.state]; rfl
  have N0 := Fr.nil n0
  have K0 := Keep.refl h0 []
  have Z0 : n0 ≤ h0.size := O.1 ▸ O.2.1
  have pre0 : ∀ t, Steps p.tables e below (s₁.setTop (mkF m 0 #[.val (.int p0), .val (.int p1), .unset, .unset, .unset, .unset, .unset, .unset] [])) t → Steps p.tables e below (s₁.setTop (entryFrame m #[(.int p0), (.int p1)] maxLocals)) t := fun t k => castTop (own_ef_0 m p0 p1) k
  have pre13 : ∀ t, Steps p.tables e below (s₁.setTop (mkF m 3 #[.val (.int p0), .val (.int p1), .unset, .unset, .unset, .unset, .unset, .unset] [(.int (p0 &&& (1 : Int32)))])) t → Steps p.tables e below (s₁.setTop (entryFrame m #[(.int p0), (.int p1)] maxLocals)) t := fun t kt => pre0 t (by
    show Steps p.tables e below (s₁.setTop (mkF m 0 #[.val (.int p0), .val (.int p1), .unset, .unset, .unset, .unset, .unset, .unset] [])) _
    refine XS.iloadN X0.here hx rfl (hb hby at_0) rfl ?_
    show Steps p.tables e below (s₁.setTop (mkF m 1 #[.val (.int p0), .val (.int p1), .unset, .unset, .unset, .unset, .unset, .unset] [(.int p0)])) _
    refine XS.iconst X0.here hx rfl (hb hby at_1) ?_
    show Steps p.tables e below (s₁.setTop (mkF m 2 #[.val (.int p0), .val (.int p1), .unset, .unset, .unset, .unset, .unset, .unset] [(.int (1 : Int32)), (.int p0)])) _
    refine XS.iand X0.here hx rfl (hb hby at_2) rfl ?_
    exact kt)
  by_cases hc14 : (p0 &&& (1 : Int32)) = (0 : Int32)
  · --
    obtain ⟨T15, X15, e15, st15⟩ := getS2 X0 hx hZ hown (host := "") (Or.inl (hw _ (List.mem_of_getElem? (i := 0) rfl))) Via.refl e0 (B.1.ext O.2) (g := (mkF m 6 #[.val (.int p0), .val (.int p1), .unset, .unset, .unset, .unset, .unset, .unset] [])) rfl (hb hby at_6)
    have pre16 : ∀ t, Steps p.tables e below (T15.setTop (mkF m 19 #[.val (.int p0), .val (.int p1), .val (.ref (u 0)), .unset, .unset, .unset, .unset, .unset] [(.int (p1 &&& (1 : Int32)))])) t → Steps p.tables e below (s₁.setTop (entryFrame m #[(.int p0), (.int p1)] maxLocals)) t := fun t kt => pre13 t (by
      show Steps p.tables e below (s₁.setTop (mkF m 3 #[.val (.int p0), .val (.int p1), .unset, .unset, .unset, .unset, .unset, .unset] [(.int (p0 &&& (1 : Int32)))])) _
      refine XS.ifNo X0.here hx rfl (hb hby at_3) rfl ((if0 _ _).trans (teq hc14).2) ?_
      show Steps p.tables e below (s₁.setTop (mkF m 6 #[.val (.int p0), .val (.int p1), .unset, .unset, .unset, .unset, .unset, .unset] [])) _
      refine st15 _ ?_
      show Steps p.tables e below (T15.setTop (mkF m 9 #[.val (.int p0), .val (.int p1), .unset, .unset, .unset, .unset, .unset, .unset] [(.ref (u 0))])) _
      refine XS.goto X15.here hx rfl (pc0 := 9) (pc' := 15) rfl (hb hby at_9) (by decide) (by decide) ?_
      show Steps p.tables e below (T15.setTop (mkF m 15 #[.val (.int p0), .val (.int p1), .unset, .unset, .unset, .unset, .unset, .unset] [(.ref (u 0))])) _
      refine XS.astoreN X15.here hx rfl (hb hby at_15) rfl rfl (l' := #[.val (.int p0), .val (.int p1), .val (.ref (u 0)), .unset, .unset, .unset, .unset, .unset]) rfl ?_
      show Steps p.tables e below (T15.setTop (mkF m 16 #[.val (.int p0), .val (.int p1), .val (.ref (u 0)), .unset, .unset, .unset, .unset, .unset] [])) _
      refine XS.iloadN X15.here hx rfl (hb hby at_16) rfl ?_
      show Steps p.tables e below (T15.setTop (mkF m 17 #[.val (.int p0), .val (.int p1), .val (.ref (u 0)), .unset, .unset, .unset, .unset, .unset] [(.int p1)])) _
      refine XS.iconst X15.here hx rfl (hb hby at_17) ?_
      show Steps p.tables e below (T15.setTop (mkF m 18 #[.val (.int p0), .val (.int p1), .val (.ref (u 0)), .unset, .unset, .unset, .unset, .unset] [(.int (1 : Int32)), (.int p1)])) _
      refine XS.iand X15.here hx rfl (hb hby at_18) rfl ?_
      exact kt)
    by_cases hc17 : (p1 &&& (1 : Int32)) = (0 : Int32)
    · --
      obtain ⟨T18, X18, e18, st18⟩ := getS2 X15 hx hZ hown (host := "") (Or.inl (hw _ (List.mem_of_getElem? (i := 0) rfl))) Via.refl e15 (B.1.ext O.2) (g := (mkF m 22 #[.val (.int p0), .val (.int p1), .val (.ref (u 0)), .unset, .unset, .unset, .unset, .unset] [])) rfl (hb hby at_22)
      have pre19 : ∀ t, Steps p.tables e below (T18.setTop (mkF m 34 #[.val (.int p0), .val (.int p1), .val (.ref (u 0)), .val (.ref (u 0)), .unset, .unset, .unset, .unset] [(.ref (u 0)), (.ref (u 0))])) t → Steps p.tables e below (s₁.setTop (entryFrame m #[(.int p0), (.int p1)] maxLocals)) t := fun t kt => pre16 t (by
        show Steps p.tables e below (T15.setTop (mkF m 19 #[.val (.int p0), .val (.int p1), .val (.ref (u 0)), .unset, .unset, .unset, .unset, .unset] [(.int (p1 &&& (1 : Int32)))])) _
        refine XS.ifNo X15.here hx rfl (hb hby at_19) rfl ((if0 _ _).trans (teq hc17).2) ?_
        show Steps p.tables e below (T15.setTop (mkF m 22 #[.val (.int p0), .val (.int p1), .val (.ref (u 0)), .unset, .unset, .unset, .unset, .unset] [])) _
        refine st18 _ ?_
        show Steps p.tables e below (T18.setTop (mkF m 25 #[.val (.int p0), .val (.int p1), .val (.ref (u 0)), .unset, .unset, .unset, .unset, .unset] [(.ref (u 0))])) _
        refine XS.goto X18.here hx rfl (pc0 := 25) (pc' := 31) rfl (hb hby at_25) (by decide) (by decide) ?_
        show Steps p.tables e below (T18.setTop (mkF m 31 #[.val (.int p0), .val (.int p1), .val (.ref (u 0)), .unset, .unset, .unset, .unset, .unset] [(.ref (u 0))])) _
        refine XS.astoreN X18.here hx rfl (hb hby at_31) rfl rfl (l' := #[.val (.int p0), .val (.int p1), .val (.ref (u 0)), .val (.ref (u 0)), .unset, .unset, .unset, .unset]) rfl ?_
        show Steps p.tables e below (T18.setTop (mkF m 32 #[.val (.int p0), .val (.int p1), .val (.ref (u 0)), .val (.ref (u 0)), .unset, .unset, .unset, .unset] [])) _
        refine XS.aloadN X18.here hx rfl (hb hby at_32) rfl rfl ?_
        show Steps p.tables e below (T18.setTop (mkF m 33 #[.val (.int p0), .val (.int p1), .val (.ref (u 0)), .val (.ref (u 0)), .unset, .unset, .unset, .unset] [(.ref (u 0))])) _
        refine XS.aloadN X18.here hx rfl (hb hby at_33) rfl rfl ?_
        exact kt)
      obtain ⟨cq20, kq20, q20a, q20b, q20c⟩ := isOf hZ e18 (B.2.1.ext O.2)
      obtain ⟨vr20, _, ⟨T20, L20, k20, n20⟩, -, X20, ⟨Lc20, hQ20, l20, y20, z20⟩, st20⟩ := X18.virtualBack hx (y := (⟨"com/example/resolvent/resolvent/core/Scope", "through", "(Lcom/example/resolvent/resolvent/core/Scope;)Lcom/example/resolvent/resolvent/core/Scope;"⟩ : MethodName)) (z := (⟨"com/example/resolvent/resolvent/core/Scope", "through", "(Lcom/example/resolvent/resolvent/core/Scope;)Lcom/example/resolvent/resolvent/core/Scope;"⟩ : MethodName)) hown (mvT hZ (hw _ (List.mem_of_getElem? (i := 5) rfl))) (mvT hZ (hw _ (List.mem_of_getElem? (i := 6) rfl))) (notFace_of_selects (args := #[]) (mvT hZ (hw _ (List.mem_of_getElem? (i := 8) rfl)))) (mvT hZ (hw _ (List.mem_of_getElem? (i := 8) rfl))) (mvT hZ (hw _ (List.mem_of_getElem? (i := 7) rfl))) (by decide) (backOf (W := 0) (rm1 l Z a0 hw [] u (u 0) (u 0) B h0 n0 O ) hZ (hw _ (List.mem_of_getElem? (i := 9) rfl)) (hw _ (List.mem_of_getElem? (i := 1) rfl)) (by decide) (by decide)) q20a q20c (g := (mkF m 34 #[.val (.int p0), .val (.int p1), .val (.ref (u 0)), .val (.ref (u 0)), .unset, .unset, .unset, .unset] [(.ref (u 0)), (.ref (u 0))])) rfl (by rw [hml]; rfl) (Steps.refl _) (argsL := [(.ref (u 0))]) (rest := []) (lenOf own_pd0 rfl) rfl (by show 2 * 0 + _ ≤ _; exact Nat.le_of_eq rfl) (hb hby at_34) (fun _ _ => ⟨rfl, e18, (by decide : 0 + 0 ≤ _), (by decide : 0 + 0 ≤ _)⟩)
      dsimp only [Pt.U, Pt.locs, Pt.cells, Pt.slots] at X20 l20 y20 z20 st20 hQ20
      subst l20 y20 z20
      obtain ⟨hv20, N20q, e20⟩ := hQ20
      have N20 := Fr.app N0 N20q
      obtain rfl : vr20 = some (.ref (u 0)) := hv20.trans (by unfold own_r1; rw [if_pos (rfl : (u 0) = (u 0)), if_pos (rfl : (u 0) = (u 0))])
      have pre21 : ∀ t, Steps p.tables e below (T20.setTop (mkF m 41 #[.val (.int p0), .val (.int p1), .val (.ref (u 0)), .val (.ref (u 0)), .val (.ref (u 0)), .unset, .unset, .unset] [(.ref (u 0)), (.ref (u 0))])) t → Steps p.tables e below (s₁.setTop (entryFrame m #[(.int p0), (.int p1)] maxLocals)) t := fun t kt => pre19 t (by
        show Steps p.tables e below (T18.setTop (mkF m 34 #[.val (.int p0), .val (.int p1), .val (.ref (u 0)), .val (.ref (u 0)), .unset, .unset, .unset, .unset] [(.ref (u 0)), (.ref (u 0))])) _
        refine st20.trans ?_
        show Steps p.tables e below (T20.setTop (mkF m 37 #[.val (.int p0), .val (.int p1), .val (.ref (u 0)), .val (.ref (u 0)), .unset, .unset, .unset, .unset] [(.ref (u 0))])) _
        refine XS.astore X20.here hx rfl (hb hby at_37) rfl rfl (l' := #[.val (.int p0), .val (.int p1), .val (.ref (u 0)), .val (.ref (u 0)), .val (.ref (u 0)), .unset, .unset, .unset]) rfl ?_
        show Steps p.tables e below (T20.setTop (mkF m 39 #[.val (.int p0), .val (.int p1), .val (.ref (u 0)), .val (.ref (u 0)), .val (.ref (u 0)), .unset, .unset, .unset] [])) _
        refine XS.aloadN X20.here hx rfl (hb hby at_39) rfl rfl ?_
        show Steps p.tables e below (T20.setTop (mkF m 40 #[.val (.int p0), .val (.int p1), .val (.ref (u 0)), .val (.ref (u 0)), .val (.ref (u 0)), .unset, .unset, .unset] [(.ref (u 0))])) _
        refine XS.aloadN X20.here hx rfl (hb hby at_40) rfl rfl ?_
        exact kt)
      obtain ⟨cq22, kq22, q22a, q22b, q22c⟩ := isOf hZ e20 (B.2.1.ext O.2)
      obtain ⟨vr22, _, ⟨T22, L22, k22, n22⟩, -, X22, ⟨Lc22, hQ22, l22, y22, z22⟩, st22⟩ := X20.virtualBack hx (y := (⟨"com/example/resolvent/resolvent/core/Scope", "through", "(Lcom/example/resolvent/resolvent/core/Scope;)Lcom/example/resolvent/resolvent/core/Scope;"⟩ : MethodName)) (z := (⟨"com/example/resolvent/resolvent/core/Scope", "through", "(Lcom/example/resolvent/resolvent/core/Scope;)Lcom/example/resolvent/resolvent/core/Scope;"⟩ : MethodName)) hown (mvT hZ (hw _ (List.mem_of_getElem? (i := 5) rfl))) (mvT hZ (hw _ (List.mem_of_getElem? (i := 6) rfl))) (notFace_of_selects (args := #[]) (mvT hZ (hw _ (List.mem_of_getElem? (i := 8) rfl)))) (mvT hZ (hw _ (List.mem_of_getElem? (i := 8) rfl))) (mvT hZ (hw _ (List.mem_of_getElem? (i := 7) rfl))) (by decide) (backOf (W := 0) (rm1 l Z a0 hw [] u (u 0) (u 0) B h0 n0 O ) hZ (hw _ (List.mem_of_getElem? (i := 9) rfl)) (hw _ (List.mem_of_getElem? (i := 1) rfl)) (by decide) (by decide)) q22a q22c (g := (mkF m 41 #[.val (.int p0), .val (.int p1), .val (.ref (u 0)), .val (.ref (u 0)), .val (.ref (u 0)), .unset, .unset, .unset] [(.ref (u 0)), (.ref (u 0))])) rfl (by rw [hml]; rfl) (Steps.refl _) (argsL := [(.ref (u 0))]) (rest := []) (lenOf own_pd0 rfl) rfl (by show 2 * 0 + _ ≤ _; exact Nat.le_of_eq rfl) (hb hby at_41) (fun _ _ => ⟨rfl, e20, (by decide : 0 + 0 ≤ _), (by decide : 0 + 0 ≤ _)⟩)
      dsimp only [Pt.U, Pt.locs, Pt.cells, Pt.slots] at X22 l22 y22 z22 st22 hQ22
      subst l22 y22 z22
      obtain ⟨hv22, N22q, e22⟩ := hQ22
      have N22 := Fr.app N20 N22q
      obtain rfl : vr22 = some (.ref (u 0)) := hv22.trans (by unfold own_r1; rw [if_pos (rfl : (u 0) = (u 0)), if_pos (rfl : (u 0) = (u 0))])
      obtain ⟨T23, X23, e23, st23⟩ := getS2 X22 hx hZ hown (host := "") (Or.inl (hw _ (List.mem_of_getElem? (i := 0) rfl))) Via.refl e22 (B.1.ext O.2) (g := (mkF m 46 #[.val (.int p0), .val (.int p1), .val (.ref (u 0)), .val (.ref (u 0)), .val (.ref (u 0)), .val (.ref (u 0)), .unset, .unset] [])) rfl (hb hby at_46)
      have pre24 : ∀ t, Steps p.tables e below (T23.setTop (mkF m 50 #[.val (.int p0), .val (.int p1), .val (.ref (u 0)), .val (.ref (u 0)), .val (.ref (u 0)), .val (.ref (u 0)), .unset, .unset] [(.ref (u 0)), (.ref (u 0))])) t → Steps p.tables e below (s₁.setTop (entryFrame m #[(.int p0), (.int p1)] maxLocals)) t := fun t kt => pre21 t (by
        show Steps p.tables e below (T20.setTop (mkF m 41 #[.val (.int p0), .val (.int p1), .val (.ref (u 0)), .val (.ref (u 0)), .val (.ref (u 0)), .unset, .unset, .unset] [(.ref (u 0)), (.ref (u 0))])) _
        refine st22.trans ?_
        show Steps p.tables e below (T22.setTop (mkF m 44 #[.val (.int p0), .val (.int p1), .val (.ref (u 0)), .val (.ref (u 0)), .val (.ref (u 0)), .unset, .unset, .unset] [(.ref (u 0))])) _
        refine XS.astore X22.here hx rfl (hb hby at_44) rfl rfl (l' := #[.val (.int p0), .val (.int p1), .val (.ref (u 0)), .val (.ref (u 0)), .val (.ref (u 0)), .val (.ref (u 0)), .unset, .unset]) rfl ?_
        show Steps p.tables e below (T22.setTop (mkF m 46 #[.val (.int p0), .val (.int p1), .val (.ref (u 0)), .val (.ref (u 0)), .val (.ref (u 0)), .val (.ref (u 0)), .unset, .unset] [])) _
        refine st23 _ ?_
        show Steps p.tables e below (T23.setTop (mkF m 49 #[.val (.int p0), .val (.int p1), .val (.ref (u 0)), .val (.ref (u 0)), .val (.ref (u 0)), .val (.ref (u 0)), .unset, .unset] [(.ref (u 0))])) _
        refine XS.aloadN X23.here hx rfl (hb hby at_49) rfl rfl ?_
        exact kt)
      obtain ⟨cq25, kq25, q25a, q25b, q25c⟩ := isOf hZ e23 (B.2.1.ext O.2)
      obtain ⟨vr25, _, ⟨T25, L25, k25, n25⟩, -, X25, ⟨Lc25, hQ25, l25, y25, z25⟩, st25⟩ := X23.virtualBack hx (y := (⟨"com/example/resolvent/resolvent/core/Scope", "through", "(Lcom/example/resolvent/resolvent/core/Scope;)Lcom/example/resolvent/resolvent/core/Scope;"⟩ : MethodName)) (z := (⟨"com/example/resolvent/resolvent/core/Scope", "through", "(Lcom/example/resolvent/resolvent/core/Scope;)Lcom/example/resolvent/resolvent/core/Scope;"⟩ : MethodName)) hown (mvT hZ (hw _ (List.mem_of_getElem? (i := 5) rfl))) (mvT hZ (hw _ (List.mem_of_getElem? (i := 6) rfl))) (notFace_of_selects (args := #[]) (mvT hZ (hw _ (List.mem_of_getElem? (i := 8) rfl)))) (mvT hZ (hw _ (List.mem_of_getElem? (i := 8) rfl))) (mvT hZ (hw _ (List.mem_of_getElem? (i := 7) rfl))) (by decide) (backOf (W := 0) (rm1 l Z a0 hw [] u (u 0) (u 0) B h0 n0 O ) hZ (hw _ (List.mem_of_getElem? (i := 9) rfl)) (hw _ (List.mem_of_getElem? (i := 1) rfl)) (by decide) (by decide)) q25a q25c (g := (mkF m 50 #[.val (.int p0), .val (.int p1), .val (.ref (u 0)), .val (.ref (u 0)), .val (.ref (u 0)), .val (.ref (u 0)), .unset, .unset] [(.ref (u 0)), (.ref (u 0))])) rfl (by rw [hml]; rfl) (Steps.refl _) (argsL := [(.ref (u 0))]) (rest := []) (lenOf own_pd0 rfl) rfl (by show 2 * 0 + _ ≤ _; exact Nat.le_of_eq rfl) (hb hby at_50) (fun _ _ => ⟨rfl, e23, (by decide : 0 + 0 ≤ _), (by decide : 0 + 0 ≤ _)⟩)
      dsimp only [Pt.U, Pt.locs, Pt.cells, Pt.slots] at X25 l25 y25 z25 st25 hQ25
      subst l25 y25 z25
      obtain ⟨hv25, N25q, e25⟩ := hQ25
      have N25 := Fr.app N22 N25q
      obtain rfl : vr25 = some (.ref (u 0)) := hv25.trans (by unfold own_r1; rw [if_pos (rfl : (u 0) = (u 0)), if_pos (rfl : (u 0) = (u 0))])
      obtain ⟨T26, X26, e26, st26⟩ := getS2 X25 hx hZ hown (host := "") (Or.inl (hw _ (List.mem_of_getElem? (i := 3) rfl))) Via.refl e25 (B.2.2.1.ext O.2) (g := (mkF m 56 #[.val (.int p0), .val (.int p1), .val (.ref (u 0)), .val (.ref (u 0)), .val (.ref (u 0)), .val (.ref (u 0)), .val (.ref (u 0)), .unset] [(.ref (u 0))])) rfl (hb hby at_56)
      have pre27 : ∀ t, Steps p.tables e below (T26.setTop (mkF m 59 #[.val (.int p0), .val (.int p1), .val (.ref (u 0)), .val (.ref (u 0)), .val (.ref (u 0)), .val (.ref (u 0)), .val (.ref (u 0)), .unset] [(.ref (u 1)), (.ref (u 0))])) t → Steps p.tables e below (s₁.setTop (entryFrame m #[(.int p0), (.int p1)] maxLocals)) t := fun t kt => pre24 t (by
        show Steps p.tables e below (T23.setTop (mkF m 50 #[.val (.int p0), .val (.int p1), .val (.ref (u 0)), .val (.ref (u 0)), .val (.ref (u 0)), .val (.ref (u 0)), .unset, .unset] [(.ref (u 0)), (.ref (u 0))])) _
        refine st25.trans ?_
        show Steps p.tables e below (T25.setTop (mkF m 53 #[.val (.int p0), .val (.int p1), .val (.ref (u 0)), .val (.ref (u 0)), .val (.ref (u 0)), .val (.ref (u 0)), .unset, .unset] [(.ref (u 0))])) _
        refine XS.astore X25.here hx rfl (hb hby at_53) rfl rfl (l' := #[.val (.int p0), .val (.int p1), .val (.ref (u 0)), .val (.ref (u 0)), .val (.ref (u 0)), .val (.ref (u 0)), .val (.ref (u 0)), .unset]) rfl ?_
        show Steps p.tables e below (T25.setTop (mkF m 55 #[.val (.int p0), .val (.int p1), .val (.ref (u 0)), .val (.ref (u 0)), .val (.ref (u 0)), .val (.ref (u 0)), .val (.ref (u 0)), .unset] [])) _
        refine XS.aloadN X25.here hx rfl (hb hby at_55) rfl rfl ?_
        show Steps p.tables e below (T25.setTop (mkF m 56 #[.val (.int p0), .val (.int p1), .val (.ref (u 0)), .val (.ref (u 0)), .val (.ref (u 0)), .val (.ref (u 0)), .val (.ref (u 0)), .unset] [(.ref (u 0))])) _
        refine st26 _ ?_
        exact kt)
      obtain ⟨cq28, kq28, q28a, q28b, q28c⟩ := isOf hZ e26 (B.2.1.ext O.2)
      obtain ⟨vr28, _, ⟨T28, L28, k28, n28⟩, -, X28, ⟨Lc28, hQ28, l28, y28, z28⟩, st28⟩ := X26.virtualBack hx (y := (⟨"com/example/resolvent/resolvent/core/Scope", "through", "(Lcom/example/resolvent/resolvent/core/Scope;)Lcom/example/resolvent/resolvent/core/Scope;"⟩ : MethodName)) (z := (⟨"com/example/resolvent/resolvent/core/Scope", "through", "(Lcom/example/resolvent/resolvent/core/Scope;)Lcom/example/resolvent/resolvent/core/Scope;"⟩ : MethodName)) hown (mvT hZ (hw _ (List.mem_of_getElem? (i := 5) rfl))) (mvT hZ (hw _ (List.mem_of_getElem? (i := 6) rfl))) (notFace_of_selects (args := #[]) (mvT hZ (hw _ (List.mem_of_getElem? (i := 8) rfl)))) (mvT hZ (hw _ (List.mem_of_getElem? (i := 8) rfl))) (mvT hZ (hw _ (List.mem_of_getElem? (i := 7) rfl))) (by decide) (backOf (W := 0) (rm1 l Z a0 hw [] u (u 0) (u 1) B h0 n0 O ) hZ (hw _ (List.mem_of_getElem? (i := 9) rfl)) (hw _ (List.mem_of_getElem? (i := 1) rfl)) (by decide) (by decide)) q28a q28c (g := (mkF m 59 #[.val (.int p0), .val (.int p1), .val (.ref (u 0)), .val (.ref (u 0)), .val (.ref (u 0)), .val (.ref (u 0)), .val (.ref (u 0)), .unset] [(.ref (u 1)), (.ref (u 0))])) rfl (by rw [hml]; rfl) (Steps.refl _) (argsL := [(.ref (u 1))]) (rest := []) (lenOf own_pd0 rfl) rfl (by show 2 * 0 + _ ≤ _; exact Nat.le_of_eq rfl) (hb hby at_59) (fun _ _ => ⟨rfl, e26, (by decide : 0 + 0 ≤ _), (by decide : 0 + 0 ≤ _)⟩)
      dsimp only [Pt.U, Pt.locs, Pt.cells, Pt.slots] at X28 l28 y28 z28 st28 hQ28
      subst l28 y28 z28
      obtain ⟨hv28, N28q, e28⟩ := hQ28
      have N28 := Fr.app N25 N28q
      obtain rfl : vr28 = some (.ref (u 1)) := hv28.trans (by unfold own_r1; rw [if_pos (rfl : (u 0) = (u 0)), if_neg ((Fld.ne B.2.2.2.2.2 B.2.2.2.2.1 (by decide)) : ¬ ((u 1) = (u 0)))])
      obtain ⟨T29, X29, e29, st29⟩ := getS2 X28 hx hZ hown (host := "") (Or.inl (hw _ (List.mem_of_getElem? (i := 3) rfl))) Via.refl e28 (B.2.2.1.ext O.2) (g := (mkF m 84 #[.val (.int p0), .val (.int p1), .val (.ref (u 0)), .val (.ref (u 0)), .val (.ref (u 0)), .val (.ref (u 0)), .val (.ref (u 0)), .val (.ref (u 1))] [(.ref (u 1))])) rfl (hb hby at_84)
      obtain ⟨fs, hr, hrun, hended, hW, hsame⟩ := X29.leave (v := some (.int (1 : Int32))) (fun h => by rw [Bd.returns] at h; cases h)
      refine ⟨_, _, pre27 _ ?_, hrun, hended, _, _, rfl, ?_, ⟨_, rfl⟩, hW, hsame.mono (by decide) (by decide)⟩
      · show Steps p.tables e below (T26.setTop (mkF m 59 #[.val (.int p0), .val (.int p1), .val (.ref (u 0)), .val (.ref (u 0)), .val (.ref (u 0)), .val (.ref (u 0)), .val (.ref (u 0)), .unset] [(.ref (u 1)), (.ref (u 0))])) _
        refine st28.trans ?_
        show Steps p.tables e below (T28.setTop (mkF m 62 #[.val (.int p0), .val (.int p1), .val (.ref (u 0)), .val (.ref (u 0)), .val (.ref (u 0)), .val (.ref (u 0)), .val (.ref (u 0)), .unset] [(.ref (u 1))])) _
        refine XS.astore X28.here hx rfl (hb hby at_62) rfl rfl (l' := #[.val (.int p0), .val (.int p1), .val (.ref (u 0)), .val (.ref (u 0)), .val (.ref (u 0)), .val (.ref (u 0)), .val (.ref (u 0)), .val (.ref (u 1))]) rfl ?_
        show Steps p.tables e below (T28.setTop (mkF m 64 #[.val (.int p0), .val (.int p1), .val (.ref (u 0)), .val (.ref (u 0)), .val (.ref (u 0)), .val (.ref (u 0)), .val (.ref (u 0)), .val (.ref (u 1))] [])) _
        refine XS.aload X28.here hx rfl (hb hby at_64) rfl rfl ?_
        show Steps p.tables e below (T28.setTop (mkF m 66 #[.val (.int p0), .val (.int p1), .val (.ref (u 0)), .val (.ref (u 0)), .val (.ref (u 0)), .val (.ref (u 0)), .val (.ref (u 0)), .val (.ref (u 1))] [(.ref (u 0))])) _
        refine XS.ifnullNo X28.here hx rfl (hb hby at_66) rfl ?_
        show Steps p.tables e below (T28.setTop (mkF m 69 #[.val (.int p0), .val (.int p1), .val (.ref (u 0)), .val (.ref (u 0)), .val (.ref (u 0)), .val (.ref (u 0)), .val (.ref (u 0)), .val (.ref (u 1))] [])) _
        refine XS.aload X28.here hx rfl (hb hby at_69) rfl rfl ?_
        show Steps p.tables e below (T28.setTop (mkF m 71 #[.val (.int p0), .val (.int p1), .val (.ref (u 0)), .val (.ref (u 0)), .val (.ref (u 0)), .val (.ref (u 0)), .val (.ref (u 0)), .val (.ref (u 1))] [(.ref (u 0))])) _
        refine XS.aload X28.here hx rfl (hb hby at_71) rfl rfl ?_
        show Steps p.tables e below (T28.setTop (mkF m 73 #[.val (.int p0), .val (.int p1), .val (.ref (u 0)), .val (.ref (u 0)), .val (.ref (u 0)), .val (.ref (u 0)), .val (.ref (u 0)), .val (.ref (u 1))] [(.ref (u 0)), (.ref (u 0))])) _
        refine Jvm.RoadKit.acmp (g := (mkF m 73 #[.val (.int p0), .val (.int p1), .val (.ref (u 0)), .val (.ref (u 0)), .val (.ref (u 0)), .val (.ref (u 0)), .val (.ref (u 0)), .val (.ref (u 1))] [(.ref (u 0)), (.ref (u 0))])) X28 hx rfl rfl rfl (pc0 := 73) (pc' := 76) (same := true) rfl (hb hby at_73) rfl (decide_eq_true rfl) (by decide) (by decide) ?_
        show Steps p.tables e below (T28.setTop (mkF m 76 #[.val (.int p0), .val (.int p1), .val (.ref (u 0)), .val (.ref (u 0)), .val (.ref (u 0)), .val (.ref (u 0)), .val (.ref (u 0)), .val (.ref (u 1))] [])) _
        refine XS.aload X28.here hx rfl (hb hby at_76) rfl rfl ?_
        show Steps p.tables e below (T28.setTop (mkF m 78 #[.val (.int p0), .val (.int p1), .val (.ref (u 0)), .val (.ref (u 0)), .val (.ref (u 0)), .val (.ref (u 0)), .val (.ref (u 0)), .val (.ref (u 1))] [(.ref (u 0))])) _
        refine XS.aloadN X28.here hx rfl (hb hby at_78) rfl rfl ?_
        show Steps p.tables e below (T28.setTop (mkF m 79 #[.val (.int p0), .val (.int p1), .val (.ref (u 0)), .val (.ref (u 0)), .val (.ref (u 0)), .val (.ref (u 0)), .val (.ref (u 0)), .val (.ref (u 1))] [(.ref (u 0)), (.ref (u 0))])) _
        refine Jvm.RoadKit.acmp (g := (mkF m 79 #[.val (.int p0), .val (.int p1), .val (.ref (u 0)), .val (.ref (u 0)), .val (.ref (u 0)), .val (.ref (u 0)), .val (.ref (u 0)), .val (.ref (u 1))] [(.ref (u 0)), (.ref (u 0))])) X28 hx rfl rfl rfl (pc0 := 79) (pc' := 82) (same := true) rfl (hb hby at_79) rfl (decide_eq_true rfl) (by decide) (by decide) ?_
        show Steps p.tables e below (T28.setTop (mkF m 82 #[.val (.int p0), .val (.int p1), .val (.ref (u 0)), .val (.ref (u 0)), .val (.ref (u 0)), .val (.ref (u 0)), .val (.ref (u 0)), .val (.ref (u 1))] [])) _
        refine XS.aload X28.here hx rfl (hb hby at_82) rfl rfl ?_
        show Steps p.tables e below (T28.setTop (mkF m 84 #[.val (.int p0), .val (.int p1), .val (.ref (u 0)), .val (.ref (u 0)), .val (.ref (u 0)), .val (.ref (u 0)), .val (.ref (u 0)), .val (.ref (u 1))] [(.ref (u 1))])) _
        refine st29 _ ?_
        show Steps p.tables e below (T29.setTop (mkF m 87 #[.val (.int p0), .val (.int p1), .val (.ref (u 0)), .val (.ref (u 0)), .val (.ref (u 0)), .val (.ref (u 0)), .val (.ref (u 0)), .val (.ref (u 1))] [(.ref (u 1)), (.ref (u 1))])) _
        refine Jvm.RoadKit.acmp (g := (mkF m 87 #[.val (.int p0), .val (.int p1), .val (.ref (u 0)), .val (.ref (u 0)), .val (.ref (u 0)), .val (.ref (u 0)), .val (.ref (u 0)), .val (.ref (u 1))] [(.ref (u 1)), (.ref (u 1))])) X29 hx rfl rfl rfl (pc0 := 87) (pc' := 90) (same := true) rfl (hb hby at_87) rfl (decide_eq_true rfl) (by decide) (by decide) ?_
        show Steps p.tables e below (T29.setTop (mkF m 90 #[.val (.int p0), .val (.int p1), .val (.ref (u 0)), .val (.ref (u 0)), .val (.ref (u 0)), .val (.ref (u 0)), .val (.ref (u 0)), .val (.ref (u 1))] [])) _
        refine XS.iconst X29.here hx rfl (hb hby at_90) ?_
        show Steps p.tables e below (T29.setTop (mkF m 91 #[.val (.int p0), .val (.int p1), .val (.ref (u 0)), .val (.ref (u 0)), .val (.ref (u 0)), .val (.ref (u 0)), .val (.ref (u 0)), .val (.ref (u 1))] [(.int (1 : Int32))])) _
        refine XS.goto X29.here hx rfl (pc0 := 91) (pc' := 95) rfl (hb hby at_91) (by decide) (by decide) ?_
        show Steps p.tables e below (T29.setTop (mkF m 95 #[.val (.int p0), .val (.int p1), .val (.ref (u 0)), .val (.ref (u 0)), .val (.ref (u 0)), .val (.ref (u 0)), .val (.ref (u 0)), .val (.ref (u 1))] [(.int (1 : Int32))])) _
        exact retN X29 hx (t := .boolean) Bd.returns (by simp) (hb hby at_95) hr
      · show own_Q0 Z u p0 p1 h0 n0 _ T29.heap _
        rw [e29]
        exact ⟨rfl, N28, trivial⟩
    · --
      obtain ⟨T31, X31, e31, st31⟩ := getS2 X15 hx hZ hown (host := "") (Or.inl (hw _ (List.mem_of_getElem? (i := 3) rfl))) Via.refl e15 (B.2.2.1.ext O.2) (g := (mkF m 28 #[.val (.int p0), .val (.int p1), .val (.ref (u 0)), .unset, .unset, .unset, .unset, .unset] [])) rfl (hb hby at_28)
      have pre32 : ∀ t, Steps p.tables e below (T31.setTop (mkF m 34 #[.val (.int p0), .val (.int p1), .val (.ref (u 0)), .val (.ref (u 1)), .unset, .unset, .unset, .unset] [(.ref (u 1)), (.ref (u 0))])) t → Steps p.tables e below (s₁.setTop (entryFrame m #[(.int p0), (.int p1)] maxLocals)) t := fun t kt => pre16 t (by
        show Steps p.tables e below (T15.setTop (mkF m 19 #[.val (.int p0), .val (.int p1), .val (.ref (u 0)), .unset, .unset, .unset, .unset, .unset] [(.int (p1 &&& (1 : Int32)))])) _
        refine XS.ifYes X15.here hx rfl (pc0 := 19) (pc' := 28) rfl (hb hby at_19) rfl ((if0 _ _).trans (feq hc17).2) (by decide) (by decide) ?_
        show Steps p.tables e below (T15.setTop (mkF m 28 #[.val (.int p0), .val (.int p1), .val (.ref (u 0)), .unset, .unset, .unset, .unset, .unset] [])) _
        refine st31 _ ?_
        show Steps p.tables e below (T31.setTop (mkF m 31 #[.val (.int p0), .val (.int p1), .val (.ref (u 0)), .unset, .unset, .unset, .unset, .unset] [(.ref (u 1))])) _
        refine XS.astoreN X31.here hx rfl (hb hby at_31) rfl rfl (l' := #[.val (.int p0), .val (.int p1), .val (.ref (u 0)), .val (.ref (u 1)), .unset, .unset, .unset, .unset]) rfl ?_
        show Steps p.tables e below (T31.setTop (mkF m 32 #[.val (.int p0), .val (.int p1), .val (.ref (u 0)), .val (.ref (u 1)), .unset, .unset, .unset, .unset] [])) _
        refine XS.aloadN X31.here hx rfl (hb hby at_32) rfl rfl ?_
        show Steps p.tables e below (T31.setTop (mkF m 33 #[.val (.int p0), .val (.int p1), .val (.ref (u 0)), .val (.ref (u 1)), .unset, .unset, .unset, .unset] [(.ref (u 0))])) _
        refine XS.aloadN X31.here hx rfl (hb hby at_33) rfl rfl ?_
        exact kt)
      obtain ⟨cq33, kq33, q33a, q33b, q33c⟩ := isOf hZ e31 (B.2.1.ext O.2)
      obtain ⟨vr33, _, ⟨T33, L33, k33, n33⟩, -, X33, ⟨Lc33, hQ33, l33, y33, z33⟩, st33⟩ := X31.virtualBack hx (y := (⟨"com/example/resolvent/resolvent/core/Scope", "through", "(Lcom/example/resolvent/resolvent/core/Scope;)Lcom/example/resolvent/resolvent/core/Scope;"⟩ : MethodName)) (z := (⟨"com/example/resolvent/resolvent/core/Scope", "through", "(Lcom/example/resolvent/resolvent/core/Scope;)Lcom/example/resolvent/resolvent/core/Scope;"⟩ : MethodName)) hown (mvT hZ (hw _ (List.mem_of_getElem? (i := 5) rfl))) (mvT hZ (hw _ (List.mem_of_getElem? (i := 6) rfl))) (notFace_of_selects (args := #[]) (mvT hZ (hw _ (List.mem_of_getElem? (i := 8) rfl)))) (mvT hZ (hw _ (List.mem_of_getElem? (i := 8) rfl))) (mvT hZ (hw _ (List.mem_of_getElem? (i := 7) rfl))) (by decide) (backOf (W := 0) (rm1 l Z a0 hw [] u (u 0) (u 1) B h0 n0 O ) hZ (hw _ (List.mem_of_getElem? (i := 9) rfl)) (hw _ (List.mem_of_getElem? (i := 1) rfl)) (by decide) (by decide)) q33a q33c (g := (mkF m 34 #[.val (.int p0), .val (.int p1), .val (.ref (u 0)), .val (.ref (u 1)), .unset, .unset, .unset, .unset] [(.ref (u 1)), (.ref (u 0))])) rfl (by rw [hml]; rfl) (Steps.refl _) (argsL := [(.ref (u 1))]) (rest := []) (lenOf own_pd0 rfl) rfl (by show 2 * 0 + _ ≤ _; exact Nat.le_of_eq rfl) (hb hby at_34) (fun _ _ => ⟨rfl, e31, (by decide : 0 + 0 ≤ _), (by decide : 0 + 0 ≤ _)⟩)
      dsimp only [Pt.U, Pt.locs, Pt.cells, Pt.slots] at X33 l33 y33 z33 st33 hQ33
      subst l33 y33 z33
      obtain ⟨hv33, N33q, e33⟩ := hQ33
      have N33 := Fr.app N0 N33q
      obtain rfl : vr33 = some (.ref (u 1)) := hv33.trans (by unfold own_r1; rw [if_pos (rfl : (u 0) = (u 0)), if_neg ((Fld.ne B.2.2.2.2.2 B.2.2.2.2.1 (by decide)) : ¬ ((u 1) = (u 0)))])
      have pre34 : ∀ t, Steps p.tables e below (T33.setTop (mkF m 41 #[.val (.int p0), .val (.int p1), .val (.ref (u 0)), .val (.ref (u 1)), .val (.ref (u 1)), .unset, .unset, .unset] [(.ref (u 0)), (.ref (u 1))])) t → Steps p.tables e below (s₁.setTop (entryFrame m #[(.int p0), (.int p1)] maxLocals)) t := fun t kt => pre32 t (by
        show Steps p.tables e below (T31.setTop (mkF m 34 #[.val (.int p0), .val (.int p1), .val (.ref (u 0)), .val (.ref (u 1)), .unset, .unset, .unset, .unset] [(.ref (u 1)), (.ref (u 0))])) _
        refine st33.trans ?_
        show Steps p.tables e below (T33.setTop (mkF m 37 #[.val (.int p0), .val (.int p1), .val (.ref (u 0)), .val (.ref (u 1)), .unset, .unset, .unset, .unset] [(.ref (u 1))])) _
        refine XS.astore X33.here hx rfl (hb hby at_37) rfl rfl (l' := #[.val (.int p0), .val (.int p1), .val (.ref (u 0)), .val (.ref (u 1)), .val (.ref (u 1)), .unset, .unset, .unset]) rfl ?_
        show Steps p.tables e below (T33.setTop (mkF m 39 #[.val (.int p0), .val (.int p1), .val (.ref (u 0)), .val (.ref (u 1)), .val (.ref (u 1)), .unset, .unset, .unset] [])) _
        refine XS.aloadN X33.here hx rfl (hb hby at_39) rfl rfl ?_
        show Steps p.tables e below (T33.setTop (mkF m 40 #[.val (.int p0), .val (.int p1), .val (.ref (u 0)), .val (.ref (u 1)), .val (.ref (u 1)), .unset, .unset, .unset] [(.ref (u 1))])) _
        refine XS.aloadN X33.here hx rfl (hb hby at_40) rfl rfl ?_
        exact kt)
      obtain ⟨cq35, kq35, q35a, q35b, q35c⟩ := isOf hZ e33 (B.2.2.2.1.ext O.2)
      obtain ⟨vr35, _, ⟨T35, L35, k35, n35⟩, -, X35, ⟨Lc35, hQ35, l35, y35, z35⟩, st35⟩ := X33.virtualBack hx (y := (⟨"com/example/resolvent/resolvent/core/Scope", "through", "(Lcom/example/resolvent/resolvent/core/Scope;)Lcom/example/resolvent/resolvent/core/Scope;"⟩ : MethodName)) (z := (⟨"com/example/resolvent/resolvent/core/Scope", "through", "(Lcom/example/resolvent/resolvent/core/Scope;)Lcom/example/resolvent/resolvent/core/Scope;"⟩ : MethodName)) hown (mvT hZ (hw _ (List.mem_of_getElem? (i := 5) rfl))) (mvT hZ (hw _ (List.mem_of_getElem? (i := 6) rfl))) (notFace_of_selects (args := #[]) (mvT hZ (hw _ (List.mem_of_getElem? (i := 8) rfl)))) (mvT hZ (hw _ (List.mem_of_getElem? (i := 8) rfl))) (mvT hZ (hw _ (List.mem_of_getElem? (i := 7) rfl))) (by decide) (backOf (W := 0) (rm1 l Z a0 hw [] u (u 1) (u 0) B h0 n0 O ) hZ (hw _ (List.mem_of_getElem? (i := 9) rfl)) (hw _ (List.mem_of_getElem? (i := 1) rfl)) (by decide) (by decide)) q35a q35c (g := (mkF m 41 #[.val (.int p0), .val (.int p1), .val (.ref (u 0)), .val (.ref (u 1)), .val (.ref (u 1)), .unset, .unset, .unset] [(.ref (u 0)), (.ref (u 1))])) rfl (by rw [hml]; rfl) (Steps.refl _) (argsL := [(.ref (u 0))]) (rest := []) (lenOf own_pd0 rfl) rfl (by show 2 * 0 + _ ≤ _; exact Nat.le_of_eq rfl) (hb hby at_41) (fun _ _ => ⟨rfl, e33, (by decide : 0 + 0 ≤ _), (by decide : 0 + 0 ≤ _)⟩)
      dsimp only [Pt.U, Pt.locs, Pt.cells, Pt.slots] at X35 l35 y35 z35 st35 hQ35
      subst l35 y35 z35
      obtain ⟨hv35, N35q, e35⟩ := hQ35
      have N35 := Fr.app N33 N35q
      obtain rfl : vr35 = some (.ref (u 1)) := hv35.trans (by unfold own_r1; rw [if_neg ((Fld.ne B.2.2.2.2.2 B.2.2.2.2.1 (by decide)) : ¬ ((u 1) = (u 0)))])
      obtain ⟨T36, X36, e36, st36⟩ := getS2 X35 hx hZ hown (host := "") (Or.inl (hw _ (List.mem_of_getElem? (i := 0) rfl))) Via.refl e35 (B.1.ext O.2) (g := (mkF m 46 #[.val (.int p0), .val (.int p1), .val (.ref (u 0)), .val (.ref (u 1)), .val (.ref (u 1)), .val (.ref (u 1)), .unset, .unset] [])) rfl (hb hby at_46)
      have pre37 : ∀ t, Steps p.tables e below (T36.setTop (mkF m 50 #[.val (.int p0), .val (.int p1), .val (.ref (u 0)), .val (.ref (u 1)), .val (.ref (u 1)), .val (.ref (u 1)), .unset, .unset] [(.ref (u 1)), (.ref (u 0))])) t → Steps p.tables e below (s₁.setTop (entryFrame m #[(.int p0), (.int p1)] maxLocals)) t := fun t kt => pre34 t (by
        show Steps p.tables e below (T33.setTop (mkF m 41 #[.val (.int p0), .val (.int p1), .val (.ref (u 0)), .val (.ref (u 1)), .val (.ref (u 1)), .unset, .unset, .unset] [(.ref (u 0)), (.ref (u 1))])) _
        refine st35.trans ?_
        show Steps p.tables e below (T35.setTop (mkF m 44 #[.val (.int p0), .val (.int p1), .val (.ref (u 0)), .val (.ref (u 1)), .val (.ref (u 1)), .unset, .unset, .unset] [(.ref (u 1))])) _
        refine XS.astore X35.here hx rfl (hb hby at_44) rfl rfl (l' := #[.val (.int p0), .val (.int p1), .val (.ref (u 0)), .val (.ref (u 1)), .val (.ref (u 1)), .val (.ref (u 1)), .unset, .unset]) rfl ?_
        show Steps p.tables e below (T35.setTop (mkF m 46 #[.val (.int p0), .val (.int p1), .val (.ref (u 0)), .val (.ref (u 1)), .val (.ref (u 1)), .val (.ref (u 1)), .unset, .unset] [])) _
        refine st36 _ ?_
        show Steps p.tables e below (T36.setTop (mkF m 49 #[.val (.int p0), .val (.int p1), .val (.ref (u 0)), .val (.ref (u 1)), .val (.ref (u 1)), .val (.ref (u 1)), .unset, .unset] [(.ref (u 0))])) _
        refine XS.aloadN X36.here hx rfl (hb hby at_49) rfl rfl ?_
        exact kt)
      obtain ⟨cq38, kq38, q38a, q38b, q38c⟩ := isOf hZ e36 (B.2.1.ext O.2)
      obtain ⟨vr38, _, ⟨T38, L38, k38, n38⟩, -, X38, ⟨Lc38, hQ38, l38, y38, z38⟩, st38⟩ := X36.virtualBack hx (y := (⟨"com/example/resolvent/resolvent/core/Scope", "through", "(Lcom/example/resolvent/resolvent/core/Scope;)Lcom/example/resolvent/resolvent/core/Scope;"⟩ : MethodName)) (z := (⟨"com/example/resolvent/resolvent/core/Scope", "through", "(Lcom/example/resolvent/resolvent/core/Scope;)Lcom/example/resolvent/resolvent/core/Scope;"⟩ : MethodName)) hown (mvT hZ (hw _ (List.mem_of_getElem? (i := 5) rfl))) (mvT hZ (hw _ (List.mem_of_getElem? (i := 6) rfl))) (notFace_of_selects (args := #[]) (mvT hZ (hw _ (List.mem_of_getElem? (i := 8) rfl)))) (mvT hZ (hw _ (List.mem_of_getElem? (i := 8) rfl))) (mvT hZ (hw _ (List.mem_of_getElem? (i := 7) rfl))) (by decide) (backOf (W := 0) (rm1 l Z a0 hw [] u (u 0) (u 1) B h0 n0 O ) hZ (hw _ (List.mem_of_getElem? (i := 9) rfl)) (hw _ (List.mem_of_getElem? (i := 1) rfl)) (by decide) (by decide)) q38a q38c (g := (mkF m 50 #[.val (.int p0), .val (.int p1), .val (.ref (u 0)), .val (.ref (u 1)), .val (.ref (u 1)), .val (.ref (u 1)), .unset, .unset] [(.ref (u 1)), (.ref (u 0))])) rfl (by rw [hml]; rfl) (Steps.refl _) (argsL := [(.ref (u 1))]) (rest := []) (lenOf own_pd0 rfl) rfl (by show 2 * 0 + _ ≤ _; exact Nat.le_of_eq rfl) (hb hby at_50) (fun _ _ => ⟨rfl, e36, (by decide : 0 + 0 ≤ _), (by decide : 0 + 0 ≤ _)⟩)
      dsimp only [Pt.U, Pt.locs, Pt.cells, Pt.slots] at X38 l38 y38 z38 st38 hQ38
      subst l38 y38 z38
      obtain ⟨hv38, N38q, e38⟩ := hQ38
      have N38 := Fr.app N35 N38q
      obtain rfl : vr38 = some (.ref (u 1)) := hv38.trans (by unfold own_r1; rw [if_pos (rfl : (u 0) = (u 0)), if_neg ((Fld.ne B.2.2.2.2.2 B.2.2.2.2.1 (by decide)) : ¬ ((u 1) = (u 0)))])
      obtain ⟨T39, X39, e39, st39⟩ := getS2 X38 hx hZ hown (host := "") (Or.inl (hw _ (List.mem_of_getElem? (i := 3) rfl))) Via.refl e38 (B.2.2.1.ext O.2) (g := (mkF m 56 #[.val (.int p0), .val (.int p1), .val (.ref (u 0)), .val (.ref (u 1)), .val (.ref (u 1)), .val (.ref (u 1)), .val (.ref (u 1)), .unset] [(.ref (u 0))])) rfl (hb hby at_56)
      have pre40 : ∀ t, Steps p.tables e below (T39.setTop (mkF m 59 #[.val (.int p0), .val (.int p1), .val (.ref (u 0)), .val (.ref (u 1)), .val (.ref (u 1)), .val (.ref (u 1)), .val (.ref (u 1)), .unset] [(.ref (u 1)), (.ref (u 0))])) t → Steps p.tables e below (s₁.setTop (entryFrame m #[(.int p0), (.int p1)] maxLocals)) t := fun t kt => pre37 t (by
        show Steps p.tables e below (T36.setTop (mkF m 50 #[.val (.int p0), .val (.int p1), .val (.ref (u 0)), .val (.ref (u 1)), .val (.ref (u 1)), .val (.ref (u 1)), .unset, .unset] [(.ref (u 1)), (.ref (u 0))])) _
        refine st38.trans ?_
        show Steps p.tables e below (T38.setTop (mkF m 53 #[.val (.int p0), .val (.int p1), .val (.ref (u 0)), .val (.ref (u 1)), .val (.ref (u 1)), .val (.ref (u 1)), .unset, .unset] [(.ref (u 1))])) _
        refine XS.astore X38.here hx rfl (hb hby at_53) rfl rfl (l' := #[.val (.int p0), .val (.int p1), .val (.ref (u 0)), .val (.ref (u 1)), .val (.ref (u 1)), .val (.ref (u 1)), .val (.ref (u 1)), .unset]) rfl ?_
        show Steps p.tables e below (T38.setTop (mkF m 55 #[.val (.int p0), .val (.int p1), .val (.ref (u 0)), .val (.ref (u 1)), .val (.ref (u 1)), .val (.ref (u 1)), .val (.ref (u 1)), .unset] [])) _
        refine XS.aloadN X38.here hx rfl (hb hby at_55) rfl rfl ?_
        show Steps p.tables e below (T38.setTop (mkF m 56 #[.val (.int p0), .val (.int p1), .val (.ref (u 0)), .val (.ref (u 1)), .val (.ref (u 1)), .val (.ref (u 1)), .val (.ref (u 1)), .unset] [(.ref (u 0))])) _
        refine st39 _ ?_
        exact kt)
      obtain ⟨cq41, kq41, q41a, q41b, q41c⟩ := isOf hZ e39 (B.2.1.ext O.2)
      obtain ⟨vr41, _, ⟨T41, L41, k41, n41⟩, -, X41, ⟨Lc41, hQ41, l41, y41, z41⟩, st41⟩ := X39.virtualBack hx (y := (⟨"com/example/resolvent/resolvent/core/Scope", "through", "(Lcom/example/resolvent/resolvent/core/Scope;)Lcom/example/resolvent/resolvent/core/Scope;"⟩ : MethodName)) (z := (⟨"com/example/resolvent/resolvent/core/Scope", "through", "(Lcom/example/resolvent/resolvent/core/Scope;)Lcom/example/resolvent/resolvent/core/Scope;"⟩ : MethodName)) hown (mvT hZ (hw _ (List.mem_of_getElem? (i := 5) rfl))) (mvT hZ (hw _ (List.mem_of_getElem? (i := 6) rfl))) (notFace_of_selects (args := #[]) (mvT hZ (hw _ (List.mem_of_getElem? (i := 8) rfl)))) (mvT hZ (hw _ (List.mem_of_getElem? (i := 8) rfl))) (mvT hZ (hw _ (List.mem_of_getElem? (i := 7) rfl))) (by decide) (backOf (W := 0) (rm1 l Z a0 hw [] u (u 0) (u 1) B h0 n0 O ) hZ (hw _ (List.mem_of_getElem? (i := 9) rfl)) (hw _ (List.mem_of_getElem? (i := 1) rfl)) (by decide) (by decide)) q41a q41c (g := (mkF m 59 #[.val (.int p0), .val (.int p1), .val (.ref (u 0)), .val (.ref (u 1)), .val (.ref (u 1)), .val (.ref (u 1)), .val (.ref (u 1)), .unset] [(.ref (u 1)), (.ref (u 0))])) rfl (by rw [hml]; rfl) (Steps.refl _) (argsL := [(.ref (u 1))]) (rest := []) (lenOf own_pd0 rfl) rfl (by show 2 * 0 + _ ≤ _; exact Nat.le_of_eq rfl) (hb hby at_59) (fun _ _ => ⟨rfl, e39, (by decide : 0 + 0 ≤ _), (by decide : 0 + 0 ≤ _)⟩)
      dsimp only [Pt.U, Pt.locs, Pt.cells, Pt.slots] at X41 l41 y41 z41 st41 hQ41
      subst l41 y41 z41
      obtain ⟨hv41, N41q, e41⟩ := hQ41
      have N41 := Fr.app N38 N41q
      obtain rfl : vr41 = some (.ref (u 1)) := hv41.trans (by unfold own_r1; rw [if_pos (rfl : (u 0) = (u 0)), if_neg ((Fld.ne B.2.2.2.2.2 B.2.2.2.2.1 (by decide)) : ¬ ((u 1) = (u 0)))])
      obtain ⟨T42, X42, e42, st42⟩ := getS2 X41 hx hZ hown (host := "") (Or.inl (hw _ (List.mem_of_getElem? (i := 3) rfl))) Via.refl e41 (B.2.2.1.ext O.2) (g := (mkF m 84 #[.val (.int p0), .val (.int p1), .val (.ref (u 0)), .val (.ref (u 1)), .val (.ref (u 1)), .val (.ref (u 1)), .val (.ref (u 1)), .val (.ref (u 1))] [(.ref (u 1))])) rfl (hb hby at_84)
      obtain ⟨fs, hr, hrun, hended, hW, hsame⟩ := X42.leave (v := some (.int (1 : Int32))) (fun h => by rw [Bd.returns] at h; cases h)
      refine ⟨_, _, pre40 _ ?_, hrun, hended, _, _, rfl, ?_, ⟨_, rfl⟩, hW, hsame.mono (by decide) (by decide)⟩
      · show Steps p.tables e below (T39.setTop (mkF m 59 #[.val (.int p0), .val (.int p1), .val (.ref (u 0)), .val (.ref (u 1)), .val (.ref (u 1)), .val (.ref (u 1)), .val (.ref (u 1)), .unset] [(.ref (u 1)), (.ref (u 0))])) _
        refine st41.trans ?_
        show Steps p.tables e below (T41.setTop (mkF m 62 #[.val (.int p0), .val (.int p1), .val (.ref (u 0)), .val (.ref (u 1)), .val (.ref (u 1)), .val (.ref (u 1)), .val (.ref (u 1)), .unset] [(.ref (u 1))])) _
        refine XS.astore X41.here hx rfl (hb hby at_62) rfl rfl (l' := #[.val (.int p0), .val (.int p1), .val (.ref (u 0)), .val (.ref (u 1)), .val (.ref (u 1)), .val (.ref (u 1)), .val (.ref (u 1)), .val (.ref (u 1))]) rfl ?_
        show Steps p.tables e below (T41.setTop (mkF m 64 #[.val (.int p0), .val (.int p1), .val (.ref (u 0)), .val (.ref (u 1)), .val (.ref (u 1)), .val (.ref (u 1)), .val (.ref (u 1)), .val (.ref (u 1))] [])) _
        refine XS.aload X41.here hx rfl (hb hby at_64) rfl rfl ?_
        show Steps p.tables e below (T41.setTop (mkF m 66 #[.val (.int p0), .val (.int p1), .val (.ref (u 0)), .val (.ref (u 1)), .val (.ref (u 1)), .val (.ref (u 1)), .val (.ref (u 1)), .val (.ref (u 1))] [(.ref (u 1))])) _
        refine XS.ifnullNo X41.here hx rfl (hb hby at_66) rfl ?_
        show Steps p.tables e below (T41.setTop (mkF m 69 #[.val (.int p0), .val (.int p1), .val (.ref (u 0)), .val (.ref (u 1)), .val (.ref (u 1)), .val (.ref (u 1)), .val (.ref (u 1)), .val (.ref (u 1))] [])) _
        refine XS.aload X41.here hx rfl (hb hby at_69) rfl rfl ?_
        show Steps p.tables e below (T41.setTop (mkF m 71 #[.val (.int p0), .val (.int p1), .val (.ref (u 0)), .val (.ref (u 1)), .val (.ref (u 1)), .val (.ref (u 1)), .val (.ref (u 1)), .val (.ref (u 1))] [(.ref (u 1))])) _
        refine XS.aload X41.here hx rfl (hb hby at_71) rfl rfl ?_
        show Steps p.tables e below (T41.setTop (mkF m 73 #[.val (.int p0), .val (.int p1), .val (.ref (u 0)), .val (.ref (u 1)), .val (.ref (u 1)), .val (.ref (u 1)), .val (.ref (u 1)), .val (.ref (u 1))] [(.ref (u 1)), (.ref (u 1))])) _
        refine Jvm.RoadKit.acmp (g := (mkF m 73 #[.val (.int p0), .val (.int p1), .val (.ref (u 0)), .val (.ref (u 1)), .val (.ref (u 1)), .val (.ref (u 1)), .val (.ref (u 1)), .val (.ref (u 1))] [(.ref (u 1)), (.ref (u 1))])) X41 hx rfl rfl rfl (pc0 := 73) (pc' := 76) (same := true) rfl (hb hby at_73) rfl (decide_eq_true rfl) (by decide) (by decide) ?_
        show Steps p.tables e below (T41.setTop (mkF m 76 #[.val (.int p0), .val (.int p1), .val (.ref (u 0)), .val (.ref (u 1)), .val (.ref (u 1)), .val (.ref (u 1)), .val (.ref (u 1)), .val (.ref (u 1))] [])) _
        refine XS.aload X41.here hx rfl (hb hby at_76) rfl rfl ?_
        show Steps p.tables e below (T41.setTop (mkF m 78 #[.val (.int p0), .val (.int p1), .val (.ref (u 0)), .val (.ref (u 1)), .val (.ref (u 1)), .val (.ref (u 1)), .val (.ref (u 1)), .val (.ref (u 1))] [(.ref (u 1))])) _
        refine XS.aloadN X41.here hx rfl (hb hby at_78) rfl rfl ?_
        show Steps p.tables e below (T41.setTop (mkF m 79 #[.val (.int p0), .val (.int p1), .val (.ref (u 0)), .val (.ref (u 1)), .val (.ref (u 1)), .val (.ref (u 1)), .val (.ref (u 1)), .val (.ref (u 1))] [(.ref (u 1)), (.ref (u 1))])) _
        refine Jvm.RoadKit.acmp (g := (mkF m 79 #[.val (.int p0), .val (.int p1), .val (.ref (u 0)), .val (.ref (u 1)), .val (.ref (u 1)), .val (.ref (u 1)), .val (.ref (u 1)), .val (.ref (u 1))] [(.ref (u 1)), (.ref (u 1))])) X41 hx rfl rfl rfl (pc0 := 79) (pc' := 82) (same := true) rfl (hb hby at_79) rfl (decide_eq_true rfl) (by decide) (by decide) ?_
        show Steps p.tables e below (T41.setTop (mkF m 82 #[.val (.int p0), .val (.int p1), .val (.ref (u 0)), .val (.ref (u 1)), .val (.ref (u 1)), .val (.ref (u 1)), .val (.ref (u 1)), .val (.ref (u 1))] [])) _
        refine XS.aload X41.here hx rfl (hb hby at_82) rfl rfl ?_
        show Steps p.tables e below (T41.setTop (mkF m 84 #[.val (.int p0), .val (.int p1), .val (.ref (u 0)), .val (.ref (u 1)), .val (.ref (u 1)), .val (.ref (u 1)), .val (.ref (u 1)), .val (.ref (u 1))] [(.ref (u 1))])) _
        refine st42 _ ?_
        show Steps p.tables e below (T42.setTop (mkF m 87 #[.val (.int p0), .val (.int p1), .val (.ref (u 0)), .val (.ref (u 1)), .val (.ref (u 1)), .val (.ref (u 1)), .val (.ref (u 1)), .val (.ref (u 1))] [(.ref (u 1)), (.ref (u 1))])) _
        refine Jvm.RoadKit.acmp (g := (mkF m 87 #[.val (.int p0), .val (.int p1), .val (.ref (u 0)), .val (.ref (u 1)), .val (.ref (u 1)), .val (.ref (u 1)), .val (.ref (u 1)), .val (.ref (u 1))] [(.ref (u 1)), (.ref (u 1))])) X42 hx rfl rfl rfl (pc0 := 87) (pc' := 90) (same := true) rfl (hb hby at_87) rfl (decide_eq_true rfl) (by decide) (by decide) ?_
        show Steps p.tables e below (T42.setTop (mkF m 90 #[.val (.int p0), .val (.int p1), .val (.ref (u 0)), .val (.ref (u 1)), .val (.ref (u 1)), .val (.ref (u 1)), .val (.ref (u 1)), .val (.ref (u 1))] [])) _
        refine XS.iconst X42.here hx rfl (hb hby at_90) ?_
        show Steps p.tables e below (T42.setTop (mkF m 91 #[.val (.int p0), .val (.int p1), .val (.ref (u 0)), .val (.ref (u 1)), .val (.ref (u 1)), .val (.ref (u 1)), .val (.ref (u 1)), .val (.ref (u 1))] [(.int (1 : Int32))])) _
        refine XS.goto X42.here hx rfl (pc0 := 91) (pc' := 95) rfl (hb hby at_91) (by decide) (by decide) ?_
        show Steps p.tables e below (T42.setTop (mkF m 95 #[.val (.int p0), .val (.int p1), .val (.ref (u 0)), .val (.ref (u 1)), .val (.ref (u 1)), .val (.ref (u 1)), .val (.ref (u 1)), .val (.ref (u 1))] [(.int (1 : Int32))])) _
        exact retN X42 hx (t := .boolean) Bd.returns (by simp) (hb hby at_95) hr
      · show own_Q0 Z u p0 p1 h0 n0 _ T42.heap _
        rw [e42]
        exact ⟨rfl, N41, trivial⟩
  · --
    obtain ⟨T44, X44, e44, st44⟩ := getS2 X0 hx hZ hown (host := "") (Or.inl (hw _ (List.mem_of_getElem? (i := 3) rfl))) Via.refl e0 (B.2.2.1.ext O.2) (g := (mkF m 12 #[.val (.int p0), .val (.int p1), .unset, .unset, .unset, .unset, .unset, .unset] [])) rfl (hb hby at_12)
    have pre45 : ∀ t, Steps p.tables e below (T44.setTop (mkF m 19 #[.val (.int p0), .val (.int p1), .val (.ref (u 1)), .unset, .unset, .unset, .unset, .unset] [(.int (p1 &&& (1 : Int32)))])) t → Steps p.tables e below (s₁.setTop (entryFrame m #[(.int p0), (.int p1)] maxLocals)) t := fun t kt => pre13 t (by
      show Steps p.tables e below (s₁.setTop (mkF m 3 #[.val (.int p0), .val (.int p1), .unset, .unset, .unset, .unset, .unset, .unset] [(.int (p0 &&& (1 : Int32)))])) _
      refine XS.ifYes X0.here hx rfl (pc0 := 3) (pc' := 12) rfl (hb hby at_3) rfl ((if0 _ _).trans (feq hc14).2) (by decide) (by decide) ?_
      show Steps p.tables e below (s₁.setTop (mkF m 12 #[.val (.int p0), .val (.int p1), .unset, .unset, .unset, .unset, .unset, .unset] [])) _
      refine st44 _ ?_
      show Steps p.tables e below (T44.setTop (mkF m 15 #[.val (.int p0), .val (.int p1), .unset, .unset, .unset, .unset, .unset, .unset] [(.ref (u 1))])) _
      refine XS.astoreN X44.here hx rfl (hb hby at_15) rfl rfl (l' := #[.val (.int p0), .val (.int p1), .val (.ref (u 1)), .unset, .unset, .unset, .unset, .unset]) rfl ?_
      show Steps p.tables e below (T44.setTop (mkF m 16 #[.val (.int p0), .val (.int p1), .val (.ref (u 1)), .unset, .unset, .unset, .unset, .unset] [])) _
      refine XS.iloadN X44.here hx rfl (hb hby at_16) rfl ?_
      show Steps p.tables e below (T44.setTop (mkF m 17 #[.val (.int p0), .val (.int p1), .val (.ref (u 1)), .unset, .unset, .unset, .unset, .unset] [(.int p1)])) _
      refine XS.iconst X44.here hx rfl (hb hby at_17) ?_
      show Steps p.tables e below (T44.setTop (mkF m 18 #[.val (.int p0), .val (.int p1), .val (.ref (u 1)), .unset, .unset, .unset, .unset, .unset] [(.int (1 : Int32)), (.int p1)])) _
      refine XS.iand X44.here hx rfl (hb hby at_18) rfl ?_
      exact kt)
    by_cases hc46 : (p1 &&& (1 : Int32)) = (0 : Int32)
    · --
      obtain ⟨T47, X47, e47, st47⟩ := getS2 X44 hx hZ hown (host := "") (Or.inl (hw _ (List.mem_of_getElem? (i := 0) rfl))) Via.refl e44 (B.1.ext O.2) (g := (mkF m 22 #[.val (.int p0), .val (.int p1), .val (.ref (u 1)), .unset, .unset, .unset, .unset, .unset] [])) rfl (hb hby at_22)
      have pre48 : ∀ t, Steps p.tables e below (T47.setTop (mkF m 34 #[.val (.int p0), .val (.int p1), .val (.ref (u 1)), .val (.ref (u 0)), .unset, .unset, .unset, .unset] [(.ref (u 0)), (.ref (u 1))])) t → Steps p.tables e below (s₁.setTop (entryFrame m #[(.int p0), (.int p1)] maxLocals)) t := fun t kt => pre45 t (by
        show Steps p.tables e below (T44.setTop (mkF m 19 #[.val (.int p0), .val (.int p1), .val (.ref (u 1)), .unset, .unset, .unset, .unset, .unset] [(.int (p1 &&& (1 : Int32)))])) _
        refine XS.ifNo X44.here hx rfl (hb hby at_19) rfl ((if0 _ _).trans (teq hc46).2) ?_
        show Steps p.tables e below (T44.setTop (mkF m 22 #[.val (.int p0), .val (.int p1), .val (.ref (u 1)), .unset, .unset, .unset, .unset, .unset] [])) _
        refine st47 _ ?_
        show Steps p.tables e below (T47.setTop (mkF m 25 #[.val (.int p0), .val (.int p1), .val (.ref (u 1)), .unset, .unset, .unset, .unset, .unset] [(.ref (u 0))])) _
        refine XS.goto X47.here hx rfl (pc0 := 25) (pc' := 31) rfl (hb hby at_25) (by decide) (by decide) ?_
        show Steps p.tables e below (T47.setTop (mkF m 31 #[.val (.int p0), .val (.int p1), .val (.ref (u 1)), .unset, .unset, .unset, .unset, .unset] [(.ref (u 0))])) _
        refine XS.astoreN X47.here hx rfl (hb hby at_31) rfl rfl (l' := #[.val (.int p0), .val (.int p1), .val (.ref (u 1)), .val (.ref (u 0)), .unset, .unset, .unset, .unset]) rfl ?_
        show Steps p.tables e below (T47.setTop (mkF m 32 #[.val (.int p0), .val (.int p1), .val (.ref (u 1)), .val (.ref (u 0)), .unset, .unset, .unset, .unset] [])) _
        refine XS.aloadN X47.here hx rfl (hb hby at_32) rfl rfl ?_
        show Steps p.tables e below (T47.setTop (mkF m 33 #[.val (.int p0), .val (.int p1), .val (.ref (u 1)), .val (.ref (u 0)), .unset, .unset, .unset, .unset] [(.ref (u 1))])) _
        refine XS.aloadN X47.here hx rfl (hb hby at_33) rfl rfl ?_
        exact kt)
      obtain ⟨cq49, kq49, q49a, q49b, q49c⟩ := isOf hZ e47 (B.2.2.2.1.ext O.2)
      obtain ⟨vr49, _, ⟨T49, L49, k49, n49⟩, -, X49, ⟨Lc49, hQ49, l49, y49, z49⟩, st49⟩ := X47.virtualBack hx (y := (⟨"com/example/resolvent/resolvent/core/Scope", "through", "(Lcom/example/resolvent/resolvent/core/Scope;)Lcom/example/resolvent/resolvent/core/Scope;"⟩ : MethodName)) (z := (⟨"com/example/resolvent/resolvent/core/Scope", "through", "(Lcom/example/resolvent/resolvent/core/Scope;)Lcom/example/resolvent/resolvent/core/Scope;"⟩ : MethodName)) hown (mvT hZ (hw _ (List.mem_of_getElem? (i := 5) rfl))) (mvT hZ (hw _ (List.mem_of_getElem? (i := 6) rfl))) (notFace_of_selects (args := #[]) (mvT hZ (hw _ (List.mem_of_getElem? (i := 8) rfl)))) (mvT hZ (hw _ (List.mem_of_getElem? (i := 8) rfl))) (mvT hZ (hw _ (List.mem_of_getElem? (i := 7) rfl))) (by decide) (backOf (W := 0) (rm1 l Z a0 hw [] u (u 1) (u 0) B h0 n0 O ) hZ (hw _ (List.mem_of_getElem? (i := 9) rfl)) (hw _ (List.mem_of_getElem? (i := 1) rfl)) (by decide) (by decide)) q49a q49c (g := (mkF m 34 #[.val (.int p0), .val (.int p1), .val (.ref (u 1)), .val (.ref (u 0)), .unset, .unset, .unset, .unset] [(.ref (u 0)), (.ref (u 1))])) rfl (by rw [hml]; rfl) (Steps.refl _) (argsL := [(.ref (u 0))]) (rest := []) (lenOf own_pd0 rfl) rfl (by show 2 * 0 + _ ≤ _; exact Nat.le_of_eq rfl) (hb hby at_34) (fun _ _ => ⟨rfl, e47, (by decide : 0 + 0 ≤ _), (by decide : 0 + 0 ≤ _)⟩)
      dsimp only [Pt.U, Pt.locs, Pt.cells, Pt.slots] at X49 l49 y49 z49 st49 hQ49
      subst l49 y49 z49
      obtain ⟨hv49, N49q, e49⟩ := hQ49
      have N49 := Fr.app N0 N49q
      obtain rfl : vr49 = some (.ref (u 1)) := hv49.trans (by unfold own_r1; rw [if_neg ((Fld.ne B.2.2.2.2.2 B.2.2.2.2.1 (by decide)) : ¬ ((u 1) = (u 0)))])
      have pre50 : ∀ t, Steps p.tables e below (T49.setTop (mkF m 41 #[.val (.int p0), .val (.int p1), .val (.ref (u 1)), .val (.ref (u 0)), .val (.ref (u 1)), .unset, .unset, .unset] [(.ref (u 1)), (.ref (u 0))])) t → Steps p.tables e below (s₁.setTop (entryFrame m #[(.int p0), (.int p1)] maxLocals)) t := fun t kt => pre48 t (by
        show Steps p.tables e below (T47.setTop (mkF m 34 #[.val (.int p0), .val (.int p1), .val (.ref (u 1)), .val (.ref (u 0)), .unset, .unset, .unset, .unset] [(.ref (u 0)), (.ref (u 1))])) _
        refine st49.trans ?_
        show Steps p.tables e below (T49.setTop (mkF m 37 #[.val (.int p0), .val (.int p1), .val (.ref (u 1)), .val (.ref (u 0)), .unset, .unset, .unset, .unset] [(.ref (u 1))])) _
        refine XS.astore X49.here hx rfl (hb hby at_37) rfl rfl (l' := #[.val (.int p0), .val (.int p1), .val (.ref (u 1)), .val (.ref (u 0)), .val (.ref (u 1)), .unset, .unset, .unset]) rfl ?_
        show Steps p.tables e below (T49.setTop (mkF m 39 #[.val (.int p0), .val (.int p1), .val (.ref (u 1)), .val (.ref (u 0)), .val (.ref (u 1)), .unset, .unset, .unset] [])) _
        refine XS.aloadN X49.here hx rfl (hb hby at_39) rfl rfl ?_
        show Steps p.tables e below (T49.setTop (mkF m 40 #[.val (.int p0), .val (.int p1), .val (.ref (u 1)), .val (.ref (u 0)), .val (.ref (u 1)), .unset, .unset, .unset] [(.ref (u 0))])) _
        refine XS.aloadN X49.here hx rfl (hb hby at_40) rfl rfl ?_
        exact kt)
      obtain ⟨cq51, kq51, q51a, q51b, q51c⟩ := isOf hZ e49 (B.2.1.ext O.2)
      obtain ⟨vr51, _, ⟨T51, L51, k51, n51⟩, -, X51, ⟨Lc51, hQ51, l51, y51, z51⟩, st51⟩ := X49.virtualBack hx (y := (⟨"com/example/resolvent/resolvent/core/Scope", "through", "(Lcom/example/resolvent/resolvent/core/Scope;)Lcom/example/resolvent/resolvent/core/Scope;"⟩ : MethodName)) (z := (⟨"com/example/resolvent/resolvent/core/Scope", "through", "(Lcom/example/resolvent/resolvent/core/Scope;)Lcom/example/resolvent/resolvent/core/Scope;"⟩ : MethodName)) hown (mvT hZ (hw _ (List.mem_of_getElem? (i := 5) rfl))) (mvT hZ (hw _ (List.mem_of_getElem? (i := 6) rfl))) (notFace_of_selects (args := #[]) (mvT hZ (hw _ (List.mem_of_getElem? (i := 8) rfl)))) (mvT hZ (hw _ (List.mem_of_getElem? (i := 8) rfl))) (mvT hZ (hw _ (List.mem_of_getElem? (i := 7) rfl))) (by decide) (backOf (W := 0) (rm1 l Z a0 hw [] u (u 0) (u 1) B h0 n0 O ) hZ (hw _ (List.mem_of_getElem? (i := 9) rfl)) (hw _ (List.mem_of_getElem? (i := 1) rfl)) (by decide) (by decide)) q51a q51c (g := (mkF m 41 #[.val (.int p0), .val (.int p1), .val (.ref (u 1)), .val (.ref (u 0)), .val (.ref (u 1)), .unset, .unset, .unset] [(.ref (u 1)), (.ref (u 0))])) rfl (by rw [hml]; rfl) (Steps.refl _) (argsL := [(.ref (u 1))]) (rest := []) (lenOf own_pd0 rfl) rfl (by show 2 * 0 + _ ≤ _; exact Nat.le_of_eq rfl) (hb hby at_41) (fun _ _ => ⟨rfl, e49, (by decide : 0 + 0 ≤ _), (by decide : 0 + 0 ≤ _)⟩)
      dsimp only [Pt.U, Pt.locs, Pt.cells, Pt.slots] at X51 l51 y51 z51 st51 hQ51
      subst l51 y51 z51
      obtain ⟨hv51, N51q, e51⟩ := hQ51
      have N51 := Fr.app N49 N51q
      obtain rfl : vr51 = some (.ref (u 1)) := hv51.trans (by unfold own_r1; rw [if_pos (rfl : (u 0) = (u 0)), if_neg ((Fld.ne B.2.2.2.2.2 B.2.2.2.2.1 (by decide)) : ¬ ((u 1) = (u 0)))])
      obtain ⟨T52, X52, e52, st52⟩ := getS2 X51 hx hZ hown (host := "") (Or.inl (hw _ (List.mem_of_getElem? (i := 0) rfl))) Via.refl e51 (B.1.ext O.2) (g := (mkF m 46 #[.val (.int p0), .val (.int p1), .val (.ref (u 1)), .val (.ref (u 0)), .val (.ref (u 1)), .val (.ref (u 1)), .unset, .unset] [])) rfl (hb hby at_46)
      have pre53 : ∀ t, Steps p.tables e below (T52.setTop (mkF m 50 #[.val (.int p0), .val (.int p1), .val (.ref (u 1)), .val (.ref (u 0)), .val (.ref (u 1)), .val (.ref (u 1)), .unset, .unset] [(.ref (u 0)), (.ref (u 0))])) t → Steps p.tables e below (s₁.setTop (entryFrame m #[(.int p0), (.int p1)] maxLocals)) t := fun t kt => pre50 t (by
        show Steps p.tables e below (T49.setTop (mkF m 41 #[.val (.int p0), .val (.int p1), .val (.ref (u 1)), .val (.ref (u 0)), .val (.ref (u 1)), .unset, .unset, .unset] [(.ref (u 1)), (.ref (u 0))])) _
        refine st51.trans ?_
        show Steps p.tables e below (T51.setTop (mkF m 44 #[.val (.int p0), .val (.int p1), .val (.ref (u 1)), .val (.ref (u 0)), .val (.ref (u 1)), .unset, .unset, .unset] [(.ref (u 1))])) _
        refine XS.astore X51.here hx rfl (hb hby at_44) rfl rfl (l' := #[.val (.int p0), .val (.int p1), .val (.ref (u 1)), .val (.ref (u 0)), .val (.ref (u 1)), .val (.ref (u 1)), .unset, .unset]) rfl ?_
        show Steps p.tables e below (T51.setTop (mkF m 46 #[.val (.int p0), .val (.int p1), .val (.ref (u 1)), .val (.ref (u 0)), .val (.ref (u 1)), .val (.ref (u 1)), .unset, .unset] [])) _
        refine st52 _ ?_
        show Steps p.tables e below (T52.setTop (mkF m 49 #[.val (.int p0), .val (.int p1), .val (.ref (u 1)), .val (.ref (u 0)), .val (.ref (u 1)), .val (.ref (u 1)), .unset, .unset] [(.ref (u 0))])) _
        refine XS.aloadN X52.here hx rfl (hb hby at_49) rfl rfl ?_
        exact kt)
      obtain ⟨cq54, kq54, q54a, q54b, q54c⟩ := isOf hZ e52 (B.2.1.ext O.2)
      obtain ⟨vr54, _, ⟨T54, L54, k54, n54⟩, -, X54, ⟨Lc54, hQ54, l54, y54, z54⟩, st54⟩ := X52.virtualBack hx (y := (⟨"com/example/resolvent/resolvent/core/Scope", "through", "(Lcom/example/resolvent/resolvent/core/Scope;)Lcom/example/resolvent/resolvent/core/Scope;"⟩ : MethodName)) (z := (⟨"com/example/resolvent/resolvent/core/Scope", "through", "(Lcom/example/resolvent/resolvent/core/Scope;)Lcom/example/resolvent/resolvent/core/Scope;"⟩ : MethodName)) hown (mvT hZ (hw _ (List.mem_of_getElem? (i := 5) rfl))) (mvT hZ (hw _ (List.mem_of_getElem? (i := 6) rfl))) (notFace_of_selects (args := #[]) (mvT hZ (hw _ (List.mem_of_getElem? (i := 8) rfl)))) (mvT hZ (hw _ (List.mem_of_getElem? (i := 8) rfl))) (mvT hZ (hw _ (List.mem_of_getElem? (i := 7) rfl))) (by decide) (backOf (W := 0) (rm1 l Z a0 hw [] u (u 0) (u 0) B h0 n0 O ) hZ (hw _ (List.mem_of_getElem? (i := 9) rfl)) (hw _ (List.mem_of_getElem? (i := 1) rfl)) (by decide) (by decide)) q54a q54c (g := (mkF m 50 #[.val (.int p0), .val (.int p1), .val (.ref (u 1)), .val (.ref (u 0)), .val (.ref (u 1)), .val (.ref (u 1)), .unset, .unset] [(.ref (u 0)), (.ref (u 0))])) rfl (by rw [hml]; rfl) (Steps.refl _) (argsL := [(.ref (u 0))]) (rest := []) (lenOf own_pd0 rfl) rfl (by show 2 * 0 + _ ≤ _; exact Nat.le_of_eq rfl) (hb hby at_50) (fun _ _ => ⟨rfl, e52, (by decide : 0 + 0 ≤ _), (by decide : 0 + 0 ≤ _)⟩)
      dsimp only [Pt.U, Pt.locs, Pt.cells, Pt.slots] at X54 l54 y54 z54 st54 hQ54
      subst l54 y54 z54
      obtain ⟨hv54, N54q, e54⟩ := hQ54
      have N54 := Fr.app N51 N54q
      obtain rfl : vr54 = some (.ref (u 0)) := hv54.trans (by unfold own_r1; rw [if_pos (rfl : (u 0) = (u 0)), if_pos (rfl : (u 0) = (u 0))])
      obtain ⟨T55, X55, e55, st55⟩ := getS2 X54 hx hZ hown (host := "") (Or.inl (hw _ (List.mem_of_getElem? (i := 3) rfl))) Via.refl e54 (B.2.2.1.ext O.2) (g := (mkF m 56 #[.val (.int p0), .val (.int p1), .val (.ref (u 1)), .val (.ref (u 0)), .val (.ref (u 1)), .val (.ref (u 1)), .val (.ref (u 0)), .unset] [(.ref (u 1))])) rfl (hb hby at_56)
      have pre56 : ∀ t, Steps p.tables e below (T55.setTop (mkF m 59 #[.val (.int p0), .val (.int p1), .val (.ref (u 1)), .val (.ref (u 0)), .val (.ref (u 1)), .val (.ref (u 1)), .val (.ref (u 0)), .unset] [(.ref (u 1)), (.ref (u 1))])) t → Steps p.tables e below (s₁.setTop (entryFrame m #[(.int p0), (.int p1)] maxLocals)) t := fun t kt => pre53 t (by
        show Steps p.tables e below (T52.setTop (mkF m 50 #[.val (.int p0), .val (.int p1), .val (.ref (u 1)), .val (.ref (u 0)), .val (.ref (u 1)), .val (.ref (u 1)), .unset, .unset] [(.ref (u 0)), (.ref (u 0))])) _
        refine st54.trans ?_
        show Steps p.tables e below (T54.setTop (mkF m 53 #[.val (.int p0), .val (.int p1), .val (.ref (u 1)), .val (.ref (u 0)), .val (.ref (u 1)), .val (.ref (u 1)), .unset, .unset] [(.ref (u 0))])) _
        refine XS.astore X54.here hx rfl (hb hby at_53) rfl rfl (l' := #[.val (.int p0), .val (.int p1), .val (.ref (u 1)), .val (.ref (u 0)), .val (.ref (u 1)), .val (.ref (u 1)), .val (.ref (u 0)), .unset]) rfl ?_
        show Steps p.tables e below (T54.setTop (mkF m 55 #[.val (.int p0), .val (.int p1), .val (.ref (u 1)), .val (.ref (u 0)), .val (.ref (u 1)), .val (.ref (u 1)), .val (.ref (u 0)), .unset] [])) _
        refine XS.aloadN X54.here hx rfl (hb hby at_55) rfl rfl ?_
        show Steps p.tables e below (T54.setTop (mkF m 56 #[.val (.int p0), .val (.int p1), .val (.ref (u 1)), .val (.ref (u 0)), .val (.ref (u 1)), .val (.ref (u 1)), .val (.ref (u 0)), .unset] [(.ref (u 1))])) _
        refine st55 _ ?_
        exact kt)
      obtain ⟨cq57, kq57, q57a, q57b, q57c⟩ := isOf hZ e55 (B.2.2.2.1.ext O.2)
      obtain ⟨vr57, _, ⟨T57, L57, k57, n57⟩, -, X57, ⟨Lc57, hQ57, l57, y57, z57⟩, st57⟩ := X55.virtualBack hx (y := (⟨"com/example/resolvent/resolvent/core/Scope", "through", "(Lcom/example/resolvent/resolvent/core/Scope;)Lcom/example/resolvent/resolvent/core/Scope;"⟩ : MethodName)) (z := (⟨"com/example/resolvent/resolvent/core/Scope", "through", "(Lcom/example/resolvent/resolvent/core/Scope;)Lcom/example/resolvent/resolvent/core/Scope;"⟩ : MethodName)) hown (mvT hZ (hw _ (List.mem_of_getElem? (i := 5) rfl))) (mvT hZ (hw _ (List.mem_of_getElem? (i := 6) rfl))) (notFace_of_selects (args := #[]) (mvT hZ (hw _ (List.mem_of_getElem? (i := 8) rfl)))) (mvT hZ (hw _ (List.mem_of_getElem? (i := 8) rfl))) (mvT hZ (hw _ (List.mem_of_getElem? (i := 7) rfl))) (by decide) (backOf (W := 0) (rm1 l Z a0 hw [] u (u 1) (u 1) B h0 n0 O ) hZ (hw _ (List.mem_of_getElem? (i := 9) rfl)) (hw _ (List.mem_of_getElem? (i := 1) rfl)) (by decide) (by decide)) q57a q57c (g := (mkF m 59 #[.val (.int p0), .val (.int p1), .val (.ref (u 1)), .val (.ref (u 0)), .val (.ref (u 1)), .val (.ref (u 1)), .val (.ref (u 0)), .unset] [(.ref (u 1)), (.ref (u 1))])) rfl (by rw [hml]; rfl) (Steps.refl _) (argsL := [(.ref (u 1))]) (rest := []) (lenOf own_pd0 rfl) rfl (by show 2 * 0 + _ ≤ _; exact Nat.le_of_eq rfl) (hb hby at_59) (fun _ _ => ⟨rfl, e55, (by decide : 0 + 0 ≤ _), (by decide : 0 + 0 ≤ _)⟩)
      dsimp only [Pt.U, Pt.locs, Pt.cells, Pt.slots] at X57 l57 y57 z57 st57 hQ57
      subst l57 y57 z57
      obtain ⟨hv57, N57q, e57⟩ := hQ57
      have N57 := Fr.app N54 N57q
      obtain rfl : vr57 = some (.ref (u 1)) := hv57.trans (by unfold own_r1; rw [if_neg ((Fld.ne B.2.2.2.2.2 B.2.2.2.2.1 (by decide)) : ¬ ((u 1) = (u 0)))])
      obtain ⟨T58, X58, e58, st58⟩ := getS2 X57 hx hZ hown (host := "") (Or.inl (hw _ (List.mem_of_getElem? (i := 3) rfl))) Via.refl e57 (B.2.2.1.ext O.2) (g := (mkF m 84 #[.val (.int p0), .val (.int p1), .val (.ref (u 1)), .val (.ref (u 0)), .val (.ref (u 1)), .val (.ref (u 1)), .val (.ref (u 0)), .val (.ref (u 1))] [(.ref (u 1))])) rfl (hb hby at_84)
      obtain ⟨fs, hr, hrun, hended, hW, hsame⟩ := X58.leave (v := some (.int (1 : Int32))) (fun h => by rw [Bd.returns] at h; cases h)
      refine ⟨_, _, pre56 _ ?_, hrun, hended, _, _, rfl, ?_, ⟨_, rfl⟩, hW, hsame.mono (by decide) (by decide)⟩
      · show Steps p.tables e below (T55.setTop (mkF m 59 #[.val (.int p0), .val (.int p1), .val (.ref (u 1)), .val (.ref (u 0)), .val (.ref (u 1)), .val (.ref (u 1)), .val (.ref (u 0)), .unset] [(.ref (u 1)), (.ref (u 1))])) _
        refine st57.trans ?_
        show Steps p.tables e below (T57.setTop (mkF m 62 #[.val (.int p0), .val (.int p1), .val (.ref (u 1)), .val (.ref (u 0)), .val (.ref (u 1)), .val (.ref (u 1)), .val (.ref (u 0)), .unset] [(.ref (u 1))])) _
        refine XS.astore X57.here hx rfl (hb hby at_62) rfl rfl (l' := #[.val (.int p0), .val (.int p1), .val (.ref (u 1)), .val (.ref (u 0)), .val (.ref (u 1)), .val (.ref (u 1)), .val (.ref (u 0)), .val (.ref (u 1))]) rfl ?_
        show Steps p.tables e below (T57.setTop (mkF m 64 #[.val (.int p0), .val (.int p1), .val (.ref (u 1)), .val (.ref (u 0)), .val (.ref (u 1)), .val (.ref (u 1)), .val (.ref (u 0)), .val (.ref (u 1))] [])) _
        refine XS.aload X57.here hx rfl (hb hby at_64) rfl rfl ?_
        show Steps p.tables e below (T57.setTop (mkF m 66 #[.val (.int p0), .val (.int p1), .val (.ref (u 1)), .val (.ref (u 0)), .val (.ref (u 1)), .val (.ref (u 1)), .val (.ref (u 0)), .val (.ref (u 1))] [(.ref (u 1))])) _
        refine XS.ifnullNo X57.here hx rfl (hb hby at_66) rfl ?_
        show Steps p.tables e below (T57.setTop (mkF m 69 #[.val (.int p0), .val (.int p1), .val (.ref (u 1)), .val (.ref (u 0)), .val (.ref (u 1)), .val (.ref (u 1)), .val (.ref (u 0)), .val (.ref (u 1))] [])) _
        refine XS.aload X57.here hx rfl (hb hby at_69) rfl rfl ?_
        show Steps p.tables e below (T57.setTop (mkF m 71 #[.val (.int p0), .val (.int p1), .val (.ref (u 1)), .val (.ref (u 0)), .val (.ref (u 1)), .val (.ref (u 1)), .val (.ref (u 0)), .val (.ref (u 1))] [(.ref (u 1))])) _
        refine XS.aload X57.here hx rfl (hb hby at_71) rfl rfl ?_
        show Steps p.tables e below (T57.setTop (mkF m 73 #[.val (.int p0), .val (.int p1), .val (.ref (u 1)), .val (.ref (u 0)), .val (.ref (u 1)), .val (.ref (u 1)), .val (.ref (u 0)), .val (.ref (u 1))] [(.ref (u 1)), (.ref (u 1))])) _
        refine Jvm.RoadKit.acmp (g := (mkF m 73 #[.val (.int p0), .val (.int p1), .val (.ref (u 1)), .val (.ref (u 0)), .val (.ref (u 1)), .val (.ref (u 1)), .val (.ref (u 0)), .val (.ref (u 1))] [(.ref (u 1)), (.ref (u 1))])) X57 hx rfl rfl rfl (pc0 := 73) (pc' := 76) (same := true) rfl (hb hby at_73) rfl (decide_eq_true rfl) (by decide) (by decide) ?_
        show Steps p.tables e below (T57.setTop (mkF m 76 #[.val (.int p0), .val (.int p1), .val (.ref (u 1)), .val (.ref (u 0)), .val (.ref (u 1)), .val (.ref (u 1)), .val (.ref (u 0)), .val (.ref (u 1))] [])) _
        refine XS.aload X57.here hx rfl (hb hby at_76) rfl rfl ?_
        show Steps p.tables e below (T57.setTop (mkF m 78 #[.val (.int p0), .val (.int p1), .val (.ref (u 1)), .val (.ref (u 0)), .val (.ref (u 1)), .val (.ref (u 1)), .val (.ref (u 0)), .val (.ref (u 1))] [(.ref (u 0))])) _
        refine XS.aloadN X57.here hx rfl (hb hby at_78) rfl rfl ?_
        show Steps p.tables e below (T57.setTop (mkF m 79 #[.val (.int p0), .val (.int p1), .val (.ref (u 1)), .val (.ref (u 0)), .val (.ref (u 1)), .val (.ref (u 1)), .val (.ref (u 0)), .val (.ref (u 1))] [(.ref (u 0)), (.ref (u 0))])) _
        refine Jvm.RoadKit.acmp (g := (mkF m 79 #[.val (.int p0), .val (.int p1), .val (.ref (u 1)), .val (.ref (u 0)), .val (.ref (u 1)), .val (.ref (u 1)), .val (.ref (u 0)), .val (.ref (u 1))] [(.ref (u 0)), (.ref (u 0))])) X57 hx rfl rfl rfl (pc0 := 79) (pc' := 82) (same := true) rfl (hb hby at_79) rfl (decide_eq_true rfl) (by decide) (by decide) ?_
        show Steps p.tables e below (T57.setTop (mkF m 82 #[.val (.int p0), .val (.int p1), .val (.ref (u 1)), .val (.ref (u 0)), .val (.ref (u 1)), .val (.ref (u 1)), .val (.ref (u 0)), .val (.ref (u 1))] [])) _
        refine XS.aload X57.here hx rfl (hb hby at_82) rfl rfl ?_
        show Steps p.tables e below (T57.setTop (mkF m 84 #[.val (.int p0), .val (.int p1), .val (.ref (u 1)), .val (.ref (u 0)), .val (.ref (u 1)), .val (.ref (u 1)), .val (.ref (u 0)), .val (.ref (u 1))] [(.ref (u 1))])) _
        refine st58 _ ?_
        show Steps p.tables e below (T58.setTop (mkF m 87 #[.val (.int p0), .val (.int p1), .val (.ref (u 1)), .val (.ref (u 0)), .val (.ref (u 1)), .val (.ref (u 1)), .val (.ref (u 0)), .val (.ref (u 1))] [(.ref (u 1)), (.ref (u 1))])) _
        refine Jvm.RoadKit.acmp (g := (mkF m 87 #[.val (.int p0), .val (.int p1), .val (.ref (u 1)), .val (.ref (u 0)), .val (.ref (u 1)), .val (.ref (u 1)), .val (.ref (u 0)), .val (.ref (u 1))] [(.ref (u 1)), (.ref (u 1))])) X58 hx rfl rfl rfl (pc0 := 87) (pc' := 90) (same := true) rfl (hb hby at_87) rfl (decide_eq_true rfl) (by decide) (by decide) ?_
        show Steps p.tables e below (T58.setTop (mkF m 90 #[.val (.int p0), .val (.int p1), .val (.ref (u 1)), .val (.ref (u 0)), .val (.ref (u 1)), .val (.ref (u 1)), .val (.ref (u 0)), .val (.ref (u 1))] [])) _
        refine XS.iconst X58.here hx rfl (hb hby at_90) ?_
        show Steps p.tables e below (T58.setTop (mkF m 91 #[.val (.int p0), .val (.int p1), .val (.ref (u 1)), .val (.ref (u 0)), .val (.ref (u 1)), .val (.ref (u 1)), .val (.ref (u 0)), .val (.ref (u 1))] [(.int (1 : Int32))])) _
        refine XS.goto X58.here hx rfl (pc0 := 91) (pc' := 95) rfl (hb hby at_91) (by decide) (by decide) ?_
        show Steps p.tables e below (T58.setTop (mkF m 95 #[.val (.int p0), .val (.int p1), .val (.ref (u 1)), .val (.ref (u 0)), .val (.ref (u 1)), .val (.ref (u 1)), .val (.ref (u 0)), .val (.ref (u 1))] [(.int (1 : Int32))])) _
        exact retN X58 hx (t := .boolean) Bd.returns (by simp) (hb hby at_95) hr
      · show own_Q0 Z u p0 p1 h0 n0 _ T58.heap _
        rw [e58]
        exact ⟨rfl, N57, trivial⟩
    · --
      obtain ⟨T60, X60, e60, st60⟩ := getS2 X44 hx hZ hown (host := "") (Or.inl (hw _ (List.mem_of_getElem? (i := 3) rfl))) Via.refl e44 (B.2.2.1.ext O.2) (g := (mkF m 28 #[.val (.int p0), .val (.int p1), .val (.ref (u 1)), .unset, .unset, .unset, .unset, .unset] [])) rfl (hb hby at_28)
      have pre61 : ∀ t, Steps p.tables e below (T60.setTop (mkF m 34 #[.val (.int p0), .val (.int p1), .val (.ref (u 1)), .val (.ref (u 1)), .unset, .unset, .unset, .unset] [(.ref (u 1)), (.ref (u 1))])) t → Steps p.tables e below (s₁.setTop (entryFrame m #[(.int p0), (.int p1)] maxLocals)) t := fun t kt => pre45 t (by
        show Steps p.tables e below (T44.setTop (mkF m 19 #[.val (.int p0), .val (.int p1), .val (.ref (u 1)), .unset, .unset, .unset, .unset, .unset] [(.int (p1 &&& (1 : Int32)))])) _
        refine XS.ifYes X44.here hx rfl (pc0 := 19) (pc' := 28) rfl (hb hby at_19) rfl ((if0 _ _).trans (feq hc46).2) (by decide) (by decide) ?_
        show Steps p.tables e below (T44.setTop (mkF m 28 #[.val (.int p0), .val (.int p1), .val (.ref (u 1)), .unset, .unset, .unset, .unset, .unset] [])) _
        refine st60 _ ?_
        show Steps p.tables e below (T60.setTop (mkF m 31 #[.val (.int p0), .val (.int p1), .val (.ref (u 1)), .unset, .unset, .unset, .unset, .unset] [(.ref (u 1))])) _
        refine XS.astoreN X60.here hx rfl (hb hby at_31) rfl rfl (l' := #[.val (.int p0), .val (.int p1), .val (.ref (u 1)), .val (.ref (u 1)), .unset, .unset, .unset, .unset]) rfl ?_
        show Steps p.tables e below (T60.setTop (mkF m 32 #[.val (.int p0), .val (.int p1), .val (.ref (u 1)), .val (.ref (u 1)), .unset, .unset, .unset, .unset] [])) _
        refine XS.aloadN X60.here hx rfl (hb hby at_32) rfl rfl ?_
        show Steps p.tables e below (T60.setTop (mkF m 33 #[.val (.int p0), .val (.int p1), .val (.ref (u 1)), .val (.ref (u 1)), .unset, .unset, .unset, .unset] [(.ref (u 1))])) _
        refine XS.aloadN X60.here hx rfl (hb hby at_33) rfl rfl ?_
        exact kt)
      obtain ⟨cq62, kq62, q62a, q62b, q62c⟩ := isOf hZ e60 (B.2.2.2.1.ext O.2)
      obtain ⟨vr62, _, ⟨T62, L62, k62, n62⟩, -, X62, ⟨Lc62, hQ62, l62, y62, z62⟩, st62⟩ := X60.virtualBack hx (y := (⟨"com/example/resolvent/resolvent/core/Scope", "through", "(Lcom/example/resolvent/resolvent/core/Scope;)Lcom/example/resolvent/resolvent/core/Scope;"⟩ : MethodName)) (z := (⟨"com/example/resolvent/resolvent/core/Scope", "through", "(Lcom/example/resolvent/resolvent/core/Scope;)Lcom/example/resolvent/resolvent/core/Scope;"⟩ : MethodName)) hown (mvT hZ (hw _ (List.mem_of_getElem? (i := 5) rfl))) (mvT hZ (hw _ (List.mem_of_getElem? (i := 6) rfl))) (notFace_of_selects (args := #[]) (mvT hZ (hw _ (List.mem_of_getElem? (i := 8) rfl)))) (mvT hZ (hw _ (List.mem_of_getElem? (i := 8) rfl))) (mvT hZ (hw _ (List.mem_of_getElem? (i := 7) rfl))) (by decide) (backOf (W := 0) (rm1 l Z a0 hw [] u (u 1) (u 1) B h0 n0 O ) hZ (hw _ (List.mem_of_getElem? (i := 9) rfl)) (hw _ (List.mem_of_getElem? (i := 1) rfl)) (by decide) (by decide)) q62a q62c (g := (mkF m 34 #[.val (.int p0), .val (.int p1), .val (.ref (u 1)), .val (.ref (u 1)), .unset, .unset, .unset, .unset] [(.ref (u 1)), (.ref (u 1))])) rfl (by rw [hml]; rfl) (Steps.refl _) (argsL := [(.ref (u 1))]) (rest := []) (lenOf own_pd0 rfl) rfl (by show 2 * 0 + _ ≤ _; exact Nat.le_of_eq rfl) (hb hby at_34) (fun _ _ => ⟨rfl, e60, (by decide : 0 + 0 ≤ _), (by decide : 0 + 0 ≤ _)⟩)
      dsimp only [Pt.U, Pt.locs, Pt.cells, Pt.slots] at X62 l62 y62 z62 st62 hQ62
      subst l62 y62 z62
      obtain ⟨hv62, N62q, e62⟩ := hQ62
      have N62 := Fr.app N0 N62q
      obtain rfl : vr62 = some (.ref (u 1)) := hv62.trans (by unfold own_r1; rw [if_neg ((Fld.ne B.2.2.2.2.2 B.2.2.2.2.1 (by decide)) : ¬ ((u 1) = (u 0)))])
      have pre63 : ∀ t, Steps p.tables e below (T62.setTop (mkF m 41 #[.val (.int p0), .val (.int p1), .val (.ref (u 1)), .val (.ref (u 1)), .val (.ref (u 1)), .unset, .unset, .unset] [(.ref (u 1)), (.ref (u 1))])) t → Steps p.tables e below (s₁.setTop (entryFrame m #[(.int p0), (.int p1)] maxLocals)) t := fun t kt => pre61 t (by
        show Steps p.tables e below (T60.setTop (mkF m 34 #[.val (.int p0), .val (.int p1), .val (.ref (u 1)), .val (.ref (u 1)), .unset, .unset, .unset, .unset] [(.ref (u 1)), (.ref (u 1))])) _
        refine st62.trans ?_
        show Steps p.tables e below (T62.setTop (mkF m 37 #[.val (.int p0), .val (.int p1), .val (.ref (u 1)), .val (.ref (u 1)), .unset, .unset, .unset, .unset] [(.ref (u 1))])) _
        refine XS.astore X62.here hx rfl (hb hby at_37) rfl rfl (l' := #[.val (.int p0), .val (.int p1), .val (.ref (u 1)), .val (.ref (u 1)), .val (.ref (u 1)), .unset, .unset, .unset]) rfl ?_
        show Steps p.tables e below (T62.setTop (mkF m 39 #[.val (.int p0), .val (.int p1), .val (.ref (u 1)), .val (.ref (u 1)), .val (.ref (u 1)), .unset, .unset, .unset] [])) _
        refine XS.aloadN X62.here hx rfl (hb hby at_39) rfl rfl ?_
        show Steps p.tables e below (T62.setTop (mkF m 40 #[.val (.int p0), .val (.int p1), .val (.ref (u 1)), .val (.ref (u 1)), .val (.ref (u 1)), .unset, .unset, .unset] [(.ref (u 1))])) _
        refine XS.aloadN X62.here hx rfl (hb hby at_40) rfl rfl ?_
        exact kt)
      obtain ⟨cq64, kq64, q64a, q64b, q64c⟩ := isOf hZ e62 (B.2.2.2.1.ext O.2)
      obtain ⟨vr64, _, ⟨T64, L64, k64, n64⟩, -, X64, ⟨Lc64, hQ64, l64, y64, z64⟩, st64⟩ := X62.virtualBack hx (y := (⟨"com/example/resolvent/resolvent/core/Scope", "through", "(Lcom/example/resolvent/resolvent/core/Scope;)Lcom/example/resolvent/resolvent/core/Scope;"⟩ : MethodName)) (z := (⟨"com/example/resolvent/resolvent/core/Scope", "through", "(Lcom/example/resolvent/resolvent/core/Scope;)Lcom/example/resolvent/resolvent/core/Scope;"⟩ : MethodName)) hown (mvT hZ (hw _ (List.mem_of_getElem? (i := 5) rfl))) (mvT hZ (hw _ (List.mem_of_getElem? (i := 6) rfl))) (notFace_of_selects (args := #[]) (mvT hZ (hw _ (List.mem_of_getElem? (i := 8) rfl)))) (mvT hZ (hw _ (List.mem_of_getElem? (i := 8) rfl))) (mvT hZ (hw _ (List.mem_of_getElem? (i := 7) rfl))) (by decide) (backOf (W := 0) (rm1 l Z a0 hw [] u (u 1) (u 1) B h0 n0 O ) hZ (hw _ (List.mem_of_getElem? (i := 9) rfl)) (hw _ (List.mem_of_getElem? (i := 1) rfl)) (by decide) (by decide)) q64a q64c (g := (mkF m 41 #[.val (.int p0), .val (.int p1), .val (.ref (u 1)), .val (.ref (u 1)), .val (.ref (u 1)), .unset, .unset, .unset] [(.ref (u 1)), (.ref (u 1))])) rfl (by rw [hml]; rfl) (Steps.refl _) (argsL := [(.ref (u 1))]) (rest := []) (lenOf own_pd0 rfl) rfl (by show 2 * 0 + _ ≤ _; exact Nat.le_of_eq rfl) (hb hby at_41) (fun _ _ => ⟨rfl, e62, (by decide : 0 + 0 ≤ _), (by decide : 0 + 0 ≤ _)⟩)
      dsimp only [Pt.U, Pt.locs, Pt.cells, Pt.slots] at X64 l64 y64 z64 st64 hQ64
      subst l64 y64 z64
      obtain ⟨hv64, N64q, e64⟩ := hQ64
      have N64 := Fr.app N62 N64q
      obtain rfl : vr64 = some (.ref (u 1)) := hv64.trans (by unfold own_r1; rw [if_neg ((Fld.ne B.2.2.2.2.2 B.2.2.2.2.1 (by decide)) : ¬ ((u 1) = (u 0)))])
      obtain ⟨T65, X65, e65, st65⟩ := getS2 X64 hx hZ hown (host := "") (Or.inl (hw _ (List.mem_of_getElem? (i := 0) rfl))) Via.refl e64 (B.1.ext O.2) (g := (mkF m 46 #[.val (.int p0), .val (.int p1), .val (.ref (u 1)), .val (.ref (u 1)), .val (.ref (u 1)), .val (.ref (u 1)), .unset, .unset] [])) rfl (hb hby at_46)
      have pre66 : ∀ t, Steps p.tables e below (T65.setTop (mkF m 50 #[.val (.int p0), .val (.int p1), .val (.ref (u 1)), .val (.ref (u 1)), .val (.ref (u 1)), .val (.ref (u 1)), .unset, .unset] [(.ref (u 1)), (.ref (u 0))])) t → Steps p.tables e below (s₁.setTop (entryFrame m #[(.int p0), (.int p1)] maxLocals)) t := fun t kt => pre63 t (by
        show Steps p.tables e below (T62.setTop (mkF m 41 #[.val (.int p0), .val (.int p1), .val (.ref (u 1)), .val (.ref (u 1)), .val (.ref (u 1)), .unset, .unset, .unset] [(.ref (u 1)), (.ref (u 1))])) _
        refine st64.trans ?_
        show Steps p.tables e below (T64.setTop (mkF m 44 #[.val (.int p0), .val (.int p1), .val (.ref (u 1)), .val (.ref (u 1)), .val (.ref (u 1)), .unset, .unset, .unset] [(.ref (u 1))])) _
        refine XS.astore X64.here hx rfl (hb hby at_44) rfl rfl (l' := #[.val (.int p0), .val (.int p1), .val (.ref (u 1)), .val (.ref (u 1)), .val (.ref (u 1)), .val (.ref (u 1)), .unset, .unset]) rfl ?_
        show Steps p.tables e below (T64.setTop (mkF m 46 #[.val (.int p0), .val (.int p1), .val (.ref (u 1)), .val (.ref (u 1)), .val (.ref (u 1)), .val (.ref (u 1)), .unset, .unset] [])) _
        refine st65 _ ?_
        show Steps p.tables e below (T65.setTop (mkF m 49 #[.val (.int p0), .val (.int p1), .val (.ref (u 1)), .val (.ref (u 1)), .val (.ref (u 1)), .val (.ref (u 1)), .unset, .unset] [(.ref (u 0))])) _
        refine XS.aloadN X65.here hx rfl (hb hby at_49) rfl rfl ?_
        exact kt)
      obtain ⟨cq67, kq67, q67a, q67b, q67c⟩ := isOf hZ e65 (B.2.1.ext O.2)
      obtain ⟨vr67, _, ⟨T67, L67, k67, n67⟩, -, X67, ⟨Lc67, hQ67, l67, y67, z67⟩, st67⟩ := X65.virtualBack hx (y := (⟨"com/example/resolvent/resolvent/core/Scope", "through", "(Lcom/example/resolvent/resolvent/core/Scope;)Lcom/example/resolvent/resolvent/core/Scope;"⟩ : MethodName)) (z := (⟨"com/example/resolvent/resolvent/core/Scope", "through", "(Lcom/example/resolvent/resolvent/core/Scope;)Lcom/example/resolvent/resolvent/core/Scope;"⟩ : MethodName)) hown (mvT hZ (hw _ (List.mem_of_getElem? (i := 5) rfl))) (mvT hZ (hw _ (List.mem_of_getElem? (i := 6) rfl))) (notFace_of_selects (args := #[]) (mvT hZ (hw _ (List.mem_of_getElem? (i := 8) rfl)))) (mvT hZ (hw _ (List.mem_of_getElem? (i := 8) rfl))) (mvT hZ (hw _ (List.mem_of_getElem? (i := 7) rfl))) (by decide) (backOf (W := 0) (rm1 l Z a0 hw [] u (u 0) (u 1) B h0 n0 O ) hZ (hw _ (List.mem_of_getElem? (i := 9) rfl)) (hw _ (List.mem_of_getElem? (i := 1) rfl)) (by decide) (by decide)) q67a q67c (g := (mkF m 50 #[.val (.int p0), .val (.int p1), .val (.ref (u 1)), .val (.ref (u 1)), .val (.ref (u 1)), .val (.ref (u 1)), .unset, .unset] [(.ref (u 1)), (.ref (u 0))])) rfl (by rw [hml]; rfl) (Steps.refl _) (argsL := [(.ref (u 1))]) (rest := []) (lenOf own_pd0 rfl) rfl (by show 2 * 0 + _ ≤ _; exact Nat.le_of_eq rfl) (hb hby at_50) (fun _ _ => ⟨rfl, e65, (by decide : 0 + 0 ≤ _), (by decide : 0 + 0 ≤ _)⟩)
      dsimp only [Pt.U, Pt.locs, Pt.cells, Pt.slots] at X67 l67 y67 z67 st67 hQ67
      subst l67 y67 z67
      obtain ⟨hv67, N67q, e67⟩ := hQ67
      have N67 := Fr.app N64 N67q
      obtain rfl : vr67 = some (.ref (u 1)) := hv67.trans (by unfold own_r1; rw [if_pos (rfl : (u 0) = (u 0)), if_neg ((Fld.ne B.2.2.2.2.2 B.2.2.2.2.1 (by decide)) : ¬ ((u 1) = (u 0)))])
      obtain ⟨T68, X68, e68, st68⟩ := getS2 X67 hx hZ hown (host := "") (Or.inl (hw _ (List.mem_of_getElem? (i := 3) rfl))) Via.refl e67 (B.2.2.1.ext O.2) (g := (mkF m 56 #[.val (.int p0), .val (.int p1), .val (.ref (u 1)), .val (.ref (u 1)), .val (.ref (u 1)), .val (.ref (u 1)), .val (.ref (u 1)), .unset] [(.ref (u 1))])) rfl (hb hby at_56)
      have pre69 : ∀ t, Steps p.tables e below (T68.setTop (mkF m 59 #[.val (.int p0), .val (.int p1), .val (.ref (u 1)), .val (.ref (u 1)), .val (.ref (u 1)), .val (.ref (u 1)), .val (.ref (u 1)), .unset] [(.ref (u 1)), (.ref (u 1))])) t → Steps p.tables e below (s₁.setTop (entryFrame m #[(.int p0), (.int p1)] maxLocals)) t := fun t kt => pre66 t (by
        show Steps p.tables e below (T65.setTop (mkF m 50 #[.val (.int p0), .val (.int p1), .val (.ref (u 1)), .val (.ref (u 1)), .val (.ref (u 1)), .val (.ref (u 1)), .unset, .unset] [(.ref (u 1)), (.ref (u 0))])) _
        refine st67.trans ?_
        show Steps p.tables e below (T67.setTop (mkF m 53 #[.val (.int p0), .val (.int p1), .val (.ref (u 1)), .val (.ref (u 1)), .val (.ref (u 1)), .val (.ref (u 1)), .unset, .unset] [(.ref (u 1))])) _
        refine XS.astore X67.here hx rfl (hb hby at_53) rfl rfl (l' := #[.val (.int p0), .val (.int p1), .val (.ref (u 1)), .val (.ref (u 1)), .val (.ref (u 1)), .val (.ref (u 1)), .val (.ref (u 1)), .unset]) rfl ?_
        show Steps p.tables e below (T67.setTop (mkF m 55 #[.val (.int p0), .val (.int p1), .val (.ref (u 1)), .val (.ref (u 1)), .val (.ref (u 1)), .val (.ref (u 1)), .val (.ref (u 1)), .unset] [])) _
        refine XS.aloadN X67.here hx rfl (hb hby at_55) rfl rfl ?_
        show Steps p.tables e below (T67.setTop (mkF m 56 #[.val (.int p0), .val (.int p1), .val (.ref (u 1)), .val (.ref (u 1)), .val (.ref (u 1)), .val (.ref (u 1)), .val (.ref (u 1)), .unset] [(.ref (u 1))])) _
        refine st68 _ ?_
        exact kt)
      obtain ⟨cq70, kq70, q70a, q70b, q70c⟩ := isOf hZ e68 (B.2.2.2.1.ext O.2)
      obtain ⟨vr70, _, ⟨T70, L70, k70, n70⟩, -, X70, ⟨Lc70, hQ70, l70, y70, z70⟩, st70⟩ := X68.virtualBack hx (y := (⟨"com/example/resolvent/resolvent/core/Scope", "through", "(Lcom/example/resolvent/resolvent/core/Scope;)Lcom/example/resolvent/resolvent/core/Scope;"⟩ : MethodName)) (z := (⟨"com/example/resolvent/resolvent/core/Scope", "through", "(Lcom/example/resolvent/resolvent/core/Scope;)Lcom/example/resolvent/resolvent/core/Scope;"⟩ : MethodName)) hown (mvT hZ (hw _ (List.mem_of_getElem? (i := 5) rfl))) (mvT hZ (hw _ (List.mem_of_getElem? (i := 6) rfl))) (notFace_of_selects (args := #[]) (mvT hZ (hw _ (List.mem_of_getElem? (i := 8) rfl)))) (mvT hZ (hw _ (List.mem_of_getElem? (i := 8) rfl))) (mvT hZ (hw _ (List.mem_of_getElem? (i := 7) rfl))) (by decide) (backOf (W := 0) (rm1 l Z a0 hw [] u (u 1) (u 1) B h0 n0 O ) hZ (hw _ (List.mem_of_getElem? (i := 9) rfl)) (hw _ (List.mem_of_getElem? (i := 1) rfl)) (by decide) (by decide)) q70a q70c (g := (mkF m 59 #[.val (.int p0), .val (.int p1), .val (.ref (u 1)), .val (.ref (u 1)), .val (.ref (u 1)), .val (.ref (u 1)), .val (.ref (u 1)), .unset] [(.ref (u 1)), (.ref (u 1))])) rfl (by rw [hml]; rfl) (Steps.refl _) (argsL := [(.ref (u 1))]) (rest := []) (lenOf own_pd0 rfl) rfl (by show 2 * 0 + _ ≤ _; exact Nat.le_of_eq rfl) (hb hby at_59) (fun _ _ => ⟨rfl, e68, (by decide : 0 + 0 ≤ _), (by decide : 0 + 0 ≤ _)⟩)
      dsimp only [Pt.U, Pt.locs, Pt.cells, Pt.slots] at X70 l70 y70 z70 st70 hQ70
      subst l70 y70 z70
      obtain ⟨hv70, N70q, e70⟩ := hQ70
      have N70 := Fr.app N67 N70q
      obtain rfl : vr70 = some (.ref (u 1)) := hv70.trans (by unfold own_r1; rw [if_neg ((Fld.ne B.2.2.2.2.2 B.2.2.2.2.1 (by decide)) : ¬ ((u 1) = (u 0)))])
      obtain ⟨T71, X71, e71, st71⟩ := getS2 X70 hx hZ hown (host := "") (Or.inl (hw _ (List.mem_of_getElem? (i := 3) rfl))) Via.refl e70 (B.2.2.1.ext O.2) (g := (mkF m 84 #[.val (.int p0), .val (.int p1), .val (.ref (u 1)), .val (.ref (u 1)), .val (.ref (u 1)), .val (.ref (u 1)), .val (.ref (u 1)), .val (.ref (u 1))] [(.ref (u 1))])) rfl (hb hby at_84)
      obtain ⟨fs, hr, hrun, hended, hW, hsame⟩ := X71.leave (v := some (.int (1 : Int32))) (fun h => by rw [Bd.returns] at h; cases h)
      refine ⟨_, _, pre69 _ ?_, hrun, hended, _, _, rfl, ?_, ⟨_, rfl⟩, hW, hsame.mono (by decide) (by decide)⟩
      · show Steps p.tables e below (T68.setTop (mkF m 59 #[.val (.int p0), .val (.int p1), .val (.ref (u 1)), .val (.ref (u 1)), .val (.ref (u 1)), .val (.ref (u 1)), .val (.ref (u 1)), .unset] [(.ref (u 1)), (.ref (u 1))])) _
        refine st70.trans ?_
        show Steps p.tables e below (T70.setTop (mkF m 62 #[.val (.int p0), .val (.int p1), .val (.ref (u 1)), .val (.ref (u 1)), .val (.ref (u 1)), .val (.ref (u 1)), .val (.ref (u 1)), .unset] [(.ref (u 1))])) _
        refine XS.astore X70.here hx rfl (hb hby at_62) rfl rfl (l' := #[.val (.int p0), .val (.int p1), .val (.ref (u 1)), .val (.ref (u 1)), .val (.ref (u 1)), .val (.ref (u 1)), .val (.ref (u 1)), .val (.ref (u 1))]) rfl ?_
        show Steps p.tables e below (T70.setTop (mkF m 64 #[.val (.int p0), .val (.int p1), .val (.ref (u 1)), .val (.ref (u 1)), .val (.ref (u 1)), .val (.ref (u 1)), .val (.ref (u 1)), .val (.ref (u 1))] [])) _
        refine XS.aload X70.here hx rfl (hb hby at_64) rfl rfl ?_
        show Steps p.tables e below (T70.setTop (mkF m 66 #[.val (.int p0), .val (.int p1), .val (.ref (u 1)), .val (.ref (u 1)), .val (.ref (u 1)), .val (.ref (u 1)), .val (.ref (u 1)), .val (.ref (u 1))] [(.ref (u 1))])) _
        refine XS.ifnullNo X70.here hx rfl (hb hby at_66) rfl ?_
        show Steps p.tables e below (T70.setTop (mkF m 69 #[.val (.int p0), .val (.int p1), .val (.ref (u 1)), .val (.ref (u 1)), .val (.ref (u 1)), .val (.ref (u 1)), .val (.ref (u 1)), .val (.ref (u 1))] [])) _
        refine XS.aload X70.here hx rfl (hb hby at_69) rfl rfl ?_
        show Steps p.tables e below (T70.setTop (mkF m 71 #[.val (.int p0), .val (.int p1), .val (.ref (u 1)), .val (.ref (u 1)), .val (.ref (u 1)), .val (.ref (u 1)), .val (.ref (u 1)), .val (.ref (u 1))] [(.ref (u 1))])) _
        refine XS.aload X70.here hx rfl (hb hby at_71) rfl rfl ?_
        show Steps p.tables e below (T70.setTop (mkF m 73 #[.val (.int p0), .val (.int p1), .val (.ref (u 1)), .val (.ref (u 1)), .val (.ref (u 1)), .val (.ref (u 1)), .val (.ref (u 1)), .val (.ref (u 1))] [(.ref (u 1)), (.ref (u 1))])) _
        refine Jvm.RoadKit.acmp (g := (mkF m 73 #[.val (.int p0), .val (.int p1), .val (.ref (u 1)), .val (.ref (u 1)), .val (.ref (u 1)), .val (.ref (u 1)), .val (.ref (u 1)), .val (.ref (u 1))] [(.ref (u 1)), (.ref (u 1))])) X70 hx rfl rfl rfl (pc0 := 73) (pc' := 76) (same := true) rfl (hb hby at_73) rfl (decide_eq_true rfl) (by decide) (by decide) ?_
        show Steps p.tables e below (T70.setTop (mkF m 76 #[.val (.int p0), .val (.int p1), .val (.ref (u 1)), .val (.ref (u 1)), .val (.ref (u 1)), .val (.ref (u 1)), .val (.ref (u 1)), .val (.ref (u 1))] [])) _
        refine XS.aload X70.here hx rfl (hb hby at_76) rfl rfl ?_
        show Steps p.tables e below (T70.setTop (mkF m 78 #[.val (.int p0), .val (.int p1), .val (.ref (u 1)), .val (.ref (u 1)), .val (.ref (u 1)), .val (.ref (u 1)), .val (.ref (u 1)), .val (.ref (u 1))] [(.ref (u 1))])) _
        refine XS.aloadN X70.here hx rfl (hb hby at_78) rfl rfl ?_
        show Steps p.tables e below (T70.setTop (mkF m 79 #[.val (.int p0), .val (.int p1), .val (.ref (u 1)), .val (.ref (u 1)), .val (.ref (u 1)), .val (.ref (u 1)), .val (.ref (u 1)), .val (.ref (u 1))] [(.ref (u 1)), (.ref (u 1))])) _
        refine Jvm.RoadKit.acmp (g := (mkF m 79 #[.val (.int p0), .val (.int p1), .val (.ref (u 1)), .val (.ref (u 1)), .val (.ref (u 1)), .val (.ref (u 1)), .val (.ref (u 1)), .val (.ref (u 1))] [(.ref (u 1)), (.ref (u 1))])) X70 hx rfl rfl rfl (pc0 := 79) (pc' := 82) (same := true) rfl (hb hby at_79) rfl (decide_eq_true rfl) (by decide) (by decide) ?_
        show Steps p.tables e below (T70.setTop (mkF m 82 #[.val (.int p0), .val (.int p1), .val (.ref (u 1)), .val (.ref (u 1)), .val (.ref (u 1)), .val (.ref (u 1)), .val (.ref (u 1)), .val (.ref (u 1))] [])) _
        refine XS.aload X70.here hx rfl (hb hby at_82) rfl rfl ?_
        show Steps p.tables e below (T70.setTop (mkF m 84 #[.val (.int p0), .val (.int p1), .val (.ref (u 1)), .val (.ref (u 1)), .val (.ref (u 1)), .val (.ref (u 1)), .val (.ref (u 1)), .val (.ref (u 1))] [(.ref (u 1))])) _
        refine st71 _ ?_
        show Steps p.tables e below (T71.setTop (mkF m 87 #[.val (.int p0), .val (.int p1), .val (.ref (u 1)), .val (.ref (u 1)), .val (.ref (u 1)), .val (.ref (u 1)), .val (.ref (u 1)), .val (.ref (u 1))] [(.ref (u 1)), (.ref (u 1))])) _
        refine Jvm.RoadKit.acmp (g := (mkF m 87 #[.val (.int p0), .val (.int p1), .val (.ref (u 1)), .val (.ref (u 1)), .val (.ref (u 1)), .val (.ref (u 1)), .val (.ref (u 1)), .val (.ref (u 1))] [(.ref (u 1)), (.ref (u 1))])) X71 hx rfl rfl rfl (pc0 := 87) (pc' := 90) (same := true) rfl (hb hby at_87) rfl (decide_eq_true rfl) (by decide) (by decide) ?_
        show Steps p.tables e below (T71.setTop (mkF m 90 #[.val (.int p0), .val (.int p1), .val (.ref (u 1)), .val (.ref (u 1)), .val (.ref (u 1)), .val (.ref (u 1)), .val (.ref (u 1)), .val (.ref (u 1))] [])) _
        refine XS.iconst X71.here hx rfl (hb hby at_90) ?_
        show Steps p.tables e below (T71.setTop (mkF m 91 #[.val (.int p0), .val (.int p1), .val (.ref (u 1)), .val (.ref (u 1)), .val (.ref (u 1)), .val (.ref (u 1)), .val (.ref (u 1)), .val (.ref (u 1))] [(.int (1 : Int32))])) _
        refine XS.goto X71.here hx rfl (pc0 := 91) (pc' := 95) rfl (hb hby at_91) (by decide) (by decide) ?_
        show Steps p.tables e below (T71.setTop (mkF m 95 #[.val (.int p0), .val (.int p1), .val (.ref (u 1)), .val (.ref (u 1)), .val (.ref (u 1)), .val (.ref (u 1)), .val (.ref (u 1)), .val (.ref (u 1))] [(.int (1 : Int32))])) _
        exact retN X71 hx (t := .boolean) Bd.returns (by simp) (hb hby at_95) hr
      · show own_Q0 Z u p0 p1 h0 n0 _ T71.heap _
        rw [e71]
        exact ⟨rfl, N70, trivial⟩
set_option maxRecDepth 65536 in
set_option maxHeartbeats 40000000 in
theorem comes_1 {Post : Tables → Env → Array Value → State → Outcome → State → Prop} (hpost : ∀ tb e args s v u, (limb_1_1.after args s (.returned v) u = true ∧ limb_1_2.after args s (.returned v) u = true ∧ True) → FrameEnd s (.returned v) u (Jvm.fieldLocs frame_1_writes args s ++ Jvm.arrayLocs frame_1_arrays args s ++ Jvm.staticLocs frame_1_statics s) 0 0 → Post tb e args s (.returned v) u) :
    ArmFor flags0 classFile x code maxLocals ret World_1 tables_1 room_1 Calls_1 rest_1 Pre_1 Post := by
  intro l hfl _ _ p e ha hc hk s m args below hf hA hF happ hP
  obtain ⟨hcalls, hrest, hpre⟩ := hP
  obtain ⟨-, -, -, hnamed, -, -, -, hat⟩ := (Spec.applies_iff hf).mp happ
  obtain ⟨hg, hn⟩ := and_e (Cond.before_iff.mp (show (Jvm.Cond.and given_1 narrow_1).before args s = true from hpre))
  obtain ⟨g0, gr0⟩ := and_e hg
  obtain ⟨g1, gr1⟩ := and_e gr0
  have g2 := gr1
  obtain ⟨w0, w1, rfl⟩ : ∃ w0 w1 : Value, args = #[w0, w1] := by
    have hs : args.size = 2 := by simpa [Cond.value, given_1] using g0
    obtain ⟨L⟩ := args
    match L, hs with
    | [w0, w1], _ => exact ⟨w0, w1, rfl⟩
  have hw := fun d (hd : d ∈ tables_1) => atoms_spec (ws := Jvm.Cond.code x code maxLocals ret :: tables_1) hat d (List.mem_cons_of_mem _ hd)
  have hfit : Fit s := fun {y c} hc i hi => by
    obtain ⟨ha, rfl⟩ := Array.getElem?_eq_some_iff.mp hc
    have q := List.all_eq_true.mp ((Array.all_eq_true_iff_forall_mem.mp hF) _ (Array.getElem_mem ha)) i (List.mem_range.mpr hi)
    simpa [Array.getElem?_eq_getElem hi] using q
  obtain ⟨i0, ei0⟩ := is_v g1
  obtain rfl : w0 = (.int i0) := Option.some.inj ei0
  obtain ⟨i1, ei1⟩ := is_v g2
  obtain rfl : w1 = (.int i1) := Option.some.inj ei1
  obtain ⟨b0, hn0⟩ := and_e hn
  obtain ⟨b1, hn1⟩ := and_e hn0
  obtain ⟨b2, hn2⟩ := and_e hn1
  have b3 := hn2
  obtain ⟨x0, v0⟩ := exa_v b0
  obtain ⟨x1, v1⟩ := exa_v b1
  have B : own_Base s (fun i => ([x0, x1] : List Addr).getD i 0) := ⟨Sta.start v0 (Or.inr ⟨(hw _ (List.mem_of_getElem? (i := 1) rfl)), (hw _ (List.mem_of_getElem? (i := 2) rfl))⟩),
    Exa.start v0 b0,
    Sta.start v1 (Or.inr ⟨(hw _ (List.mem_of_getElem? (i := 1) rfl)), (hw _ (List.mem_of_getElem? (i := 4) rfl))⟩),
    Exa.start v1 b1,
    own_fld v0 b3 rfl,
    own_fld v1 b2 rfl⟩
  obtain ⟨n, o, h1, h2, h3, _, L, rfl, ⟨rfl, N, -⟩, hq⟩ := rm0 l s _ hw tables_1 (fun i => ([x0, x1] : List Addr).getD i 0) i0 i1 B s.heap s.heap.size (Old.start s)  p e ha hc hk s m _ below hf ((Spec.applies_iff_loose hf).mp happ).1 ⟨rfl, State.Warmed39.refl s, rfl⟩ trivial
  refine ⟨n, _, h1, h2, h3, hpost _ _ _ _ _ _ ⟨Cond.after_iff.mpr rfl, Cond.after_iff.mpr (eq_i res_at (Term.int_eval (1)) rfl), trivial⟩ ⟨hq.1, hq.2.1, (hq.2.2.sift fun y hy => Or.inr (N y hy)).mono (by decide) (by decide)⟩⟩
theorem main_1_1 : Claimed_1_1 := comes_1 fun _ _ _ _ _ _ h hF => ⟨h.1, hF⟩
theorem main_1_2 : Claimed_1_2 := comes_1 fun _ _ _ _ _ _ h hF => ⟨h.2.1, hF⟩
end Jvm.Pilot.@@N@@
namespace Jvm.Pilot.@@N@@
open Jvm Jvm.ClassFile Sem Op Lib Jvm.Free Jvm.Stand Jvm.Pilot.@@N@@.Jvm.D
/-! MADE BY PROGRAM (witnessworld.py) out of the Statement's table words and the real class files: 12 classes; the members and pool entries that the words name. The judged class is class 1, her method 1. -/
namespace start1
open Jvm.ClassFile
def u (s : String) : CpInfo := .utf8 (stringToUtf16 s)
/-- a pool by its gaps: so many unusable entries, then the entry; so many at the end -/
def gap : Nat → List CpInfo → List CpInfo
  | 0, r => r
  | n + 1, r => .unusable :: gap n r
def poolList (es : List (Nat × CpInfo)) (last : Nat) : List CpInfo := es.foldr (fun e r => gap e.1 (e.2 :: r)) (gap last [])
def pool (es : List (Nat × CpInfo)) (last : Nat) : Array CpInfo := ⟨poolList es last⟩
def fileOf (pool : Array CpInfo) (this : Nat) (attrs : Array Attribute := #[]) (ms : Array MethodInfo := #[]) (fl : Nat := 33) (sup : Nat := 0) (ifs : Array Nat := #[]) (fds : Array FieldInfo := #[]) : ClassFile where
  minorVersion := 0
  majorVersion := 65
  constantPool := pool
  accessFlags := fl
  thisClass := this
  superClass := sup
  interfaces := ifs
  fields := fds
  methods := ms
  attributes := attrs
def plain (name : String) (sup : Option ClassId) : Class where
  name := name
  kind := .ordinary
  loader := none
  accessFlags := 33
  super := sup
  interfaces := #[]
  cf := none
  fields := #[]
  methods := #[]
  instanceTypes := #[]
  staticTypes := #[]
  resolved := #[]
  callSites := []
  init := .initialized
  statics := none
  mirror := none

def pool0 : Array CpInfo := pool [(5, u "<init>"), (0, u "()V"), (1, .class_ 10), (1, u "java/lang/Object")] 113

def k0m0 : Method := { name := "<init>", desc := "()V", sig := { parameters := [], returnType := none }, accessFlags := 1, code := none }
/-- java/lang/Object -/
def k0 : Class := { plain "java/lang/Object" none with
  accessFlags := 33
  interfaces := #[]
  cf := some (fileOf pool0 8 #[] #[{ accessFlags := 1, nameIndex := 5, descriptorIndex := 6, attributes := #[] }] 33 0 #[] #[])
  fields := #[]
  methods := #[k0m0]
  instanceTypes := #[]
  staticTypes := #[]
  resolved := Array.replicate 124 none
  statics := none }

def pool1 : Array CpInfo := pool [(2, .class_ 4), (1, u "java/lang/Object"), (0, u "<init>"), (0, u "()V"), (0, .fieldref 8 9), (0, .class_ 10), (0, .nameAndType 11 12), (0, u "com/example/resolvent/resolvent/core/Scope"), (0, u "COMPILE"), (0, u "Lcom/example/resolvent/resolvent/core/Scope;"), (0, .fieldref 8 14), (0, .nameAndType 15 12), (0, u "RUNTIME"), (0, .methodref 8 17), (0, .nameAndType 18 19), (0, u "through"), (0, u "(Lcom/example/resolvent/resolvent/core/Scope;)Lcom/example/resolvent/resolvent/core/Scope;"), (0, .class_ 21), (0, u "com/example/resolvent/resolvent/core/ScopeThroughPinLaw"), (2, u "law"), (0, u "(II)Z")] 3

def k1m0 : Method := { name := "<init>", desc := "()V", sig := { parameters := [], returnType := none }, accessFlags := 1, code := none }
def k1c1 : Code := { maxStack := 2, maxLocals := 8, code := code, exceptionTable := #[], attributes := #[] }
def k1m1 : Method := { name := "law", desc := "(II)Z", sig := { parameters := [.int, .int], returnType := some .boolean }, accessFlags := 9, code := some k1c1 }
/-- com/example/resolvent/resolvent/core/ScopeThroughPinLaw -/
def k1 : Class := { plain "com/example/resolvent/resolvent/core/ScopeThroughPinLaw" (some 0) with
  accessFlags := 49
  interfaces := #[]
  cf := some (fileOf pool1 20 #[] #[{ accessFlags := 1, nameIndex := 5, descriptorIndex := 6, attributes := #[] }, { accessFlags := 9, nameIndex := 24, descriptorIndex := 25, attributes := #[] }] 49 2 #[] #[])
  fields := #[]
  methods := #[k1m0, k1m1]
  instanceTypes := #[]
  staticTypes := #[]
  resolved := Array.replicate 29 none
  statics := none }

def pool2 : Array CpInfo := pool [(1, .class_ 2), (0, u "java/lang/constant/Constable"), (0, .class_ 4), (0, u "java/lang/Object")] 6

/-- java/lang/constant/Constable -/
def k2 : Class := { plain "java/lang/constant/Constable" (some 0) with
  accessFlags := 1537
  interfaces := #[]
  cf := some (fileOf pool2 1 #[] #[] 1537 3 #[] #[])
  fields := #[]
  methods := #[]
  instanceTypes := #[]
  staticTypes := #[]
  resolved := Array.replicate 11 none
  statics := none }

def pool3 : Array CpInfo := pool [(1, .class_ 2), (0, u "java/lang/Comparable"), (0, .class_ 4), (0, u "java/lang/Object")] 7

/-- java/lang/Comparable -/
def k3 : Class := { plain "java/lang/Comparable" (some 0) with
  accessFlags := 1537
  interfaces := #[]
  cf := some (fileOf pool3 1 #[] #[] 1537 3 #[] #[])
  fields := #[]
  methods := #[]
  instanceTypes := #[]
  staticTypes := #[]
  resolved := Array.replicate 12 none
  statics := none }

def pool4 : Array CpInfo := pool [(1, .class_ 2), (0, u "java/io/Serializable"), (0, .class_ 4), (0, u "java/lang/Object")] 2

/-- java/io/Serializable -/
def k4 : Class := { plain "java/io/Serializable" (some 0) with
  accessFlags := 1537
  interfaces := #[]
  cf := some (fileOf pool4 1 #[] #[] 1537 3 #[] #[])
  fields := #[]
  methods := #[]
  instanceTypes := #[]
  staticTypes := #[]
  resolved := Array.replicate 7 none
  statics := none }

def pool5 : Array CpInfo := pool [(2, .class_ 4), (1, u "java/lang/Enum"), (0, u "name"), (0, u "Ljava/lang/String;"), (2, u "ordinal"), (0, u "I"), (1, .class_ 14), (1, u "java/lang/Object"), (4, u "hash"), (86, .class_ 108), (1, u "java/lang/Enum$EnumDesc"), (2, .class_ 112), (0, u "java/lang/constant/Constable"), (0, .class_ 114), (0, u "java/lang/Comparable"), (0, .class_ 116), (0, u "java/io/Serializable")] 87

/-- java/lang/Enum -/
def k5 : Class := { plain "java/lang/Enum" (some 0) with
  accessFlags := 1057
  interfaces := #[2, 3, 4]
  cf := some (fileOf pool5 2 #[.nestMembers #[106]] #[] 1057 12 #[111, 113, 115] #[{ accessFlags := 18, nameIndex := 5, descriptorIndex := 6, attributes := #[] }, { accessFlags := 18, nameIndex := 9, descriptorIndex := 10, attributes := #[] }, { accessFlags := 2, nameIndex := 19, descriptorIndex := 10, attributes := #[] }])
  fields := #[{ name := "name", type := (.object "java/lang/String"), accessFlags := 18, slot := 0, constantValue := 0 }, { name := "ordinal", type := .int, accessFlags := 18, slot := 1, constantValue := 0 }, { name := "hash", type := .int, accessFlags := 2, slot := 2, constantValue := 0 }]
  methods := #[]
  instanceTypes := #[(.object "java/lang/String"), .int, .int]
  staticTypes := #[]
  resolved := Array.replicate 204 none
  statics := none }

def pool6 : Array CpInfo := pool [(1, .class_ 2), (0, u "com/example/resolvent/resolvent/core/Scope"), (0, .fieldref 1 4), (0, .nameAndType 5 6), (0, u "COMPILE"), (0, u "Lcom/example/resolvent/resolvent/core/Scope;"), (0, .fieldref 1 8), (0, .nameAndType 9 6), (0, u "RUNTIME"), (2, u "$VALUES"), (0, u "[Lcom/example/resolvent/resolvent/core/Scope;"), (6, .class_ 22), (1, u "java/lang/Enum"), (57, u "(Lcom/example/resolvent/resolvent/core/Scope;)Lcom/example/resolvent/resolvent/core/Scope;"), (0, u "through")] 19

def k6c0 : Code := { maxStack := 2, maxLocals := 2, code := prog_23_method_8_code, exceptionTable := #[], attributes := #[] }
def k6m0 : Method := { name := "through", desc := "(Lcom/example/resolvent/resolvent/core/Scope;)Lcom/example/resolvent/resolvent/core/Scope;", sig := { parameters := [(.object "com/example/resolvent/resolvent/core/Scope")], returnType := some (.object "com/example/resolvent/resolvent/core/Scope") }, accessFlags := 0, code := some k6c0 }
/-- com/example/resolvent/resolvent/core/Scope -/
def k6 : Class := { plain "com/example/resolvent/resolvent/core/Scope" (some 5) with
  accessFlags := 16433
  interfaces := #[]
  cf := some (fileOf pool6 1 #[] #[{ accessFlags := 0, nameIndex := 81, descriptorIndex := 80, attributes := #[] }] 16433 20 #[] #[{ accessFlags := 16409, nameIndex := 5, descriptorIndex := 6, attributes := #[] }, { accessFlags := 16409, nameIndex := 9, descriptorIndex := 6, attributes := #[] }, { accessFlags := 4122, nameIndex := 12, descriptorIndex := 13, attributes := #[] }])
  fields := #[{ name := "COMPILE", type := (.object "com/example/resolvent/resolvent/core/Scope"), accessFlags := 16409, slot := 0, constantValue := 0 }, { name := "RUNTIME", type := (.object "com/example/resolvent/resolvent/core/Scope"), accessFlags := 16409, slot := 1, constantValue := 0 }, { name := "$VALUES", type := (.array (.object "com/example/resolvent/resolvent/core/Scope")), accessFlags := 4122, slot := 2, constantValue := 0 }]
  methods := #[k6m0]
  instanceTypes := #[(.object "java/lang/String"), .int, .int]
  staticTypes := #[(.object "com/example/resolvent/resolvent/core/Scope"), (.object "com/example/resolvent/resolvent/core/Scope"), (.array (.object "com/example/resolvent/resolvent/core/Scope"))]
  resolved := Array.replicate 101 none
  statics := some 0 }

def pool7 : Array CpInfo := pool [(1, u "java/lang/Cloneable"), (0, .class_ 1), (0, u "java/lang/Object"), (0, .class_ 3)] 3

/-- java/lang/Cloneable -/
def k7 : Class := { plain "java/lang/Cloneable" (some 0) with
  accessFlags := 1537
  interfaces := #[]
  cf := some (fileOf pool7 2 #[] #[] 1537 4 #[] #[])
  fields := #[]
  methods := #[]
  instanceTypes := #[]
  staticTypes := #[]
  resolved := Array.replicate 8 none
  statics := none }

/-- the primitive byte -/
def k8 : Class := { plain "byte" none with kind := .primitive 'B', accessFlags := 0x411 }
/-- [B -/
def k9 : Class := { plain "[B" (some 0) with kind := .array 8 .byte, interfaces := #[7, 4], accessFlags := 1041 }

/-- the primitive int -/
def k10 : Class := { plain "int" none with kind := .primitive 'I', accessFlags := 0x411 }
/-- [I -/
def k11 : Class := { plain "[I" (some 0) with kind := .array 10 .int, interfaces := #[7, 4], accessFlags := 1041 }

def heap : Heap := #[{ cls := 6, slots := #[.ref 1, .ref 2, .null], vm := .statics 6 },
  { cls := 6, slots := #[.null, .int (0), .int 0], vm := .none },
  { cls := 6, slots := #[.null, .int (1), .int 0], vm := .none }]
def classes : Array Class := #[k0, k1, k2, k3, k4, k5, k6, k7, k8, k9, k10, k11]
def interned : List (Array UInt16 × Addr) := []
def slotsUsed : Nat := 9
def theMethod : MethodId := ⟨1, 1⟩
def args0 : Array Value := #[.int 5, .int 6]
def aboutOver (below : List Frame) : State where
  vm := { classes := classes, interned := interned.toArray }
  heap := heap
  slotsUsed := slotsUsed
  threads := #[{ frames := .invoking theMethod args0 :: below }]
def below0 : List Frame := [.native { method := ⟨0, 0⟩, args := #[] }]
def about1 : State := aboutOver below0
def p0 : Program := .bare "" "" ""
def e0 : Env := launch0.env 0 0 0
theorem w_frames : about1.frames = Frame.invoking theMethod args0 :: below0 := rfl
set_option maxRecDepth 65536 in
theorem w_args : argsFit about1.vm theMethod args0 = true := by decide +kernel
set_option maxRecDepth 65536 in
theorem w_heap : heapFits about1 = true := by decide +kernel
set_option maxRecDepth 65536 in
theorem w_runnable : about1.curStatus? = some .runnable := by decide +kernel
set_option maxRecDepth 65536 in
theorem w_alone : about1.alone = true := by decide +kernel
set_option maxRecDepth 65536 in
theorem w_named : about1.methodNamed? x = some theMethod := by decide +kernel
set_option maxRecDepth 65536 in
theorem w_hears : about1.hears theMethod below0 = true := by decide +kernel
set_option maxRecDepth 65536 in
theorem w_ripe : about1.ripe theMethod args0 below0 = true := by decide +kernel
theorem w_running : about1.status = .running := rfl
set_option maxRecDepth 65536 in
theorem w_room : about1.hasRoom e0.platform room_1 = true :=
  launch0.hasRoom_least _ room_1 (by decide +kernel) (by decide +kernel) (by decide +kernel) (by decide +kernel) (by decide +kernel) (by decide +kernel)
theorem allAtoms_all (ts : List Jvm.Cond) (a : Array Jvm.Value) (st : Jvm.State) : (allAtoms ts).before a st = ts.all (fun c => c.before a st) := by
  induction ts with
  | nil => rfl
  | cons c t ih =>
    show (Jvm.Cond.and c (allAtoms t)).before a st = _
    rw [Jvm.Cond.before_and, ih, List.all_cons]
def words1 : List Jvm.Cond := Jvm.Cond.code x code maxLocals ret :: tables_1
/-- a 'code' word, met by the world's own term for the bytes: nothing is compared byte by byte -/
theorem code_word {y : MethodName} {bytes : ByteArray} {mx : Nat} {rt : Option FieldType} {a : Array Value} {s : State} {m : MethodId} {meth : Method} {c : Code} (h1 : s.methodNamed? y = some m) (h2 : s.vm.method? m = some meth) (h3 : meth.code = some c) (h4 : c.code = bytes)
    (h5 : (c.maxLocals == mx && c.exceptionTable.isEmpty && decide (c.maxStack ≤ mostOperands) && decide (meth.sig.returnType = rt) && !meth.locks && decide (parseMethodDescriptor y.desc = some meth.sig)) = true) : (Jvm.Cond.code y bytes mx rt).before a s = true := by
  simp only [Bool.and_eq_true, beq_iff_eq, Bool.not_eq_true', decide_eq_true_eq] at h5
  obtain ⟨⟨⟨⟨⟨g1, g2⟩, g3⟩, g4⟩, g5⟩, g6⟩ := h5
  simp [Cond.before, Cond.holds, Cond.value, h1, h2, h3, h4, g1, g2, g3, g4, g5, g6]
def isCode : Jvm.Cond → Bool
  | .code _ _ _ _ => true
  | _ => false
theorem all_split {L : List Jvm.Cond} {P : Jvm.Cond → Bool} (h1 : L.all (fun c => isCode c || P c) = true) (h2 : ∀ c ∈ L.filter isCode, P c = true) : L.all P = true := by
  refine List.all_eq_true.mpr fun c hc => ?_
  have h := List.all_eq_true.mp h1 c hc
  rcases Bool.eq_false_or_eq_true (isCode c) with hi | hi
  · exact h2 c (List.mem_filter.mpr ⟨hc, hi⟩)
  · simpa [hi] using h
set_option maxRecDepth 65536 in
theorem w_c0 : (Jvm.Cond.code x code maxLocals ret).before args0 about1 = true := code_word (m := ⟨1, 1⟩) (meth := k1m1) (c := k1c1) (by decide +kernel) rfl rfl rfl (by decide +kernel)
set_option maxRecDepth 65536 in
theorem w_c1 : (Jvm.Cond.code ({ cls := "com/example/resolvent/resolvent/core/Scope", name := "through", desc := "(Lcom/example/resolvent/resolvent/core/Scope;)Lcom/example/resolvent/resolvent/core/Scope;" } : Jvm.MethodName) prog_23_method_8_code (2 : Nat) (Option.some (Jvm.ClassFile.FieldType.object "com/example/resolvent/resolvent/core/Scope"))).before args0 about1 = true := code_word (m := ⟨6, 0⟩) (meth := k6m0) (c := k6c0) (by decide +kernel) rfl rfl rfl (by decide +kernel)
def codes1 : List Jvm.Cond := [Jvm.Cond.code x code maxLocals ret, Jvm.Cond.code ({ cls := "com/example/resolvent/resolvent/core/Scope", name := "through", desc := "(Lcom/example/resolvent/resolvent/core/Scope;)Lcom/example/resolvent/resolvent/core/Scope;" } : Jvm.MethodName) prog_23_method_8_code (2 : Nat) (Option.some (Jvm.ClassFile.FieldType.object "com/example/resolvent/resolvent/core/Scope"))]
set_option maxRecDepth 65536 in
theorem codes_eq : words1.filter isCode = codes1 := rfl
theorem w_codes : ∀ c ∈ words1.filter isCode, c.before args0 about1 = true := by
  rw [codes_eq]
  intro c hc
  simp only [codes1, List.mem_cons, List.not_mem_nil, or_false] at hc
  rcases hc with rfl | rfl
  · exact w_c0
  · exact w_c1
set_option maxRecDepth 65536 in
theorem w_t1 : words1.all (fun c => isCode c || c.before args0 about1) = true := by decide +kernel
theorem w_tables : (allAtoms (Jvm.Cond.code x code maxLocals ret :: tables_1)).before args0 about1 = true := by
  rw [allAtoms_all]
  show words1.all (fun c => c.before args0 about1) = true
  refine all_split ?_ w_codes
  rw [w_t1]
set_option maxRecDepth 65536 in
theorem w_case : (Jvm.Cond.and given_1 narrow_1).before args0 about1 = true := by decide +kernel
theorem w_applies : (headSpec (Jvm.Cond.code x code maxLocals ret :: tables_1) room_1).applies x e0.platform about1 = true :=
  (Spec.applies_iff w_frames).mpr ⟨w_running, w_runnable, w_alone, w_named, w_hears, w_ripe, w_room, w_tables⟩
theorem atStart : AtStart classFile x code maxLocals ret World_1 tables_1 room_1 Calls_1 rest_1 Pre_1 launch0 p0 e0 about1 theMethod args0 below0 :=
  ⟨lists_1, trivial, launch0.admits_env _ _ _, launch0.least_env, fairChoices_fair.cas, fairChoices_fair.clock, w_frames, w_args, w_heap, w_applies, trivial, trivial, w_case⟩
end start1
theorem witness_1 : WitnessClaimed_1 := ⟨start1.p0, start1.e0, start1.about1, start1.theMethod, start1.args0, start1.below0, start1.atStart⟩
end Jvm.Pilot.@@N@@
