import JvmDerived
import JvmDerived.Pilot.@@N@@Statement
import JvmDerived.Pilot.@@N@@Code
set_option linter.unusedVariables false
set_option linter.unusedSimpArgs false
namespace Jvm.RoadKit
open Sem ClassFile Op Lib Jvm.Stand Jvm.Free Jvm.LawKit
section New
variable {p : Program} {l : Launch} {e : Env} {R : Room} {s : State} {m : MethodId} {args : Array Value} {below : List Frame} {meth : Method} {c : Code} {T : State} {locs : List Loc} {cells slots : Nat}
theorem retI (X : Stand p l e R s m args below meth c T locs cells slots) (hx : p.tables.exec = Jvm.exec) {pc : Nat} {Ls : Array Slot} {z : Int32} {rest : List Value} (hret : meth.sig.returnType = some .int) (hd : decode c.code pc = .ok (.ireturn, 1)) {fs : List Frame}
    (hl : ∀ (f : JFrame) (acts : List Action), f.method = m → f.locked = none → f.entered = [] → (doReturn e (T.setTop f) acts (some (.int z))).1 = T.setFrames fs) : Steps p.tables e below (T.setTop (mkF m pc Ls (.int z :: rest))) (T.setFrames fs) :=
  retOut X hx hret rfl (Or.inl ⟨rfl, Or.inl rfl, z, rfl⟩) hd hl
end New
end Jvm.RoadKit
namespace Jvm.Pilot.@@N@@
open Jvm Jvm.ClassFile Sem Op Lib Jvm.Free Jvm.Stand Jvm.LawKit Jvm.RoadKit Bundle Jvm.Pilot.@@N@@.Jvm.D
/-! small laws of this text's own -/
theorem own_eqv {args : Array Value} {first s : State} {o : Option Outcome} {idx : List Nat} {a b : Term} {v : Value} (h : (Jvm.Cond.eq a b).value args first o s idx = some true) (hb : b.eval args first o idx s = some v) : a.eval args first o idx s = some v := by
  cases ha : a.eval args first o idx s with
  | none => simp [Cond.value, ha] at h
  | some x => cases x <;> cases v <;> simp_all [Cond.value]
theorem own_fld {args : Array Value} {s : State} {t b : Term} {x : Addr} {C n d : String} {v : Value} (ht : t.eval args s none [] s = some (.ref x)) (h : (Jvm.Cond.eq (.field t C n d) b).value args s none s [] = some true) (hb : b.eval args s none [] s = some v) : Fld s s.heap x C n d v :=
  Fld.start ((fld_at ht).symm.trans (own_eqv h hb))
theorem own_len {args : Array Value} {s : State} {t : Term} {x : Addr} {c : Cell} {n : Int32} (ht : t.eval args s none [] s = some (.ref x)) (hc : s.heap[x]? = some c) (h : (Jvm.Cond.eq (.length t) (.int n)).value args s none s [] = some true) : c.slots.size < 2 ^ 31 ∧ c.slots.size.toInt32 = n := by
  have e := own_eqv h (v := .int n) rfl
  simp only [Term.eval, ht, Option.bind_eq_bind, Option.bind_some] at e
  cases hq : s.arrayAt? x with
  | none => simp [hq] at e
  | some c' =>
    have h1 := (State.arrayAt?_spec hq).1
    cases hc.symm.trans h1
    simp only [hq, Option.bind_some] at e
    split at e
    · rename_i hl; exact ⟨hl, by simpa using e⟩
    · cases e
theorem own_elem {args : Array Value} {s : State} {t b : Term} {x : Addr} {c : Cell} {j : Int32} {v : Value} (ht : t.eval args s none [] s = some (.ref x)) (hc : s.heap[x]? = some c) (h : (Jvm.Cond.eq (.elem t (.int j)) b).value args s none s [] = some true) (hb : b.eval args s none [] s = some v) : c.slots[j.toNatClampNeg]? = some v :=
  (elem_in (own_eqv h hb) ht rfl hc).2
theorem own_selpriv {y : MethodName} {s : State} {args : Array Value} {n : Nat} (hy : y.cls ≠ "java/lang/invoke/MethodHandle" ∧ y.cls ≠ "java/lang/invoke/VarHandle") (hins : (Jvm.Cond.instantiable y.cls n).before args s = true) (hpriv : (Jvm.Cond.privateMethod y).before args s = true) (hinst : (Jvm.Cond.instanceMethod y).before args s = true) : (Jvm.Cond.selects y.cls y y).before args s = true := by
  obtain ⟨c, k, hc, hk, -, hniab, -, -⟩ := Cond.instantiable_spec hins
  exact Stand.selects_self_of_private hc hk (Bool.or_eq_false_iff.mp hniab).1 (Cond.privateMethod_at hpriv) hinst hy
theorem own_ext {h0 h : Heap} (K : Keep h0 h []) : Ext h0 h := ⟨K.1, fun x c q => K.2.1 x c q (fun z => nomatch z)⟩
theorem own_cat1 {v : Value} (h : v.isRef = true) : v.category = 1 := by cases v <;> first | rfl | simp [Value.isRef] at h
theorem own_narref {t : FieldType} {v : Value} (h : t.isReference = true) (hv : v.isRef = true) : narrow t v = v := by
  cases v <;> first | (simp [Value.isRef] at hv; done) | (cases t <;> first | rfl | simp [FieldType.isReference] at h)
theorem own_store1 {l : Array Slot} {i : Nat} {v : Value} {o : Slot} (hold : l[i]? = some o) (ho : o = .unset ∨ ∃ w, o = .val w ∧ w.category = 1) (hv : v.category = 1) : storeLocals l i v = some (l.setIfInBounds i (.val v)) := XS.store1 hold ho hv
def own_Base (Z : State) (u : Nat → Addr) : Prop :=
  (Sta Z Z.heap "com/example/smazzata/smazzata/card/Suit" "DENARI" "Lcom/example/smazzata/smazzata/card/Suit;" (.ref (u 0))) ∧
  (Exa Z Z.heap (u 0) "com/example/smazzata/smazzata/card/Suit") ∧
  (Sta Z Z.heap "com/example/smazzata/smazzata/card/Suit" "$VALUES" "[Lcom/example/smazzata/smazzata/card/Suit;" (.ref (u 1))) ∧
  (Exa Z Z.heap (u 1) "[Lcom/example/smazzata/smazzata/card/Suit;") ∧
  (Sta Z Z.heap "com/example/smazzata/smazzata/card/Suit" "COPPE" "Lcom/example/smazzata/smazzata/card/Suit;" (.ref (u 2))) ∧
  (Exa Z Z.heap (u 2) "com/example/smazzata/smazzata/card/Suit") ∧
  (Sta Z Z.heap "com/example/smazzata/smazzata/card/Suit" "BASTONI" "Lcom/example/smazzata/smazzata/card/Suit;" (.ref (u 3))) ∧
  (Exa Z Z.heap (u 3) "com/example/smazzata/smazzata/card/Suit") ∧
  (Sta Z Z.heap "com/example/smazzata/smazzata/card/Suit" "SPADE" "Lcom/example/smazzata/smazzata/card/Suit;" (.ref (u 4))) ∧
  (Exa Z Z.heap (u 4) "com/example/smazzata/smazzata/card/Suit") ∧
  (Fld Z Z.heap (u 0) "com/example/smazzata/smazzata/card/Suit" "code" "C" (.int (68 : Int32))) ∧
  (∃ k, Arv Z Z.heap (u 1) k (.object "com/example/smazzata/smazzata/card/Suit") (4 : Int32) [.ref (u 0), .ref (u 2), .ref (u 3), .ref (u 4)] .null) ∧
  (Fld Z Z.heap (u 2) "com/example/smazzata/smazzata/card/Suit" "code" "C" (.int (67 : Int32))) ∧
  (Fld Z Z.heap (u 3) "com/example/smazzata/smazzata/card/Suit" "code" "C" (.int (66 : Int32))) ∧
  (Fld Z Z.heap (u 4) "com/example/smazzata/smazzata/card/Suit" "code" "C" (.int (83 : Int32)))
theorem own_pd0 : parseMethodDescriptor "()[Lcom/example/smazzata/smazzata/card/Suit;" = some ⟨[], some (.array (.object "com/example/smazzata/smazzata/card/Suit"))⟩ := by decide +kernel
theorem own_pd1 : parseMethodDescriptor "(C)Lcom/example/smazzata/smazzata/card/Suit;" = some ⟨[.char], some (.object "com/example/smazzata/smazzata/card/Suit")⟩ := by decide +kernel
theorem own_pd2 : parseMethodDescriptor "()C" = some ⟨[], some .char⟩ := by decide +kernel
theorem d3_0 : decode prog_13_method_1_code 0 = .ok (.getstatic 16, 3) := by decide +kernel
theorem d3_3 : decode prog_13_method_1_code 3 = .ok (.invokevirtual 20, 3) := by decide +kernel
theorem d3_6 : decode prog_13_method_1_code 6 = .ok (.checkcast 21, 3) := by decide +kernel
theorem d3_9 : decode prog_13_method_1_code 9 = .ok (.areturn, 1) := by decide +kernel
theorem own_pn_3 : plainName "com/example/smazzata/smazzata/card/Suit" = true := by first | (simp [plainName, overriddenIn]; done) | decide +kernel
theorem own_ef_3 (m : MethodId)  : entryFrame m #[] 0 = mkF m 0 #[] [] := by first | (simp [entryFrame, mkF, argsToLocals, Value.category]; done) | rfl
def own_Q3 (Z : State) (u : Nat → Addr)  (h0 : Heap) (n0 : Nat) (v : Option Value) (h : Heap) (L : List Loc) : Prop := ∃ b : Addr, v = some (.ref b) ∧ Fr n0 L ∧ Ext h0 h ∧ n0 ≤ b ∧ h0.size ≤ b ∧ ∃ k, Arv Z h b k (.object "com/example/smazzata/smazzata/card/Suit") (4 : Int32) [.ref (u 0), .ref (u 2), .ref (u 3), .ref (u 4)] .null
set_option maxRecDepth 65536 in
set_option maxHeartbeats 40000000 in
theorem rm3 (l : Launch) (Z : State) (a0 : Array Value) (hw : ∀ d ∈ tables_1, d.before a0 Z = true) (ws : List Jvm.Cond) (u : Nat → Addr)  (B : own_Base Z u) (h0 : Heap) (n0 : Nat) (O : Old Z n0 h0) :
    MetFree l (⟨"com/example/smazzata/smazzata/card/Suit", "values", "()[Lcom/example/smazzata/smazzata/card/Suit;"⟩ : MethodName) (head1 (Jvm.Cond.code (⟨"com/example/smazzata/smazzata/card/Suit", "values", "()[Lcom/example/smazzata/smazzata/card/Suit;"⟩ : MethodName) prog_13_method_1_code 0 (some (.array (.object "com/example/smazzata/smazzata/card/Suit"))) :: ws) ({ frames := 1, cells := 1, slots := 4, locals := 14 } : Room)) (fun a U => a = #[] ∧ Z.Warmed39 U.vm ∧ U.heap = h0) (fun _ _ _ _ _ => True) (fun _ U o U' => ∃ v L, o = .returned v ∧ own_Q3 Z u  h0 n0 v U'.heap L ∧ FrameEnd U o U' L ({ frames := 1, cells := 1, slots := 4, locals := 14 } : Room).cells ({ frames := 1, cells := 1, slots := 4, locals := 14 } : Room).slots) := by
  refine MetFree.of_bodySF (plainFor_of_name own_pn_3) hisR ?_
  intro p e s m args below meth c s₁ Bd hml0 hP hK
  obtain ⟨rfl, hZ, hh⟩ := hP
  have hx := Bd.exec
  have hby := Bd.bytes
  have hml : c.maxLocals = 0 := hml0
  have hown : s.vm.findClass "com/example/smazzata/smazzata/card/Suit" = some m.cls := findClass_of_methodNamed Bd.named
  have hnm := (name_of_methodNamed Bd.named Bd.method).1
  have X0 : Stand p l e ({ frames := 1, cells := 1, slots := 4, locals := 14 } : Room) s m #[] below meth c s₁ [] 0 0 := Stand.of_body Bd
  have e0 : s₁.heap = h0 := by rw [← hh, Bd.state]; rfl
  have N0 := Fr.nil n0
  have K0 := Keep.refl h0 []
  have Z0 : n0 ≤ h0.size := O.1 ▸ O.2.1
  have pre0 : ∀ t, Steps p.tables e below (s₁.setTop (mkF m 0 #[] [])) t → Steps p.tables e below (s₁.setTop (entryFrame m #[] 0)) t := fun t k => castTop (own_ef_3 m ) k
  obtain ⟨T1, X1, e1, st1⟩ := getS2 X0 hx hZ hown (host := "") (Or.inl (hw _ (List.mem_of_getElem? (i := 13) rfl))) Via.refl e0 (B.2.2.1.ext O.2) (g := (mkF m 0 #[] [])) rfl (hb hby d3_0)
  obtain ⟨kA1, VA1⟩ := id B.2.2.2.2.2.2.2.2.2.2.2.1
  obtain ⟨T2, h2, X2, e2, E2, A2, G2, st2⟩ := cloneH X1 hx hZ hown (hw _ (List.mem_of_getElem? (i := 15) rfl)) (hw _ (List.mem_of_getElem? (i := 16) rfl)) (hw _ (List.mem_of_getElem? (i := 20) rfl)) (hw _ (List.mem_of_getElem? (i := 18) rfl)) (hw _ (List.mem_of_getElem? (i := 19) rfl)) (hw _ (List.mem_of_getElem? (i := 21) rfl)) e1 (Arv.arh (VA1.ext O.2)) (B.2.2.2.1.ext O.2) (g := (mkF m 3 #[] [(.ref (u 1))])) rfl (by rw [hml]; rfl) rfl (hb hby d3_3) (by decide) (W := 0) (cap := 4) (by show 2 * 0 + _ ≤ _; exact Nat.le_of_eq rfl) (by decide) (by decide) (by decide) (by decide)
  obtain ⟨b2, g2⟩ : ∃ z, z = h0.size := ⟨_, rfl⟩
  rw [← g2] at A2 G2 st2
  have gx_b2 : n0 ≤ b2 := Nat.le_trans (O.1 ▸ O.2.1) (Nat.le_of_eq g2.symm)
  have sz_b2 : h0.size ≤ b2 := Nat.le_trans K0.1 (Nat.le_of_eq g2.symm)
  have O2 := O.ext E2
  have K2 := K0.ext E2
  have V_b2 : Arv Z h2 b2 kA1 (.object "com/example/smazzata/smazzata/card/Suit") (4 : Int32) [.ref (u 0), .ref (u 2), .ref (u 3), .ref (u 4)] .null := A2
  obtain ⟨T3, X3, e3, st3⟩ := castY X2 hx hZ hown (hw _ (List.mem_of_getElem? (i := 26) rfl)) e2 (Ins.self G2) (g := (mkF m 6 #[] [(.ref b2)])) rfl rfl (hb hby d3_6)
  obtain ⟨fs, hr, hrun, hended, hW, hsame⟩ := X3.leave (v := some (.ref b2)) (fun h => by rw [Bd.returns] at h; cases h)
  refine ⟨_, _, pre0 _ ?_, hrun, hended, _, _, rfl, ?_, ⟨_, rfl⟩, hW, hsame.mono (by decide) (by decide)⟩
  · show Steps p.tables e below (s₁.setTop (mkF m 0 #[] [])) _
    refine st1 _ ?_
    show Steps p.tables e below (T1.setTop (mkF m 3 #[] [(.ref (u 1))])) _
    refine st2 _ ?_
    show Steps p.tables e below (T2.setTop (mkF m 6 #[] [(.ref b2)])) _
    refine st3 _ ?_
    show Steps p.tables e below (T3.setTop (mkF m 9 #[] [(.ref b2)])) _
    exact retOut X3 hx Bd.returns (own_narref rfl rfl) (Or.inr (Or.inr (Or.inr (Or.inr ⟨rfl, rfl, rfl⟩)))) (hb hby d3_9) hr
  · show own_Q3 Z u  h0 n0 _ T3.heap _
    rw [e3]
    exact ⟨b2, rfl, N0, own_ext K2, gx_b2, sz_b2, _, V_b2⟩
theorem d2_0 : decode prog_13_method_5_code 0 = .ok (.invokestatic 39, 3) := by decide +kernel
theorem d2_3 : decode prog_13_method_5_code 3 = .ok (.astore_n 1, 1) := by decide +kernel
theorem d2_4 : decode prog_13_method_5_code 4 = .ok (.aload_n 1, 1) := by decide +kernel
theorem d2_5 : decode prog_13_method_5_code 5 = .ok (.arraylength, 1) := by decide +kernel
theorem d2_6 : decode prog_13_method_5_code 6 = .ok (.istore_n 2, 1) := by decide +kernel
theorem d2_7 : decode prog_13_method_5_code 7 = .ok (.iconst 0, 1) := by decide +kernel
theorem d2_8 : decode prog_13_method_5_code 8 = .ok (.istore_n 3, 1) := by decide +kernel
theorem d2_9 : decode prog_13_method_5_code 9 = .ok (.iload_n 3, 1) := by decide +kernel
theorem d2_10 : decode prog_13_method_5_code 10 = .ok (.iload_n 2, 1) := by decide +kernel
theorem d2_11 : decode prog_13_method_5_code 11 = .ok (.if_icmp .ge 26, 3) := by decide +kernel
theorem d2_14 : decode prog_13_method_5_code 14 = .ok (.aload_n 1, 1) := by decide +kernel
theorem d2_15 : decode prog_13_method_5_code 15 = .ok (.iload_n 3, 1) := by decide +kernel
theorem d2_16 : decode prog_13_method_5_code 16 = .ok (.aaload, 1) := by decide +kernel
theorem d2_17 : decode prog_13_method_5_code 17 = .ok (.astore 4, 2) := by decide +kernel
theorem d2_19 : decode prog_13_method_5_code 19 = .ok (.aload 4, 2) := by decide +kernel
theorem d2_21 : decode prog_13_method_5_code 21 = .ok (.getfield 35, 3) := by decide +kernel
theorem d2_24 : decode prog_13_method_5_code 24 = .ok (.iload_n 0, 1) := by decide +kernel
theorem d2_25 : decode prog_13_method_5_code 25 = .ok (.if_icmp .ne 6, 3) := by decide +kernel
theorem d2_28 : decode prog_13_method_5_code 28 = .ok (.aload 4, 2) := by decide +kernel
theorem d2_30 : decode prog_13_method_5_code 30 = .ok (.areturn, 1) := by decide +kernel
theorem d2_31 : decode prog_13_method_5_code 31 = .ok (.iinc 3 1, 3) := by decide +kernel
theorem d2_34 : decode prog_13_method_5_code 34 = .ok (.goto (-25), 3) := by decide +kernel
theorem d2_37 : decode prog_13_method_5_code 37 = .ok (.aconst_null, 1) := by decide +kernel
theorem d2_38 : decode prog_13_method_5_code 38 = .ok (.areturn, 1) := by decide +kernel
theorem own_pn_2 : plainName "com/example/smazzata/smazzata/card/Suit" = true := by first | (simp [plainName, overriddenIn]; done) | decide +kernel
theorem own_ef_2 (m : MethodId) (x0 : Int32) : entryFrame m #[(.int x0)] 5 = mkF m 0 #[.val (.int x0), .unset, .unset, .unset, .unset] [] := by first | (simp [entryFrame, mkF, argsToLocals, Value.category]; done) | rfl
def own_r2 (u : Nat → Addr) (p0 : Int32) : Value :=
  if (68 : Int32) = p0 then
    (.ref (u 0))
  else
    if (67 : Int32) = p0 then
      (.ref (u 2))
    else
      if (66 : Int32) = p0 then
        (.ref (u 3))
      else
        if (83 : Int32) = p0 then
          (.ref (u 4))
        else
          .null
theorem own_r2_ref {u : Nat → Addr} {p0 : Int32} : (own_r2 u p0).isRef = true := by
  unfold own_r2
  repeat' split
  all_goals rfl
def own_Q2 (Z : State) (u : Nat → Addr) (p0 : Int32) (h0 : Heap) (n0 : Nat) (v : Option Value) (h : Heap) (L : List Loc) : Prop := v = some (own_r2 u p0) ∧ Fr n0 L ∧ Ext h0 h
set_option maxRecDepth 65536 in
set_option maxHeartbeats 40000000 in
theorem rm2 (l : Launch) (Z : State) (a0 : Array Value) (hw : ∀ d ∈ tables_1, d.before a0 Z = true) (ws : List Jvm.Cond) (u : Nat → Addr) (p0 : Int32) (B : own_Base Z u) (h0 : Heap) (n0 : Nat) (O : Old Z n0 h0) :
    MetFree l (⟨"com/example/smazzata/smazzata/card/Suit", "fromCode", "(C)Lcom/example/smazzata/smazzata/card/Suit;"⟩ : MethodName) (head1 (Jvm.Cond.code (⟨"com/example/smazzata/smazzata/card/Suit", "fromCode", "(C)Lcom/example/smazzata/smazzata/card/Suit;"⟩ : MethodName) prog_13_method_5_code 5 (some (.object "com/example/smazzata/smazzata/card/Suit")) :: ws) ({ frames := 2, cells := 1, slots := 4, locals := 25 } : Room)) (fun a U => a = #[(.int p0)] ∧ Z.Warmed39 U.vm ∧ U.heap = h0) (fun _ _ _ _ _ => True) (fun _ U o U' => ∃ v L, o = .returned v ∧ own_Q2 Z u p0 h0 n0 v U'.heap L ∧ FrameEnd U o U' L ({ frames := 2, cells := 1, slots := 4, locals := 25 } : Room).cells ({ frames := 2, cells := 1, slots := 4, locals := 25 } : Room).slots) := by
  refine MetFree.of_bodySF (plainFor_of_name own_pn_2) hisR ?_
  intro p e s m args below meth c s₁ Bd hml0 hP hK
  obtain ⟨rfl, hZ, hh⟩ := hP
  have hx := Bd.exec
  have hby := Bd.bytes
  have hml : c.maxLocals = 5 := hml0
  have hown : s.vm.findClass "com/example/smazzata/smazzata/card/Suit" = some m.cls := findClass_of_methodNamed Bd.named
  have hnm := (name_of_methodNamed Bd.named Bd.method).1
  have X0 : Stand p l e ({ frames := 2, cells := 1, slots := 4, locals := 25 } : Room) s m #[(.int p0)] below meth c s₁ [] 0 0 := Stand.of_body Bd
  have e0 : s₁.heap = h0 := by rw [← hh, Bd.state]; rfl
  have N0 := Fr.nil n0
  have K0 := Keep.refl h0 []
  have Z0 : n0 ≤ h0.size := O.1 ▸ O.2.1
  have pre0 : ∀ t, Steps p.tables e below (s₁.setTop (mkF m 0 #[.val (.int p0), .unset, .unset, .unset, .unset] [])) t → Steps p.tables e below (s₁.setTop (entryFrame m #[(.int p0)] 5)) t := fun t k => castTop (own_ef_2 m p0) k
  obtain ⟨vr5, _, ⟨T5, L5, k5, n5⟩, -, X5, ⟨Lc5, hQ5, l5, y5, z5⟩, st5⟩ := Jvm.LawKit.callS X0 hx (y := (⟨"com/example/smazzata/smazzata/card/Suit", "values", "()[Lcom/example/smazzata/smazzata/card/Suit;"⟩ : MethodName)) hown (mvT hZ (hw _ (List.mem_of_getElem? (i := 10) rfl))) (mvT hZ (hw _ (List.mem_of_getElem? (i := 11) rfl))) (mvT hZ (hw _ (List.mem_of_getElem? (i := 5) rfl))) (mvT hZ (hw _ (List.mem_of_getElem? (i := 12) rfl))) (by decide) (backOf (W := 0) (rm3 l Z a0 hw [] u  B h0 n0 O ) hZ (hw _ (List.mem_of_getElem? (i := 12) rfl)) (hw _ (List.mem_of_getElem? (i := 5) rfl)) (by decide) (by decide)) (g := (mkF m 0 #[.val (.int p0), .unset, .unset, .unset, .unset] [])) rfl (by rw [hml]; rfl) (argsL := []) (rest := []) (lenOf own_pd0 rfl) rfl (by show 2 * 0 + _ ≤ _; exact Nat.le_of_eq rfl) (hb hby d2_0) (fun _ _ => ⟨rfl, e0, (by decide : 0 + 1 ≤ _), (by decide : 0 + 4 ≤ _)⟩)
  dsimp only [Pt.U, Pt.locs, Pt.cells, Pt.slots] at X5 l5 y5 z5 st5 hQ5
  subst l5 y5 z5
  obtain ⟨b5, rfl, N5q, E5, gx_b5, zz5, k5v, V_b5⟩ := hQ5
  have N5 := Fr.app N0 N5q
  have sz_b5 : h0.size ≤ b5 := Nat.le_trans K0.1 zz5
  have O5 := O.ext E5
  have K5 := K0.ext E5
  obtain ⟨cl6, Ar6, -, S6, N6, -, -⟩ := id V_b5
  obtain ⟨cl7, Ar7, -, S7, N7, H7, -⟩ := id V_b5
  have hin7 : ¬ ((0 : Int32) < 0 ∨ cl7.slots.size ≤ ((0 : Int32)).toNatClampNeg) := inb_of S7 ⟨by decide, by decide⟩
  obtain ⟨T8, X8, e8, st8⟩ := getF X5 hx hZ hown (host := "") (Or.inl (hw _ (List.mem_of_getElem? (i := 28) rfl))) Via.refl rfl (B.2.2.2.2.2.2.2.2.2.2.1.ext O5.2) (g := (mkF m 21 #[.val (.int p0), .val (.ref b5), .val (.int (4 : Int32)), .val (.int (0 : Int32)), .val (.ref (u 0))] [(.ref (u 0))])) rfl rfl (hb hby d2_21)
  have pre9 : ∀ t, Steps p.tables e below (T8.setTop (mkF m 25 #[.val (.int p0), .val (.ref b5), .val (.int (4 : Int32)), .val (.int (0 : Int32)), .val (.ref (u 0))] [(.int p0), (.int (68 : Int32))])) t → Steps p.tables e below (s₁.setTop (entryFrame m #[(.int p0)] 5)) t := fun t kt => pre0 t (by
    show Steps p.tables e below (s₁.setTop (mkF m 0 #[.val (.int p0), .unset, .unset, .unset, .unset] [])) _
    refine st5 _ ?_
    show Steps p.tables e below (T5.setTop (mkF m 3 #[.val (.int p0), .unset, .unset, .unset, .unset] [(.ref b5)])) _
    refine XS.astoreN X5.here hx rfl (hb hby d2_3) rfl rfl (l' := #[.val (.int p0), .val (.ref b5), .unset, .unset, .unset]) rfl ?_
    show Steps p.tables e below (T5.setTop (mkF m 4 #[.val (.int p0), .val (.ref b5), .unset, .unset, .unset] [])) _
    refine XS.aloadN X5.here hx rfl (hb hby d2_4) rfl rfl ?_
    show Steps p.tables e below (T5.setTop (mkF m 5 #[.val (.int p0), .val (.ref b5), .unset, .unset, .unset] [(.ref b5)])) _
    refine X5.arraylength hx Ar6.1 (State.isArrayOf_alike hZ.alike Ar6.2.1) (g := (mkF m 5 #[.val (.int p0), .val (.ref b5), .unset, .unset, .unset] [(.ref b5)])) rfl rfl (hb hby d2_5) _ ?_
    rw [len_of S6 N6]
    show Steps p.tables e below (T5.setTop (mkF m 6 #[.val (.int p0), .val (.ref b5), .unset, .unset, .unset] [(.int (4 : Int32))])) _
    refine XS.istoreN X5.here hx rfl (hb hby d2_6) rfl (l' := #[.val (.int p0), .val (.ref b5), .val (.int (4 : Int32)), .unset, .unset]) rfl ?_
    show Steps p.tables e below (T5.setTop (mkF m 7 #[.val (.int p0), .val (.ref b5), .val (.int (4 : Int32)), .unset, .unset] [])) _
    refine XS.iconst X5.here hx rfl (hb hby d2_7) ?_
    show Steps p.tables e below (T5.setTop (mkF m 8 #[.val (.int p0), .val (.ref b5), .val (.int (4 : Int32)), .unset, .unset] [(.int (0 : Int32))])) _
    refine XS.istoreN X5.here hx rfl (hb hby d2_8) rfl (l' := #[.val (.int p0), .val (.ref b5), .val (.int (4 : Int32)), .val (.int (0 : Int32)), .unset]) rfl ?_
    show Steps p.tables e below (T5.setTop (mkF m 9 #[.val (.int p0), .val (.ref b5), .val (.int (4 : Int32)), .val (.int (0 : Int32)), .unset] [])) _
    refine XS.iloadN X5.here hx rfl (hb hby d2_9) rfl ?_
    show Steps p.tables e below (T5.setTop (mkF m 10 #[.val (.int p0), .val (.ref b5), .val (.int (4 : Int32)), .val (.int (0 : Int32)), .unset] [(.int (0 : Int32))])) _
    refine XS.iloadN X5.here hx rfl (hb hby d2_10) rfl ?_
    show Steps p.tables e below (T5.setTop (mkF m 11 #[.val (.int p0), .val (.ref b5), .val (.int (4 : Int32)), .val (.int (0 : Int32)), .unset] [(.int (4 : Int32)), (.int (0 : Int32))])) _
    refine XS.icmpNo X5.here hx rfl (hb hby d2_11) rfl (tlt (by decide : (0 : Int32) < (4 : Int32))).2.1 ?_
    show Steps p.tables e below (T5.setTop (mkF m 14 #[.val (.int p0), .val (.ref b5), .val (.int (4 : Int32)), .val (.int (0 : Int32)), .unset] [])) _
    refine XS.aloadN X5.here hx rfl (hb hby d2_14) rfl rfl ?_
    show Steps p.tables e below (T5.setTop (mkF m 15 #[.val (.int p0), .val (.ref b5), .val (.int (4 : Int32)), .val (.int (0 : Int32)), .unset] [(.ref b5)])) _
    refine XS.iloadN X5.here hx rfl (hb hby d2_15) rfl ?_
    show Steps p.tables e below (T5.setTop (mkF m 16 #[.val (.int p0), .val (.ref b5), .val (.int (4 : Int32)), .val (.int (0 : Int32)), .unset] [(.int (0 : Int32)), (.ref b5)])) _
    refine X5.aaload hx (j := (0 : Int32)) (v := (.ref (u 0))) Ar7.1 (State.isArrayOf_alike hZ.alike Ar7.2.1) rfl Ar7.2.2 hin7 (H7.at hin7 rfl) (g := (mkF m 16 #[.val (.int p0), .val (.ref b5), .val (.int (4 : Int32)), .val (.int (0 : Int32)), .unset] [(.int (0 : Int32)), (.ref b5)])) rfl rfl (hb hby d2_16) _ ?_
    show Steps p.tables e below (T5.setTop (mkF m 17 #[.val (.int p0), .val (.ref b5), .val (.int (4 : Int32)), .val (.int (0 : Int32)), .unset] [(.ref (u 0))])) _
    refine XS.astore X5.here hx rfl (hb hby d2_17) rfl rfl (l' := #[.val (.int p0), .val (.ref b5), .val (.int (4 : Int32)), .val (.int (0 : Int32)), .val (.ref (u 0))]) rfl ?_
    show Steps p.tables e below (T5.setTop (mkF m 19 #[.val (.int p0), .val (.ref b5), .val (.int (4 : Int32)), .val (.int (0 : Int32)), .val (.ref (u 0))] [])) _
    refine XS.aload X5.here hx rfl (hb hby d2_19) rfl rfl ?_
    show Steps p.tables e below (T5.setTop (mkF m 21 #[.val (.int p0), .val (.ref b5), .val (.int (4 : Int32)), .val (.int (0 : Int32)), .val (.ref (u 0))] [(.ref (u 0))])) _
    refine st8 _ ?_
    show Steps p.tables e below (T8.setTop (mkF m 24 #[.val (.int p0), .val (.ref b5), .val (.int (4 : Int32)), .val (.int (0 : Int32)), .val (.ref (u 0))] [(.int (68 : Int32))])) _
    refine XS.iloadN X8.here hx rfl (hb hby d2_24) rfl ?_
    exact kt)
  by_cases hc10 : (68 : Int32) = p0
  · --
    obtain ⟨fs, hr, hrun, hended, hW, hsame⟩ := X8.leave (v := some (.ref (u 0))) (fun h => by rw [Bd.returns] at h; cases h)
    refine ⟨_, _, pre9 _ ?_, hrun, hended, _, _, rfl, ?_, ⟨_, rfl⟩, hW, hsame.mono (by decide) (by decide)⟩
    · show Steps p.tables e below (T8.setTop (mkF m 25 #[.val (.int p0), .val (.ref b5), .val (.int (4 : Int32)), .val (.int (0 : Int32)), .val (.ref (u 0))] [(.int p0), (.int (68 : Int32))])) _
      refine XS.icmpNo X8.here hx rfl (hb hby d2_25) rfl (teq hc10).2 ?_
      show Steps p.tables e below (T8.setTop (mkF m 28 #[.val (.int p0), .val (.ref b5), .val (.int (4 : Int32)), .val (.int (0 : Int32)), .val (.ref (u 0))] [])) _
      refine XS.aload X8.here hx rfl (hb hby d2_28) rfl rfl ?_
      show Steps p.tables e below (T8.setTop (mkF m 30 #[.val (.int p0), .val (.ref b5), .val (.int (4 : Int32)), .val (.int (0 : Int32)), .val (.ref (u 0))] [(.ref (u 0))])) _
      exact retOut X8 hx Bd.returns (own_narref rfl rfl) (Or.inr (Or.inr (Or.inr (Or.inr ⟨rfl, rfl, rfl⟩)))) (hb hby d2_30) hr
    · show own_Q2 Z u p0 h0 n0 _ T8.heap _
      rw [e8]
      exact ⟨(by unfold own_r2; rw [if_pos hc10]), N5, own_ext K5⟩
  · --
    obtain ⟨cl12, Ar12, -, S12, N12, H12, -⟩ := id V_b5
    have hin12 : ¬ ((1 : Int32) < 0 ∨ cl12.slots.size ≤ ((1 : Int32)).toNatClampNeg) := inb_of S12 ⟨by decide, by decide⟩
    obtain ⟨T13, X13, e13, st13⟩ := getF X8 hx hZ hown (host := "") (Or.inl (hw _ (List.mem_of_getElem? (i := 28) rfl))) Via.refl e8 (B.2.2.2.2.2.2.2.2.2.2.2.2.1.ext O5.2) (g := (mkF m 21 #[.val (.int p0), .val (.ref b5), .val (.int (4 : Int32)), .val (.int (1 : Int32)), .val (.ref (u 2))] [(.ref (u 2))])) rfl rfl (hb hby d2_21)
    have pre14 : ∀ t, Steps p.tables e below (T13.setTop (mkF m 25 #[.val (.int p0), .val (.ref b5), .val (.int (4 : Int32)), .val (.int (1 : Int32)), .val (.ref (u 2))] [(.int p0), (.int (67 : Int32))])) t → Steps p.tables e below (s₁.setTop (entryFrame m #[(.int p0)] 5)) t := fun t kt => pre9 t (by
      show Steps p.tables e below (T8.setTop (mkF m 25 #[.val (.int p0), .val (.ref b5), .val (.int (4 : Int32)), .val (.int (0 : Int32)), .val (.ref (u 0))] [(.int p0), (.int (68 : Int32))])) _
      refine XS.icmpYes X8.here hx rfl (pc0 := 25) (pc' := 31) rfl (hb hby d2_25) rfl (feq hc10).2 (by decide) (by decide) ?_
      show Steps p.tables e below (T8.setTop (mkF m 31 #[.val (.int p0), .val (.ref b5), .val (.int (4 : Int32)), .val (.int (0 : Int32)), .val (.ref (u 0))] [])) _
      refine XS.iinc X8.here hx rfl (hb hby d2_31) rfl (l' := #[.val (.int p0), .val (.ref b5), .val (.int (4 : Int32)), .val (.int (1 : Int32)), .val (.ref (u 0))]) rfl ?_
      show Steps p.tables e below (T8.setTop (mkF m 34 #[.val (.int p0), .val (.ref b5), .val (.int (4 : Int32)), .val (.int (1 : Int32)), .val (.ref (u 0))] [])) _
      refine XS.goto X8.here hx rfl (pc0 := 34) (pc' := 9) rfl (hb hby d2_34) (by decide) (by decide) ?_
      show Steps p.tables e below (T8.setTop (mkF m 9 #[.val (.int p0), .val (.ref b5), .val (.int (4 : Int32)), .val (.int (1 : Int32)), .val (.ref (u 0))] [])) _
      refine XS.iloadN X8.here hx rfl (hb hby d2_9) rfl ?_
      show Steps p.tables e below (T8.setTop (mkF m 10 #[.val (.int p0), .val (.ref b5), .val (.int (4 : Int32)), .val (.int (1 : Int32)), .val (.ref (u 0))] [(.int (1 : Int32))])) _
      refine XS.iloadN X8.here hx rfl (hb hby d2_10) rfl ?_
      show Steps p.tables e below (T8.setTop (mkF m 11 #[.val (.int p0), .val (.ref b5), .val (.int (4 : Int32)), .val (.int (1 : Int32)), .val (.ref (u 0))] [(.int (4 : Int32)), (.int (1 : Int32))])) _
      refine XS.icmpNo X8.here hx rfl (hb hby d2_11) rfl (tlt (by decide : (1 : Int32) < (4 : Int32))).2.1 ?_
      show Steps p.tables e below (T8.setTop (mkF m 14 #[.val (.int p0), .val (.ref b5), .val (.int (4 : Int32)), .val (.int (1 : Int32)), .val (.ref (u 0))] [])) _
      refine XS.aloadN X8.here hx rfl (hb hby d2_14) rfl rfl ?_
      show Steps p.tables e below (T8.setTop (mkF m 15 #[.val (.int p0), .val (.ref b5), .val (.int (4 : Int32)), .val (.int (1 : Int32)), .val (.ref (u 0))] [(.ref b5)])) _
      refine XS.iloadN X8.here hx rfl (hb hby d2_15) rfl ?_
      show Steps p.tables e below (T8.setTop (mkF m 16 #[.val (.int p0), .val (.ref b5), .val (.int (4 : Int32)), .val (.int (1 : Int32)), .val (.ref (u 0))] [(.int (1 : Int32)), (.ref b5)])) _
      refine X8.aaload hx (j := (1 : Int32)) (v := (.ref (u 2))) (by rw [e8]; exact Ar12.1) (State.isArrayOf_alike hZ.alike Ar12.2.1) rfl Ar12.2.2 hin12 (H12.at hin12 rfl) (g := (mkF m 16 #[.val (.int p0), .val (.ref b5), .val (.int (4 : Int32)), .val (.int (1 : Int32)), .val (.ref (u 0))] [(.int (1 : Int32)), (.ref b5)])) rfl rfl (hb hby d2_16) _ ?_
      show Steps p.tables e below (T8.setTop (mkF m 17 #[.val (.int p0), .val (.ref b5), .val (.int (4 : Int32)), .val (.int (1 : Int32)), .val (.ref (u 0))] [(.ref (u 2))])) _
      refine XS.astore X8.here hx rfl (hb hby d2_17) rfl rfl (l' := #[.val (.int p0), .val (.ref b5), .val (.int (4 : Int32)), .val (.int (1 : Int32)), .val (.ref (u 2))]) rfl ?_
      show Steps p.tables e below (T8.setTop (mkF m 19 #[.val (.int p0), .val (.ref b5), .val (.int (4 : Int32)), .val (.int (1 : Int32)), .val (.ref (u 2))] [])) _
      refine XS.aload X8.here hx rfl (hb hby d2_19) rfl rfl ?_
      show Steps p.tables e below (T8.setTop (mkF m 21 #[.val (.int p0), .val (.ref b5), .val (.int (4 : Int32)), .val (.int (1 : Int32)), .val (.ref (u 2))] [(.ref (u 2))])) _
      refine st13 _ ?_
      show Steps p.tables e below (T13.setTop (mkF m 24 #[.val (.int p0), .val (.ref b5), .val (.int (4 : Int32)), .val (.int (1 : Int32)), .val (.ref (u 2))] [(.int (67 : Int32))])) _
      refine XS.iloadN X13.here hx rfl (hb hby d2_24) rfl ?_
      exact kt)
    by_cases hc15 : (67 : Int32) = p0
    · --
      obtain ⟨fs, hr, hrun, hended, hW, hsame⟩ := X13.leave (v := some (.ref (u 2))) (fun h => by rw [Bd.returns] at h; cases h)
      refine ⟨_, _, pre14 _ ?_, hrun, hended, _, _, rfl, ?_, ⟨_, rfl⟩, hW, hsame.mono (by decide) (by decide)⟩
      · show Steps p.tables e below (T13.setTop (mkF m 25 #[.val (.int p0), .val (.ref b5), .val (.int (4 : Int32)), .val (.int (1 : Int32)), .val (.ref (u 2))] [(.int p0), (.int (67 : Int32))])) _
        refine XS.icmpNo X13.here hx rfl (hb hby d2_25) rfl (teq hc15).2 ?_
        show Steps p.tables e below (T13.setTop (mkF m 28 #[.val (.int p0), .val (.ref b5), .val (.int (4 : Int32)), .val (.int (1 : Int32)), .val (.ref (u 2))] [])) _
        refine XS.aload X13.here hx rfl (hb hby d2_28) rfl rfl ?_
        show Steps p.tables e below (T13.setTop (mkF m 30 #[.val (.int p0), .val (.ref b5), .val (.int (4 : Int32)), .val (.int (1 : Int32)), .val (.ref (u 2))] [(.ref (u 2))])) _
        exact retOut X13 hx Bd.returns (own_narref rfl rfl) (Or.inr (Or.inr (Or.inr (Or.inr ⟨rfl, rfl, rfl⟩)))) (hb hby d2_30) hr
      · show own_Q2 Z u p0 h0 n0 _ T13.heap _
        rw [e13]
        exact ⟨(by unfold own_r2; rw [if_neg hc10, if_pos hc15]), N5, own_ext K5⟩
    · --
      obtain ⟨cl17, Ar17, -, S17, N17, H17, -⟩ := id V_b5
      have hin17 : ¬ ((2 : Int32) < 0 ∨ cl17.slots.size ≤ ((2 : Int32)).toNatClampNeg) := inb_of S17 ⟨by decide, by decide⟩
      obtain ⟨T18, X18, e18, st18⟩ := getF X13 hx hZ hown (host := "") (Or.inl (hw _ (List.mem_of_getElem? (i := 28) rfl))) Via.refl e13 (B.2.2.2.2.2.2.2.2.2.2.2.2.2.1.ext O5.2) (g := (mkF m 21 #[.val (.int p0), .val (.ref b5), .val (.int (4 : Int32)), .val (.int (2 : Int32)), .val (.ref (u 3))] [(.ref (u 3))])) rfl rfl (hb hby d2_21)
      have pre19 : ∀ t, Steps p.tables e below (T18.setTop (mkF m 25 #[.val (.int p0), .val (.ref b5), .val (.int (4 : Int32)), .val (.int (2 : Int32)), .val (.ref (u 3))] [(.int p0), (.int (66 : Int32))])) t → Steps p.tables e below (s₁.setTop (entryFrame m #[(.int p0)] 5)) t := fun t kt => pre14 t (by
        show Steps p.tables e below (T13.setTop (mkF m 25 #[.val (.int p0), .val (.ref b5), .val (.int (4 : Int32)), .val (.int (1 : Int32)), .val (.ref (u 2))] [(.int p0), (.int (67 : Int32))])) _
        refine XS.icmpYes X13.here hx rfl (pc0 := 25) (pc' := 31) rfl (hb hby d2_25) rfl (feq hc15).2 (by decide) (by decide) ?_
        show Steps p.tables e below (T13.setTop (mkF m 31 #[.val (.int p0), .val (.ref b5), .val (.int (4 : Int32)), .val (.int (1 : Int32)), .val (.ref (u 2))] [])) _
        refine XS.iinc X13.here hx rfl (hb hby d2_31) rfl (l' := #[.val (.int p0), .val (.ref b5), .val (.int (4 : Int32)), .val (.int (2 : Int32)), .val (.ref (u 2))]) rfl ?_
        show Steps p.tables e below (T13.setTop (mkF m 34 #[.val (.int p0), .val (.ref b5), .val (.int (4 : Int32)), .val (.int (2 : Int32)), .val (.ref (u 2))] [])) _
        refine XS.goto X13.here hx rfl (pc0 := 34) (pc' := 9) rfl (hb hby d2_34) (by decide) (by decide) ?_
        show Steps p.tables e below (T13.setTop (mkF m 9 #[.val (.int p0), .val (.ref b5), .val (.int (4 : Int32)), .val (.int (2 : Int32)), .val (.ref (u 2))] [])) _
        refine XS.iloadN X13.here hx rfl (hb hby d2_9) rfl ?_
        show Steps p.tables e below (T13.setTop (mkF m 10 #[.val (.int p0), .val (.ref b5), .val (.int (4 : Int32)), .val (.int (2 : Int32)), .val (.ref (u 2))] [(.int (2 : Int32))])) _
        refine XS.iloadN X13.here hx rfl (hb hby d2_10) rfl ?_
        show Steps p.tables e below (T13.setTop (mkF m 11 #[.val (.int p0), .val (.ref b5), .val (.int (4 : Int32)), .val (.int (2 : Int32)), .val (.ref (u 2))] [(.int (4 : Int32)), (.int (2 : Int32))])) _
        refine XS.icmpNo X13.here hx rfl (hb hby d2_11) rfl (tlt (by decide : (2 : Int32) < (4 : Int32))).2.1 ?_
        show Steps p.tables e below (T13.setTop (mkF m 14 #[.val (.int p0), .val (.ref b5), .val (.int (4 : Int32)), .val (.int (2 : Int32)), .val (.ref (u 2))] [])) _
        refine XS.aloadN X13.here hx rfl (hb hby d2_14) rfl rfl ?_
        show Steps p.tables e below (T13.setTop (mkF m 15 #[.val (.int p0), .val (.ref b5), .val (.int (4 : Int32)), .val (.int (2 : Int32)), .val (.ref (u 2))] [(.ref b5)])) _
        refine XS.iloadN X13.here hx rfl (hb hby d2_15) rfl ?_
        show Steps p.tables e below (T13.setTop (mkF m 16 #[.val (.int p0), .val (.ref b5), .val (.int (4 : Int32)), .val (.int (2 : Int32)), .val (.ref (u 2))] [(.int (2 : Int32)), (.ref b5)])) _
        refine X13.aaload hx (j := (2 : Int32)) (v := (.ref (u 3))) (by rw [e13]; exact Ar17.1) (State.isArrayOf_alike hZ.alike Ar17.2.1) rfl Ar17.2.2 hin17 (H17.at hin17 rfl) (g := (mkF m 16 #[.val (.int p0), .val (.ref b5), .val (.int (4 : Int32)), .val (.int (2 : Int32)), .val (.ref (u 2))] [(.int (2 : Int32)), (.ref b5)])) rfl rfl (hb hby d2_16) _ ?_
        show Steps p.tables e below (T13.setTop (mkF m 17 #[.val (.int p0), .val (.ref b5), .val (.int (4 : Int32)), .val (.int (2 : Int32)), .val (.ref (u 2))] [(.ref (u 3))])) _
        refine XS.astore X13.here hx rfl (hb hby d2_17) rfl rfl (l' := #[.val (.int p0), .val (.ref b5), .val (.int (4 : Int32)), .val (.int (2 : Int32)), .val (.ref (u 3))]) rfl ?_
        show Steps p.tables e below (T13.setTop (mkF m 19 #[.val (.int p0), .val (.ref b5), .val (.int (4 : Int32)), .val (.int (2 : Int32)), .val (.ref (u 3))] [])) _
        refine XS.aload X13.here hx rfl (hb hby d2_19) rfl rfl ?_
        show Steps p.tables e below (T13.setTop (mkF m 21 #[.val (.int p0), .val (.ref b5), .val (.int (4 : Int32)), .val (.int (2 : Int32)), .val (.ref (u 3))] [(.ref (u 3))])) _
        refine st18 _ ?_
        show Steps p.tables e below (T18.setTop (mkF m 24 #[.val (.int p0), .val (.ref b5), .val (.int (4 : Int32)), .val (.int (2 : Int32)), .val (.ref (u 3))] [(.int (66 : Int32))])) _
        refine XS.iloadN X18.here hx rfl (hb hby d2_24) rfl ?_
        exact kt)
      by_cases hc20 : (66 : Int32) = p0
      · --
        obtain ⟨fs, hr, hrun, hended, hW, hsame⟩ := X18.leave (v := some (.ref (u 3))) (fun h => by rw [Bd.returns] at h; cases h)
        refine ⟨_, _, pre19 _ ?_, hrun, hended, _, _, rfl, ?_, ⟨_, rfl⟩, hW, hsame.mono (by decide) (by decide)⟩
        · show Steps p.tables e below (T18.setTop (mkF m 25 #[.val (.int p0), .val (.ref b5), .val (.int (4 : Int32)), .val (.int (2 : Int32)), .val (.ref (u 3))] [(.int p0), (.int (66 : Int32))])) _
          refine XS.icmpNo X18.here hx rfl (hb hby d2_25) rfl (teq hc20).2 ?_
          show Steps p.tables e below (T18.setTop (mkF m 28 #[.val (.int p0), .val (.ref b5), .val (.int (4 : Int32)), .val (.int (2 : Int32)), .val (.ref (u 3))] [])) _
          refine XS.aload X18.here hx rfl (hb hby d2_28) rfl rfl ?_
          show Steps p.tables e below (T18.setTop (mkF m 30 #[.val (.int p0), .val (.ref b5), .val (.int (4 : Int32)), .val (.int (2 : Int32)), .val (.ref (u 3))] [(.ref (u 3))])) _
          exact retOut X18 hx Bd.returns (own_narref rfl rfl) (Or.inr (Or.inr (Or.inr (Or.inr ⟨rfl, rfl, rfl⟩)))) (hb hby d2_30) hr
        · show own_Q2 Z u p0 h0 n0 _ T18.heap _
          rw [e18]
          exact ⟨(by unfold own_r2; rw [if_neg hc10, if_neg hc15, if_pos hc20]), N5, own_ext K5⟩
      · --
        obtain ⟨cl22, Ar22, -, S22, N22, H22, -⟩ := id V_b5
        have hin22 : ¬ ((3 : Int32) < 0 ∨ cl22.slots.size ≤ ((3 : Int32)).toNatClampNeg) := inb_of S22 ⟨by decide, by decide⟩
        obtain ⟨T23, X23, e23, st23⟩ := getF X18 hx hZ hown (host := "") (Or.inl (hw _ (List.mem_of_getElem? (i := 28) rfl))) Via.refl e18 (B.2.2.2.2.2.2.2.2.2.2.2.2.2.2.ext O5.2) (g := (mkF m 21 #[.val (.int p0), .val (.ref b5), .val (.int (4 : Int32)), .val (.int (3 : Int32)), .val (.ref (u 4))] [(.ref (u 4))])) rfl rfl (hb hby d2_21)
        have pre24 : ∀ t, Steps p.tables e below (T23.setTop (mkF m 25 #[.val (.int p0), .val (.ref b5), .val (.int (4 : Int32)), .val (.int (3 : Int32)), .val (.ref (u 4))] [(.int p0), (.int (83 : Int32))])) t → Steps p.tables e below (s₁.setTop (entryFrame m #[(.int p0)] 5)) t := fun t kt => pre19 t (by
          show Steps p.tables e below (T18.setTop (mkF m 25 #[.val (.int p0), .val (.ref b5), .val (.int (4 : Int32)), .val (.int (2 : Int32)), .val (.ref (u 3))] [(.int p0), (.int (66 : Int32))])) _
          refine XS.icmpYes X18.here hx rfl (pc0 := 25) (pc' := 31) rfl (hb hby d2_25) rfl (feq hc20).2 (by decide) (by decide) ?_
          show Steps p.tables e below (T18.setTop (mkF m 31 #[.val (.int p0), .val (.ref b5), .val (.int (4 : Int32)), .val (.int (2 : Int32)), .val (.ref (u 3))] [])) _
          refine XS.iinc X18.here hx rfl (hb hby d2_31) rfl (l' := #[.val (.int p0), .val (.ref b5), .val (.int (4 : Int32)), .val (.int (3 : Int32)), .val (.ref (u 3))]) rfl ?_
          show Steps p.tables e below (T18.setTop (mkF m 34 #[.val (.int p0), .val (.ref b5), .val (.int (4 : Int32)), .val (.int (3 : Int32)), .val (.ref (u 3))] [])) _
          refine XS.goto X18.here hx rfl (pc0 := 34) (pc' := 9) rfl (hb hby d2_34) (by decide) (by decide) ?_
          show Steps p.tables e below (T18.setTop (mkF m 9 #[.val (.int p0), .val (.ref b5), .val (.int (4 : Int32)), .val (.int (3 : Int32)), .val (.ref (u 3))] [])) _
          refine XS.iloadN X18.here hx rfl (hb hby d2_9) rfl ?_
          show Steps p.tables e below (T18.setTop (mkF m 10 #[.val (.int p0), .val (.ref b5), .val (.int (4 : Int32)), .val (.int (3 : Int32)), .val (.ref (u 3))] [(.int (3 : Int32))])) _
          refine XS.iloadN X18.here hx rfl (hb hby d2_10) rfl ?_
          show Steps p.tables e below (T18.setTop (mkF m 11 #[.val (.int p0), .val (.ref b5), .val (.int (4 : Int32)), .val (.int (3 : Int32)), .val (.ref (u 3))] [(.int (4 : Int32)), (.int (3 : Int32))])) _
          refine XS.icmpNo X18.here hx rfl (hb hby d2_11) rfl (tlt (by decide : (3 : Int32) < (4 : Int32))).2.1 ?_
          show Steps p.tables e below (T18.setTop (mkF m 14 #[.val (.int p0), .val (.ref b5), .val (.int (4 : Int32)), .val (.int (3 : Int32)), .val (.ref (u 3))] [])) _
          refine XS.aloadN X18.here hx rfl (hb hby d2_14) rfl rfl ?_
          show Steps p.tables e below (T18.setTop (mkF m 15 #[.val (.int p0), .val (.ref b5), .val (.int (4 : Int32)), .val (.int (3 : Int32)), .val (.ref (u 3))] [(.ref b5)])) _
          refine XS.iloadN X18.here hx rfl (hb hby d2_15) rfl ?_
          show Steps p.tables e below (T18.setTop (mkF m 16 #[.val (.int p0), .val (.ref b5), .val (.int (4 : Int32)), .val (.int (3 : Int32)), .val (.ref (u 3))] [(.int (3 : Int32)), (.ref b5)])) _
          refine X18.aaload hx (j := (3 : Int32)) (v := (.ref (u 4))) (by rw [e18]; exact Ar22.1) (State.isArrayOf_alike hZ.alike Ar22.2.1) rfl Ar22.2.2 hin22 (H22.at hin22 rfl) (g := (mkF m 16 #[.val (.int p0), .val (.ref b5), .val (.int (4 : Int32)), .val (.int (3 : Int32)), .val (.ref (u 3))] [(.int (3 : Int32)), (.ref b5)])) rfl rfl (hb hby d2_16) _ ?_
          show Steps p.tables e below (T18.setTop (mkF m 17 #[.val (.int p0), .val (.ref b5), .val (.int (4 : Int32)), .val (.int (3 : Int32)), .val (.ref (u 3))] [(.ref (u 4))])) _
          refine XS.astore X18.here hx rfl (hb hby d2_17) rfl rfl (l' := #[.val (.int p0), .val (.ref b5), .val (.int (4 : Int32)), .val (.int (3 : Int32)), .val (.ref (u 4))]) rfl ?_
          show Steps p.tables e below (T18.setTop (mkF m 19 #[.val (.int p0), .val (.ref b5), .val (.int (4 : Int32)), .val (.int (3 : Int32)), .val (.ref (u 4))] [])) _
          refine XS.aload X18.here hx rfl (hb hby d2_19) rfl rfl ?_
          show Steps p.tables e below (T18.setTop (mkF m 21 #[.val (.int p0), .val (.ref b5), .val (.int (4 : Int32)), .val (.int (3 : Int32)), .val (.ref (u 4))] [(.ref (u 4))])) _
          refine st23 _ ?_
          show Steps p.tables e below (T23.setTop (mkF m 24 #[.val (.int p0), .val (.ref b5), .val (.int (4 : Int32)), .val (.int (3 : Int32)), .val (.ref (u 4))] [(.int (83 : Int32))])) _
          refine XS.iloadN X23.here hx rfl (hb hby d2_24) rfl ?_
          exact kt)
        by_cases hc25 : (83 : Int32) = p0
        · --
          obtain ⟨fs, hr, hrun, hended, hW, hsame⟩ := X23.leave (v := some (.ref (u 4))) (fun h => by rw [Bd.returns] at h; cases h)
          refine ⟨_, _, pre24 _ ?_, hrun, hended, _, _, rfl, ?_, ⟨_, rfl⟩, hW, hsame.mono (by decide) (by decide)⟩
          · show Steps p.tables e below (T23.setTop (mkF m 25 #[.val (.int p0), .val (.ref b5), .val (.int (4 : Int32)), .val (.int (3 : Int32)), .val (.ref (u 4))] [(.int p0), (.int (83 : Int32))])) _
            refine XS.icmpNo X23.here hx rfl (hb hby d2_25) rfl (teq hc25).2 ?_
            show Steps p.tables e below (T23.setTop (mkF m 28 #[.val (.int p0), .val (.ref b5), .val (.int (4 : Int32)), .val (.int (3 : Int32)), .val (.ref (u 4))] [])) _
            refine XS.aload X23.here hx rfl (hb hby d2_28) rfl rfl ?_
            show Steps p.tables e below (T23.setTop (mkF m 30 #[.val (.int p0), .val (.ref b5), .val (.int (4 : Int32)), .val (.int (3 : Int32)), .val (.ref (u 4))] [(.ref (u 4))])) _
            exact retOut X23 hx Bd.returns (own_narref rfl rfl) (Or.inr (Or.inr (Or.inr (Or.inr ⟨rfl, rfl, rfl⟩)))) (hb hby d2_30) hr
          · show own_Q2 Z u p0 h0 n0 _ T23.heap _
            rw [e23]
            exact ⟨(by unfold own_r2; rw [if_neg hc10, if_neg hc15, if_neg hc20, if_pos hc25]), N5, own_ext K5⟩
        · --
          obtain ⟨fs, hr, hrun, hended, hW, hsame⟩ := X23.leave (v := some .null) (fun h => by rw [Bd.returns] at h; cases h)
          refine ⟨_, _, pre24 _ ?_, hrun, hended, _, _, rfl, ?_, ⟨_, rfl⟩, hW, hsame.mono (by decide) (by decide)⟩
          · show Steps p.tables e below (T23.setTop (mkF m 25 #[.val (.int p0), .val (.ref b5), .val (.int (4 : Int32)), .val (.int (3 : Int32)), .val (.ref (u 4))] [(.int p0), (.int (83 : Int32))])) _
            refine XS.icmpYes X23.here hx rfl (pc0 := 25) (pc' := 31) rfl (hb hby d2_25) rfl (feq hc25).2 (by decide) (by decide) ?_
            show Steps p.tables e below (T23.setTop (mkF m 31 #[.val (.int p0), .val (.ref b5), .val (.int (4 : Int32)), .val (.int (3 : Int32)), .val (.ref (u 4))] [])) _
            refine XS.iinc X23.here hx rfl (hb hby d2_31) rfl (l' := #[.val (.int p0), .val (.ref b5), .val (.int (4 : Int32)), .val (.int (4 : Int32)), .val (.ref (u 4))]) rfl ?_
            show Steps p.tables e below (T23.setTop (mkF m 34 #[.val (.int p0), .val (.ref b5), .val (.int (4 : Int32)), .val (.int (4 : Int32)), .val (.ref (u 4))] [])) _
            refine XS.goto X23.here hx rfl (pc0 := 34) (pc' := 9) rfl (hb hby d2_34) (by decide) (by decide) ?_
            show Steps p.tables e below (T23.setTop (mkF m 9 #[.val (.int p0), .val (.ref b5), .val (.int (4 : Int32)), .val (.int (4 : Int32)), .val (.ref (u 4))] [])) _
            refine XS.iloadN X23.here hx rfl (hb hby d2_9) rfl ?_
            show Steps p.tables e below (T23.setTop (mkF m 10 #[.val (.int p0), .val (.ref b5), .val (.int (4 : Int32)), .val (.int (4 : Int32)), .val (.ref (u 4))] [(.int (4 : Int32))])) _
            refine XS.iloadN X23.here hx rfl (hb hby d2_10) rfl ?_
            show Steps p.tables e below (T23.setTop (mkF m 11 #[.val (.int p0), .val (.ref b5), .val (.int (4 : Int32)), .val (.int (4 : Int32)), .val (.ref (u 4))] [(.int (4 : Int32)), (.int (4 : Int32))])) _
            refine XS.icmpYes X23.here hx rfl (pc0 := 11) (pc' := 37) rfl (hb hby d2_11) rfl (flt (by decide : ¬ ((4 : Int32) < (4 : Int32)))).2.1 (by decide) (by decide) ?_
            show Steps p.tables e below (T23.setTop (mkF m 37 #[.val (.int p0), .val (.ref b5), .val (.int (4 : Int32)), .val (.int (4 : Int32)), .val (.ref (u 4))] [])) _
            refine XS.aconstNull X23.here hx rfl (hb hby d2_37) ?_
            show Steps p.tables e below (T23.setTop (mkF m 38 #[.val (.int p0), .val (.ref b5), .val (.int (4 : Int32)), .val (.int (4 : Int32)), .val (.ref (u 4))] [.null])) _
            exact retOut X23 hx Bd.returns (own_narref rfl rfl) (Or.inr (Or.inr (Or.inr (Or.inr ⟨rfl, rfl, rfl⟩)))) (hb hby d2_38) hr
          · show own_Q2 Z u p0 h0 n0 _ T23.heap _
            rw [e23]
            exact ⟨(by unfold own_r2; rw [if_neg hc10, if_neg hc15, if_neg hc20, if_neg hc25]), N5, own_ext K5⟩
theorem d1_0 : decode method_3_code 0 = .ok (.iload_n 0, 1) := by decide +kernel
theorem d1_1 : decode method_3_code 1 = .ok (.bipush 68, 2) := by decide +kernel
theorem d1_3 : decode method_3_code 3 = .ok (.if_icmp .ne 7, 3) := by decide +kernel
theorem d1_6 : decode method_3_code 6 = .ok (.getstatic 22, 3) := by decide +kernel
theorem d1_9 : decode method_3_code 9 = .ok (.areturn, 1) := by decide +kernel
theorem d1_10 : decode method_3_code 10 = .ok (.iload_n 0, 1) := by decide +kernel
theorem d1_11 : decode method_3_code 11 = .ok (.bipush 67, 2) := by decide +kernel
theorem d1_13 : decode method_3_code 13 = .ok (.if_icmp .ne 7, 3) := by decide +kernel
theorem d1_16 : decode method_3_code 16 = .ok (.getstatic 26, 3) := by decide +kernel
theorem d1_19 : decode method_3_code 19 = .ok (.areturn, 1) := by decide +kernel
theorem d1_20 : decode method_3_code 20 = .ok (.iload_n 0, 1) := by decide +kernel
theorem d1_21 : decode method_3_code 21 = .ok (.bipush 66, 2) := by decide +kernel
theorem d1_23 : decode method_3_code 23 = .ok (.if_icmp .ne 7, 3) := by decide +kernel
theorem d1_26 : decode method_3_code 26 = .ok (.getstatic 29, 3) := by decide +kernel
theorem d1_29 : decode method_3_code 29 = .ok (.areturn, 1) := by decide +kernel
theorem d1_30 : decode method_3_code 30 = .ok (.iload_n 0, 1) := by decide +kernel
theorem d1_31 : decode method_3_code 31 = .ok (.bipush 83, 2) := by decide +kernel
theorem d1_33 : decode method_3_code 33 = .ok (.if_icmp .ne 7, 3) := by decide +kernel
theorem d1_36 : decode method_3_code 36 = .ok (.getstatic 32, 3) := by decide +kernel
theorem d1_39 : decode method_3_code 39 = .ok (.areturn, 1) := by decide +kernel
theorem d1_40 : decode method_3_code 40 = .ok (.aconst_null, 1) := by decide +kernel
theorem d1_41 : decode method_3_code 41 = .ok (.areturn, 1) := by decide +kernel
theorem own_pn_1 : plainName "com/example/smazzata/smazzata/card/SuitFromCodePinLaw" = true := by first | (simp [plainName, overriddenIn]; done) | decide +kernel
theorem own_ef_1 (m : MethodId) (x0 : Int32) : entryFrame m #[(.int x0)] 1 = mkF m 0 #[.val (.int x0)] [] := by first | (simp [entryFrame, mkF, argsToLocals, Value.category]; done) | rfl
def own_r1 (u : Nat → Addr) (p0 : Int32) : Value :=
  if p0 = (68 : Int32) then
    (.ref (u 0))
  else
    if p0 = (67 : Int32) then
      (.ref (u 2))
    else
      if p0 = (66 : Int32) then
        (.ref (u 3))
      else
        if p0 = (83 : Int32) then
          (.ref (u 4))
        else
          .null
theorem own_r1_ref {u : Nat → Addr} {p0 : Int32} : (own_r1 u p0).isRef = true := by
  unfold own_r1
  repeat' split
  all_goals rfl
def own_Q1 (Z : State) (u : Nat → Addr) (p0 : Int32) (h0 : Heap) (n0 : Nat) (v : Option Value) (h : Heap) (L : List Loc) : Prop := v = some (own_r1 u p0) ∧ Fr n0 L ∧ h = h0
set_option maxRecDepth 65536 in
set_option maxHeartbeats 40000000 in
theorem rm1 (l : Launch) (Z : State) (a0 : Array Value) (hw : ∀ d ∈ tables_1, d.before a0 Z = true) (ws : List Jvm.Cond) (u : Nat → Addr) (p0 : Int32) (B : own_Base Z u) (h0 : Heap) (n0 : Nat) (O : Old Z n0 h0) :
    MetFree l (⟨"com/example/smazzata/smazzata/card/SuitFromCodePinLaw", "reference", "(C)Lcom/example/smazzata/smazzata/card/Suit;"⟩ : MethodName) (head1 (Jvm.Cond.code (⟨"com/example/smazzata/smazzata/card/SuitFromCodePinLaw", "reference", "(C)Lcom/example/smazzata/smazzata/card/Suit;"⟩ : MethodName) method_3_code 1 (some (.object "com/example/smazzata/smazzata/card/Suit")) :: ws) ({ frames := 0, cells := 0, slots := 0, locals := 0 } : Room)) (fun a U => a = #[(.int p0)] ∧ Z.Warmed39 U.vm ∧ U.heap = h0) (fun _ _ _ _ _ => True) (fun _ U o U' => ∃ v L, o = .returned v ∧ own_Q1 Z u p0 h0 n0 v U'.heap L ∧ FrameEnd U o U' L ({ frames := 0, cells := 0, slots := 0, locals := 0 } : Room).cells ({ frames := 0, cells := 0, slots := 0, locals := 0 } : Room).slots) := by
  refine MetFree.of_bodySF (plainFor_of_name own_pn_1) hisR ?_
  intro p e s m args below meth c s₁ Bd hml0 hP hK
  obtain ⟨rfl, hZ, hh⟩ := hP
  have hx := Bd.exec
  have hby := Bd.bytes
  have hml : c.maxLocals = 1 := hml0
  have hown : s.vm.findClass "com/example/smazzata/smazzata/card/SuitFromCodePinLaw" = some m.cls := findClass_of_methodNamed Bd.named
  have hnm := (name_of_methodNamed Bd.named Bd.method).1
  have X0 : Stand p l e ({ frames := 0, cells := 0, slots := 0, locals := 0 } : Room) s m #[(.int p0)] below meth c s₁ [] 0 0 := Stand.of_body Bd
  have e0 : s₁.heap = h0 := by rw [← hh, Bd.state]; rfl
  have N0 := Fr.nil n0
  have K0 := Keep.refl h0 []
  have Z0 : n0 ≤ h0.size := O.1 ▸ O.2.1
  have pre0 : ∀ t, Steps p.tables e below (s₁.setTop (mkF m 0 #[.val (.int p0)] [])) t → Steps p.tables e below (s₁.setTop (entryFrame m #[(.int p0)] 1)) t := fun t k => castTop (own_ef_1 m p0) k
  have pre28 : ∀ t, Steps p.tables e below (s₁.setTop (mkF m 3 #[.val (.int p0)] [(.int (68 : Int32)), (.int p0)])) t → Steps p.tables e below (s₁.setTop (entryFrame m #[(.int p0)] 1)) t := fun t kt => pre0 t (by
    show Steps p.tables e below (s₁.setTop (mkF m 0 #[.val (.int p0)] [])) _
    refine XS.iloadN X0.here hx rfl (hb hby d1_0) rfl ?_
    show Steps p.tables e below (s₁.setTop (mkF m 1 #[.val (.int p0)] [(.int p0)])) _
    refine XS.bipush X0.here hx rfl (hb hby d1_1) ?_
    exact kt)
  by_cases hc29 : p0 = (68 : Int32)
  · --
    obtain ⟨T30, X30, e30, st30⟩ := getS2 X0 hx hZ hown (host := "") (Or.inl (hw _ (List.mem_of_getElem? (i := 4) rfl))) Via.refl e0 (B.1.ext O.2) (g := (mkF m 6 #[.val (.int p0)] [])) rfl (hb hby d1_6)
    obtain ⟨fs, hr, hrun, hended, hW, hsame⟩ := X30.leave (v := some (.ref (u 0))) (fun h => by rw [Bd.returns] at h; cases h)
    refine ⟨_, _, pre28 _ ?_, hrun, hended, _, _, rfl, ?_, ⟨_, rfl⟩, hW, hsame.mono (by decide) (by decide)⟩
    · show Steps p.tables e below (s₁.setTop (mkF m 3 #[.val (.int p0)] [(.int (68 : Int32)), (.int p0)])) _
      refine XS.icmpNo X0.here hx rfl (hb hby d1_3) rfl (teq hc29).2 ?_
      show Steps p.tables e below (s₁.setTop (mkF m 6 #[.val (.int p0)] [])) _
      refine st30 _ ?_
      show Steps p.tables e below (T30.setTop (mkF m 9 #[.val (.int p0)] [(.ref (u 0))])) _
      exact retOut X30 hx Bd.returns (own_narref rfl rfl) (Or.inr (Or.inr (Or.inr (Or.inr ⟨rfl, rfl, rfl⟩)))) (hb hby d1_9) hr
    · show own_Q1 Z u p0 h0 n0 _ T30.heap _
      rw [e30]
      exact ⟨(by unfold own_r1; rw [if_pos hc29]), N0, rfl⟩
  · --
    have pre32 : ∀ t, Steps p.tables e below (s₁.setTop (mkF m 13 #[.val (.int p0)] [(.int (67 : Int32)), (.int p0)])) t → Steps p.tables e below (s₁.setTop (entryFrame m #[(.int p0)] 1)) t := fun t kt => pre28 t (by
      show Steps p.tables e below (s₁.setTop (mkF m 3 #[.val (.int p0)] [(.int (68 : Int32)), (.int p0)])) _
      refine XS.icmpYes X0.here hx rfl (pc0 := 3) (pc' := 10) rfl (hb hby d1_3) rfl (feq hc29).2 (by decide) (by decide) ?_
      show Steps p.tables e below (s₁.setTop (mkF m 10 #[.val (.int p0)] [])) _
      refine XS.iloadN X0.here hx rfl (hb hby d1_10) rfl ?_
      show Steps p.tables e below (s₁.setTop (mkF m 11 #[.val (.int p0)] [(.int p0)])) _
      refine XS.bipush X0.here hx rfl (hb hby d1_11) ?_
      exact kt)
    by_cases hc33 : p0 = (67 : Int32)
    · --
      obtain ⟨T34, X34, e34, st34⟩ := getS2 X0 hx hZ hown (host := "") (Or.inl (hw _ (List.mem_of_getElem? (i := 36) rfl))) Via.refl e0 (B.2.2.2.2.1.ext O.2) (g := (mkF m 16 #[.val (.int p0)] [])) rfl (hb hby d1_16)
      obtain ⟨fs, hr, hrun, hended, hW, hsame⟩ := X34.leave (v := some (.ref (u 2))) (fun h => by rw [Bd.returns] at h; cases h)
      refine ⟨_, _, pre32 _ ?_, hrun, hended, _, _, rfl, ?_, ⟨_, rfl⟩, hW, hsame.mono (by decide) (by decide)⟩
      · show Steps p.tables e below (s₁.setTop (mkF m 13 #[.val (.int p0)] [(.int (67 : Int32)), (.int p0)])) _
        refine XS.icmpNo X0.here hx rfl (hb hby d1_13) rfl (teq hc33).2 ?_
        show Steps p.tables e below (s₁.setTop (mkF m 16 #[.val (.int p0)] [])) _
        refine st34 _ ?_
        show Steps p.tables e below (T34.setTop (mkF m 19 #[.val (.int p0)] [(.ref (u 2))])) _
        exact retOut X34 hx Bd.returns (own_narref rfl rfl) (Or.inr (Or.inr (Or.inr (Or.inr ⟨rfl, rfl, rfl⟩)))) (hb hby d1_19) hr
      · show own_Q1 Z u p0 h0 n0 _ T34.heap _
        rw [e34]
        exact ⟨(by unfold own_r1; rw [if_neg hc29, if_pos hc33]), N0, rfl⟩
    · --
      have pre36 : ∀ t, Steps p.tables e below (s₁.setTop (mkF m 23 #[.val (.int p0)] [(.int (66 : Int32)), (.int p0)])) t → Steps p.tables e below (s₁.setTop (entryFrame m #[(.int p0)] 1)) t := fun t kt => pre32 t (by
        show Steps p.tables e below (s₁.setTop (mkF m 13 #[.val (.int p0)] [(.int (67 : Int32)), (.int p0)])) _
        refine XS.icmpYes X0.here hx rfl (pc0 := 13) (pc' := 20) rfl (hb hby d1_13) rfl (feq hc33).2 (by decide) (by decide) ?_
        show Steps p.tables e below (s₁.setTop (mkF m 20 #[.val (.int p0)] [])) _
        refine XS.iloadN X0.here hx rfl (hb hby d1_20) rfl ?_
        show Steps p.tables e below (s₁.setTop (mkF m 21 #[.val (.int p0)] [(.int p0)])) _
        refine XS.bipush X0.here hx rfl (hb hby d1_21) ?_
        exact kt)
      by_cases hc37 : p0 = (66 : Int32)
      · --
        obtain ⟨T38, X38, e38, st38⟩ := getS2 X0 hx hZ hown (host := "") (Or.inl (hw _ (List.mem_of_getElem? (i := 37) rfl))) Via.refl e0 (B.2.2.2.2.2.2.1.ext O.2) (g := (mkF m 26 #[.val (.int p0)] [])) rfl (hb hby d1_26)
        obtain ⟨fs, hr, hrun, hended, hW, hsame⟩ := X38.leave (v := some (.ref (u 3))) (fun h => by rw [Bd.returns] at h; cases h)
        refine ⟨_, _, pre36 _ ?_, hrun, hended, _, _, rfl, ?_, ⟨_, rfl⟩, hW, hsame.mono (by decide) (by decide)⟩
        · show Steps p.tables e below (s₁.setTop (mkF m 23 #[.val (.int p0)] [(.int (66 : Int32)), (.int p0)])) _
          refine XS.icmpNo X0.here hx rfl (hb hby d1_23) rfl (teq hc37).2 ?_
          show Steps p.tables e below (s₁.setTop (mkF m 26 #[.val (.int p0)] [])) _
          refine st38 _ ?_
          show Steps p.tables e below (T38.setTop (mkF m 29 #[.val (.int p0)] [(.ref (u 3))])) _
          exact retOut X38 hx Bd.returns (own_narref rfl rfl) (Or.inr (Or.inr (Or.inr (Or.inr ⟨rfl, rfl, rfl⟩)))) (hb hby d1_29) hr
        · show own_Q1 Z u p0 h0 n0 _ T38.heap _
          rw [e38]
          exact ⟨(by unfold own_r1; rw [if_neg hc29, if_neg hc33, if_pos hc37]), N0, rfl⟩
      · --
        have pre40 : ∀ t, Steps p.tables e below (s₁.setTop (mkF m 33 #[.val (.int p0)] [(.int (83 : Int32)), (.int p0)])) t → Steps p.tables e below (s₁.setTop (entryFrame m #[(.int p0)] 1)) t := fun t kt => pre36 t (by
          show Steps p.tables e below (s₁.setTop (mkF m 23 #[.val (.int p0)] [(.int (66 : Int32)), (.int p0)])) _
          refine XS.icmpYes X0.here hx rfl (pc0 := 23) (pc' := 30) rfl (hb hby d1_23) rfl (feq hc37).2 (by decide) (by decide) ?_
          show Steps p.tables e below (s₁.setTop (mkF m 30 #[.val (.int p0)] [])) _
          refine XS.iloadN X0.here hx rfl (hb hby d1_30) rfl ?_
          show Steps p.tables e below (s₁.setTop (mkF m 31 #[.val (.int p0)] [(.int p0)])) _
          refine XS.bipush X0.here hx rfl (hb hby d1_31) ?_
          exact kt)
        by_cases hc41 : p0 = (83 : Int32)
        · --
          obtain ⟨T42, X42, e42, st42⟩ := getS2 X0 hx hZ hown (host := "") (Or.inl (hw _ (List.mem_of_getElem? (i := 35) rfl))) Via.refl e0 (B.2.2.2.2.2.2.2.2.1.ext O.2) (g := (mkF m 36 #[.val (.int p0)] [])) rfl (hb hby d1_36)
          obtain ⟨fs, hr, hrun, hended, hW, hsame⟩ := X42.leave (v := some (.ref (u 4))) (fun h => by rw [Bd.returns] at h; cases h)
          refine ⟨_, _, pre40 _ ?_, hrun, hended, _, _, rfl, ?_, ⟨_, rfl⟩, hW, hsame.mono (by decide) (by decide)⟩
          · show Steps p.tables e below (s₁.setTop (mkF m 33 #[.val (.int p0)] [(.int (83 : Int32)), (.int p0)])) _
            refine XS.icmpNo X0.here hx rfl (hb hby d1_33) rfl (teq hc41).2 ?_
            show Steps p.tables e below (s₁.setTop (mkF m 36 #[.val (.int p0)] [])) _
            refine st42 _ ?_
            show Steps p.tables e below (T42.setTop (mkF m 39 #[.val (.int p0)] [(.ref (u 4))])) _
            exact retOut X42 hx Bd.returns (own_narref rfl rfl) (Or.inr (Or.inr (Or.inr (Or.inr ⟨rfl, rfl, rfl⟩)))) (hb hby d1_39) hr
          · show own_Q1 Z u p0 h0 n0 _ T42.heap _
            rw [e42]
            exact ⟨(by unfold own_r1; rw [if_neg hc29, if_neg hc33, if_neg hc37, if_pos hc41]), N0, rfl⟩
        · --
          obtain ⟨fs, hr, hrun, hended, hW, hsame⟩ := X0.leave (v := some .null) (fun h => by rw [Bd.returns] at h; cases h)
          refine ⟨_, _, pre40 _ ?_, hrun, hended, _, _, rfl, ?_, ⟨_, rfl⟩, hW, hsame.mono (by decide) (by decide)⟩
          · show Steps p.tables e below (s₁.setTop (mkF m 33 #[.val (.int p0)] [(.int (83 : Int32)), (.int p0)])) _
            refine XS.icmpYes X0.here hx rfl (pc0 := 33) (pc' := 40) rfl (hb hby d1_33) rfl (feq hc41).2 (by decide) (by decide) ?_
            show Steps p.tables e below (s₁.setTop (mkF m 40 #[.val (.int p0)] [])) _
            refine XS.aconstNull X0.here hx rfl (hb hby d1_40) ?_
            show Steps p.tables e below (s₁.setTop (mkF m 41 #[.val (.int p0)] [.null])) _
            exact retOut X0 hx Bd.returns (own_narref rfl rfl) (Or.inr (Or.inr (Or.inr (Or.inr ⟨rfl, rfl, rfl⟩)))) (hb hby d1_41) hr
          · show own_Q1 Z u p0 h0 n0 _ s₁.heap _
            rw [e0]
            exact ⟨(by unfold own_r1; rw [if_neg hc29, if_neg hc33, if_neg hc37, if_neg hc41]), N0, rfl⟩
theorem d4_0 : decode prog_13_method_4_code 0 = .ok (.aload_n 0, 1) := by decide +kernel
theorem d4_1 : decode prog_13_method_4_code 1 = .ok (.getfield 35, 3) := by decide +kernel
theorem d4_4 : decode prog_13_method_4_code 4 = .ok (.ireturn, 1) := by decide +kernel
theorem own_pn_4 : plainName "com/example/smazzata/smazzata/card/Suit" = true := by first | (simp [plainName, overriddenIn]; done) | decide +kernel
theorem own_ef_4 (m : MethodId) (x0 : Addr) : entryFrame m #[(.ref x0)] 1 = mkF m 0 #[.val (.ref x0)] [] := by first | (simp [entryFrame, mkF, argsToLocals, Value.category]; done) | rfl
def own_Q4 (Z : State) (u : Nat → Addr) (r0 : Addr) (w_code_r0 : Int32) (h0 : Heap) (n0 : Nat) (v : Option Value) (h : Heap) (L : List Loc) : Prop := v = some (.int (nar .char w_code_r0)) ∧ Fr n0 L ∧ h = h0
set_option maxRecDepth 65536 in
set_option maxHeartbeats 40000000 in
theorem rm4 (l : Launch) (Z : State) (a0 : Array Value) (hw : ∀ d ∈ tables_1, d.before a0 Z = true) (ws : List Jvm.Cond) (u : Nat → Addr) (r0 : Addr) (w_code_r0 : Int32) (B : own_Base Z u) (h0 : Heap) (n0 : Nat) (O : Old Z n0 h0) (F_w_code_r0 : Fld Z h0 r0 "com/example/smazzata/smazzata/card/Suit" "code" "C" (.int w_code_r0)) :
    MetFree l (⟨"com/example/smazzata/smazzata/card/Suit", "code", "()C"⟩ : MethodName) (head1 (Jvm.Cond.code (⟨"com/example/smazzata/smazzata/card/Suit", "code", "()C"⟩ : MethodName) prog_13_method_4_code 1 (some .char) :: ws) ({ frames := 0, cells := 0, slots := 0, locals := 0 } : Room)) (fun a U => a = #[(.ref r0)] ∧ Z.Warmed39 U.vm ∧ U.heap = h0) (fun _ _ _ _ _ => True) (fun _ U o U' => ∃ v L, o = .returned v ∧ own_Q4 Z u r0 w_code_r0 h0 n0 v U'.heap L ∧ FrameEnd U o U' L ({ frames := 0, cells := 0, slots := 0, locals := 0 } : Room).cells ({ frames := 0, cells := 0, slots := 0, locals := 0 } : Room).slots) := by
  refine MetFree.of_bodySF (plainFor_of_name own_pn_4) hisR ?_
  intro p e s m args below meth c s₁ Bd hml0 hP hK
  obtain ⟨rfl, hZ, hh⟩ := hP
  have hx := Bd.exec
  have hby := Bd.bytes
  have hml : c.maxLocals = 1 := hml0
  have hown : s.vm.findClass "com/example/smazzata/smazzata/card/Suit" = some m.cls := findClass_of_methodNamed Bd.named
  have hnm := (name_of_methodNamed Bd.named Bd.method).1
  have X0 : Stand p l e ({ frames := 0, cells := 0, slots := 0, locals := 0 } : Room) s m #[(.ref r0)] below meth c s₁ [] 0 0 := Stand.of_body Bd
  have e0 : s₁.heap = h0 := by rw [← hh, Bd.state]; rfl
  have N0 := Fr.nil n0
  have K0 := Keep.refl h0 []
  have Z0 : n0 ≤ h0.size := O.1 ▸ O.2.1
  have pre0 : ∀ t, Steps p.tables e below (s₁.setTop (mkF m 0 #[.val (.ref r0)] [])) t → Steps p.tables e below (s₁.setTop (entryFrame m #[(.ref r0)] 1)) t := fun t k => castTop (own_ef_4 m r0) k
  obtain ⟨T45, X45, e45, st45⟩ := getF X0 hx hZ hown (host := "") (Or.inl (hw _ (List.mem_of_getElem? (i := 28) rfl))) Via.refl e0 F_w_code_r0 (g := (mkF m 1 #[.val (.ref r0)] [(.ref r0)])) rfl rfl (hb hby d4_1)
  obtain ⟨fs, hr, hrun, hended, hW, hsame⟩ := X45.leave (v := some (.int (nar .char w_code_r0))) (fun h => by rw [Bd.returns] at h; cases h)
  refine ⟨_, _, pre0 _ ?_, hrun, hended, _, _, rfl, ?_, ⟨_, rfl⟩, hW, hsame.mono (by decide) (by decide)⟩
  · show Steps p.tables e below (s₁.setTop (mkF m 0 #[.val (.ref r0)] [])) _
    refine XS.aloadN X0.here hx rfl (hb hby d4_0) rfl rfl ?_
    show Steps p.tables e below (s₁.setTop (mkF m 1 #[.val (.ref r0)] [(.ref r0)])) _
    refine st45 _ ?_
    show Steps p.tables e below (T45.setTop (mkF m 4 #[.val (.ref r0)] [(.int w_code_r0)])) _
    exact retN X45 hx (t := .char) Bd.returns (by simp) (hb hby d4_4) hr
  · show own_Q4 Z u r0 w_code_r0 h0 n0 _ T45.heap _
    rw [e45]
    exact ⟨rfl, N0, rfl⟩
theorem own_pn_0 : plainName "com/example/smazzata/smazzata/card/SuitFromCodePinLaw" = true := by first | (simp [plainName, overriddenIn]; done) | decide +kernel
theorem own_ef_0 (m : MethodId) (x0 : Int32) (x1 : Int32) : entryFrame m #[(.int x0), (.int x1)] maxLocals = mkF m 0 #[.val (.int x0), .val (.int x1), .unset, .unset, .unset, .unset] [] := by first | (simp [entryFrame, mkF, argsToLocals, Value.category, maxLocals]; done) | rfl
def own_Q0 (Z : State) (u : Nat → Addr) (p0 : Int32) (p1 : Int32) (h0 : Heap) (n0 : Nat) (v : Option Value) (h : Heap) (L : List Loc) : Prop := v = some (.int (1 : Int32)) ∧ Fr n0 L ∧ True
set_option maxRecDepth 65536 in
set_option maxHeartbeats 40000000 in
theorem rm0 (l : Launch) (Z : State) (a0 : Array Value) (hw : ∀ d ∈ tables_1, d.before a0 Z = true) (ws : List Jvm.Cond) (u : Nat → Addr) (p0 : Int32) (p1 : Int32) (B : own_Base Z u) (h0 : Heap) (n0 : Nat) (O : Old Z n0 h0) :
    MetFree l x (head1 (Jvm.Cond.code x code maxLocals ret :: ws) room_1) (fun a U => a = #[(.int p0), (.int p1)] ∧ Z.Warmed39 U.vm ∧ U.heap = h0) (fun _ _ _ _ _ => True) (fun _ U o U' => ∃ v L, o = .returned v ∧ own_Q0 Z u p0 p1 h0 n0 v U'.heap L ∧ FrameEnd U o U' L room_1.cells room_1.slots) := by
  refine MetFree.of_bodySF (plainFor_of_name own_pn_0) hisR ?_
  intro p e s m args below meth c s₁ Bd hml0 hP hK
  obtain ⟨rfl, hZ, hh⟩ := hP
  have hx := Bd.exec
  have hby := Bd.bytes
  have hml : c.maxLocals = 6 := hml0
  have hown : s.vm.findClass "com/example/smazzata/smazzata/card/SuitFromCodePinLaw" = some m.cls := findClass_of_methodNamed Bd.named
  have hnm := (name_of_methodNamed Bd.named Bd.method).1
  have X0 : Stand p l e room_1 s m #[(.int p0), (.int p1)] below meth c s₁ [] 0 0 := Stand.of_body Bd
  have e0 : s₁.heap = h0 := by rw [← hh, Bd.state]; rfl
  have N0 := Fr.nil n0
  have K0 := Keep.refl h0 []
  have Z0 : n0 ≤ h0.size := O.1 ▸ O.2.1
  have pre0 : ∀ t, Steps p.tables e below (s₁.setTop (mkF m 0 #[.val (.int p0), .val (.int p1), .unset, .unset, .unset, .unset] [])) t → Steps p.tables e below (s₁.setTop (entryFrame m #[(.int p0), (.int p1)] maxLocals)) t := fun t k => castTop (own_ef_0 m p0 p1) k
  have pre47 : ∀ t, Steps p.tables e below (s₁.setTop (mkF m 6 #[.val (.int p0), .val (.int p1), .val (.int (p0 &&& (7 : Int32))), .unset, .unset, .unset] [(.int (p0 &&& (7 : Int32)))])) t → Steps p.tables e below (s₁.setTop (entryFrame m #[(.int p0), (.int p1)] maxLocals)) t := fun t kt => pre0 t (by
    show Steps p.tables e below (s₁.setTop (mkF m 0 #[.val (.int p0), .val (.int p1), .unset, .unset, .unset, .unset] [])) _
    refine XS.iloadN X0.here hx rfl (hb hby at_0) rfl ?_
    show Steps p.tables e below (s₁.setTop (mkF m 1 #[.val (.int p0), .val (.int p1), .unset, .unset, .unset, .unset] [(.int p0)])) _
    refine XS.bipush X0.here hx rfl (hb hby at_1) ?_
    show Steps p.tables e below (s₁.setTop (mkF m 3 #[.val (.int p0), .val (.int p1), .unset, .unset, .unset, .unset] [(.int (7 : Int32)), (.int p0)])) _
    refine XS.iand X0.here hx rfl (hb hby at_3) rfl ?_
    show Steps p.tables e below (s₁.setTop (mkF m 4 #[.val (.int p0), .val (.int p1), .unset, .unset, .unset, .unset] [(.int (p0 &&& (7 : Int32)))])) _
    refine XS.istoreN X0.here hx rfl (hb hby at_4) rfl (l' := #[.val (.int p0), .val (.int p1), .val (.int (p0 &&& (7 : Int32))), .unset, .unset, .unset]) rfl ?_
    show Steps p.tables e below (s₁.setTop (mkF m 5 #[.val (.int p0), .val (.int p1), .val (.int (p0 &&& (7 : Int32))), .unset, .unset, .unset] [])) _
    refine XS.iloadN X0.here hx rfl (hb hby at_5) rfl ?_
    exact kt)
  by_cases hc48 : (p0 &&& (7 : Int32)) = (0 : Int32)
  · --
    have pre49 : ∀ t, Steps p.tables e below (s₁.setTop (mkF m 52 #[.val (.int p0), .val (.int p1), .val (.int (p0 &&& (7 : Int32))), .val (.int (68 : Int32)), .unset, .unset] [(.int (68 : Int32))])) t → Steps p.tables e below (s₁.setTop (entryFrame m #[(.int p0), (.int p1)] maxLocals)) t := fun t kt => pre47 t (by
      show Steps p.tables e below (s₁.setTop (mkF m 6 #[.val (.int p0), .val (.int p1), .val (.int (p0 &&& (7 : Int32))), .unset, .unset, .unset] [(.int (p0 &&& (7 : Int32)))])) _
      refine XS.ifNo X0.here hx rfl (hb hby at_6) rfl ((if0 _ _).trans (teq hc48).2) ?_
      show Steps p.tables e below (s₁.setTop (mkF m 9 #[.val (.int p0), .val (.int p1), .val (.int (p0 &&& (7 : Int32))), .unset, .unset, .unset] [])) _
      refine XS.bipush X0.here hx rfl (hb hby at_9) ?_
      show Steps p.tables e below (s₁.setTop (mkF m 11 #[.val (.int p0), .val (.int p1), .val (.int (p0 &&& (7 : Int32))), .unset, .unset, .unset] [(.int (68 : Int32))])) _
      refine XS.istoreN X0.here hx rfl (hb hby at_11) rfl (l' := #[.val (.int p0), .val (.int p1), .val (.int (p0 &&& (7 : Int32))), .val (.int (68 : Int32)), .unset, .unset]) rfl ?_
      show Steps p.tables e below (s₁.setTop (mkF m 12 #[.val (.int p0), .val (.int p1), .val (.int (p0 &&& (7 : Int32))), .val (.int (68 : Int32)), .unset, .unset] [])) _
      refine XS.goto X0.here hx rfl (pc0 := 12) (pc' := 51) rfl (hb hby at_12) (by decide) (by decide) ?_
      show Steps p.tables e below (s₁.setTop (mkF m 51 #[.val (.int p0), .val (.int p1), .val (.int (p0 &&& (7 : Int32))), .val (.int (68 : Int32)), .unset, .unset] [])) _
      refine XS.iloadN X0.here hx rfl (hb hby at_51) rfl ?_
      exact kt)
    obtain ⟨vr50, _, ⟨T50, L50, k50, n50⟩, -, X50, ⟨Lc50, hQ50, l50, y50, z50⟩, st50⟩ := Jvm.LawKit.callS X0 hx (y := (⟨"com/example/smazzata/smazzata/card/SuitFromCodePinLaw", "reference", "(C)Lcom/example/smazzata/smazzata/card/Suit;"⟩ : MethodName)) hown (mvT hZ (hw _ (List.mem_of_getElem? (i := 0) rfl))) (mvT hZ (hw _ (List.mem_of_getElem? (i := 1) rfl))) (mvT hZ (hw _ (List.mem_of_getElem? (i := 2) rfl))) (mvT hZ (hw _ (List.mem_of_getElem? (i := 3) rfl))) (by decide) (backOf (W := 0) (rm1 l Z a0 hw [] u (68 : Int32) B h0 n0 O ) hZ (hw _ (List.mem_of_getElem? (i := 3) rfl)) (hw _ (List.mem_of_getElem? (i := 2) rfl)) (by decide) (by decide)) (g := (mkF m 52 #[.val (.int p0), .val (.int p1), .val (.int (p0 &&& (7 : Int32))), .val (.int (68 : Int32)), .unset, .unset] [(.int (68 : Int32))])) rfl (by rw [hml]; rfl) (argsL := [(.int (68 : Int32))]) (rest := []) (lenOf own_pd1 rfl) rfl (by show 2 * 0 + _ ≤ _; exact Nat.le_of_eq rfl) (hb hby at_52) (fun _ _ => ⟨rfl, e0, (by decide : 0 + 0 ≤ _), (by decide : 0 + 0 ≤ _)⟩)
    dsimp only [Pt.U, Pt.locs, Pt.cells, Pt.slots] at X50 l50 y50 z50 st50 hQ50
    subst l50 y50 z50
    obtain ⟨hv50, N50q, e50⟩ := hQ50
    have N50 := Fr.app N0 N50q
    obtain rfl : vr50 = some (.ref (u 0)) := hv50.trans (by unfold own_r1; rw [if_pos (by decide : (68 : Int32) = (68 : Int32))])
    have pre51 : ∀ t, Steps p.tables e below (T50.setTop (mkF m 58 #[.val (.int p0), .val (.int p1), .val (.int (p0 &&& (7 : Int32))), .val (.int (68 : Int32)), .val (.ref (u 0)), .unset] [(.int (68 : Int32))])) t → Steps p.tables e below (s₁.setTop (entryFrame m #[(.int p0), (.int p1)] maxLocals)) t := fun t kt => pre49 t (by
      show Steps p.tables e below (s₁.setTop (mkF m 52 #[.val (.int p0), .val (.int p1), .val (.int (p0 &&& (7 : Int32))), .val (.int (68 : Int32)), .unset, .unset] [(.int (68 : Int32))])) _
      refine st50 _ ?_
      show Steps p.tables e below (T50.setTop (mkF m 55 #[.val (.int p0), .val (.int p1), .val (.int (p0 &&& (7 : Int32))), .val (.int (68 : Int32)), .unset, .unset] [(.ref (u 0))])) _
      refine XS.astore X50.here hx rfl (hb hby at_55) rfl rfl (l' := #[.val (.int p0), .val (.int p1), .val (.int (p0 &&& (7 : Int32))), .val (.int (68 : Int32)), .val (.ref (u 0)), .unset]) rfl ?_
      show Steps p.tables e below (T50.setTop (mkF m 57 #[.val (.int p0), .val (.int p1), .val (.int (p0 &&& (7 : Int32))), .val (.int (68 : Int32)), .val (.ref (u 0)), .unset] [])) _
      refine XS.iloadN X50.here hx rfl (hb hby at_57) rfl ?_
      exact kt)
    obtain ⟨vr52, _, ⟨T52, L52, k52, n52⟩, -, X52, ⟨Lc52, hQ52, l52, y52, z52⟩, st52⟩ := Jvm.LawKit.callS X50 hx (y := (⟨"com/example/smazzata/smazzata/card/Suit", "fromCode", "(C)Lcom/example/smazzata/smazzata/card/Suit;"⟩ : MethodName)) hown (mvT hZ (hw _ (List.mem_of_getElem? (i := 7) rfl))) (mvT hZ (hw _ (List.mem_of_getElem? (i := 8) rfl))) (mvT hZ (hw _ (List.mem_of_getElem? (i := 5) rfl))) (mvT hZ (hw _ (List.mem_of_getElem? (i := 9) rfl))) (by decide) (backOf (W := 0) (rm2 l Z a0 hw [] u (68 : Int32) B h0 n0 O ) hZ (hw _ (List.mem_of_getElem? (i := 9) rfl)) (hw _ (List.mem_of_getElem? (i := 5) rfl)) (by decide) (by decide)) (g := (mkF m 58 #[.val (.int p0), .val (.int p1), .val (.int (p0 &&& (7 : Int32))), .val (.int (68 : Int32)), .val (.ref (u 0)), .unset] [(.int (68 : Int32))])) rfl (by rw [hml]; rfl) (argsL := [(.int (68 : Int32))]) (rest := []) (lenOf own_pd1 rfl) rfl (by show 2 * 0 + _ ≤ _; exact Nat.le_of_eq rfl) (hb hby at_58) (fun _ _ => ⟨rfl, e50, (by decide : 0 + 1 ≤ _), (by decide : 0 + 4 ≤ _)⟩)
    dsimp only [Pt.U, Pt.locs, Pt.cells, Pt.slots] at X52 l52 y52 z52 st52 hQ52
    subst l52 y52 z52
    obtain ⟨hv52, N52q, E52⟩ := hQ52
    have N52 := Fr.app N50 N52q
    have O52 := O.ext E52
    have K52 := K0.ext E52
    obtain rfl : vr52 = some (.ref (u 0)) := hv52.trans (by unfold own_r2; rw [if_pos (by decide : (68 : Int32) = (68 : Int32))])
    obtain ⟨cq53, kq53, q53a, q53b, q53c⟩ := isOf hZ rfl (B.2.1.ext O52.2)
    obtain ⟨vr53, _, ⟨T53, L53, k53, n53⟩, -, X53, ⟨Lc53, hQ53, l53, y53, z53⟩, st53⟩ := X52.virtualBack hx (y := (⟨"com/example/smazzata/smazzata/card/Suit", "code", "()C"⟩ : MethodName)) (z := (⟨"com/example/smazzata/smazzata/card/Suit", "code", "()C"⟩ : MethodName)) hown (mvT hZ (hw _ (List.mem_of_getElem? (i := 30) rfl))) (mvT hZ (hw _ (List.mem_of_getElem? (i := 31) rfl))) (notFace_of_selects (args := #[]) (mvT hZ (hw _ (List.mem_of_getElem? (i := 33) rfl)))) (mvT hZ (hw _ (List.mem_of_getElem? (i := 33) rfl))) (mvT hZ (hw _ (List.mem_of_getElem? (i := 32) rfl))) (by decide) (backOf (W := 0) (rm4 l Z a0 hw [] u (u 0) (68 : Int32) B T52.heap n0 O52 (B.2.2.2.2.2.2.2.2.2.2.1.ext O52.2)) hZ (hw _ (List.mem_of_getElem? (i := 34) rfl)) (hw _ (List.mem_of_getElem? (i := 5) rfl)) (by decide) (by decide)) q53a q53c (g := (mkF m 79 #[.val (.int p0), .val (.int p1), .val (.int (p0 &&& (7 : Int32))), .val (.int (68 : Int32)), .val (.ref (u 0)), .val (.ref (u 0))] [(.ref (u 0))])) rfl (by rw [hml]; rfl) (Steps.refl _) (argsL := []) (rest := []) (lenOf own_pd2 rfl) rfl (by show 2 * 0 + _ ≤ _; exact Nat.le_of_eq rfl) (hb hby at_79) (fun _ _ => ⟨rfl, rfl, (by decide : 1 + 0 ≤ _), (by decide : 4 + 0 ≤ _)⟩)
    dsimp only [Pt.U, Pt.locs, Pt.cells, Pt.slots] at X53 l53 y53 z53 st53 hQ53
    subst l53 y53 z53
    obtain ⟨rfl, N53q, e53⟩ := hQ53
    have N53 := Fr.app N52 N53q
    obtain ⟨fs, hr, hrun, hended, hW, hsame⟩ := X53.leave (v := some (.int (1 : Int32))) (fun h => by rw [Bd.returns] at h; cases h)
    refine ⟨_, _, pre51 _ ?_, hrun, hended, _, _, rfl, ?_, ⟨_, rfl⟩, hW, hsame.mono (by decide) (by decide)⟩
    · show Steps p.tables e below (T50.setTop (mkF m 58 #[.val (.int p0), .val (.int p1), .val (.int (p0 &&& (7 : Int32))), .val (.int (68 : Int32)), .val (.ref (u 0)), .unset] [(.int (68 : Int32))])) _
      refine st52 _ ?_
      show Steps p.tables e below (T52.setTop (mkF m 61 #[.val (.int p0), .val (.int p1), .val (.int (p0 &&& (7 : Int32))), .val (.int (68 : Int32)), .val (.ref (u 0)), .unset] [(.ref (u 0))])) _
      refine XS.astore X52.here hx rfl (hb hby at_61) rfl rfl (l' := #[.val (.int p0), .val (.int p1), .val (.int (p0 &&& (7 : Int32))), .val (.int (68 : Int32)), .val (.ref (u 0)), .val (.ref (u 0))]) rfl ?_
      show Steps p.tables e below (T52.setTop (mkF m 63 #[.val (.int p0), .val (.int p1), .val (.int (p0 &&& (7 : Int32))), .val (.int (68 : Int32)), .val (.ref (u 0)), .val (.ref (u 0))] [])) _
      refine XS.aload X52.here hx rfl (hb hby at_63) rfl rfl ?_
      show Steps p.tables e below (T52.setTop (mkF m 65 #[.val (.int p0), .val (.int p1), .val (.int (p0 &&& (7 : Int32))), .val (.int (68 : Int32)), .val (.ref (u 0)), .val (.ref (u 0))] [(.ref (u 0))])) _
      refine XS.aload X52.here hx rfl (hb hby at_65) rfl rfl ?_
      show Steps p.tables e below (T52.setTop (mkF m 67 #[.val (.int p0), .val (.int p1), .val (.int (p0 &&& (7 : Int32))), .val (.int (68 : Int32)), .val (.ref (u 0)), .val (.ref (u 0))] [(.ref (u 0)), (.ref (u 0))])) _
      refine Jvm.RoadKit.acmp (g := (mkF m 67 #[.val (.int p0), .val (.int p1), .val (.int (p0 &&& (7 : Int32))), .val (.int (68 : Int32)), .val (.ref (u 0)), .val (.ref (u 0))] [(.ref (u 0)), (.ref (u 0))])) X52 hx rfl rfl rfl (pc0 := 67) (pc' := 72) (same := true) rfl (hb hby at_67) rfl (decide_eq_true rfl) (by decide) (by decide) ?_
      show Steps p.tables e below (T52.setTop (mkF m 72 #[.val (.int p0), .val (.int p1), .val (.int (p0 &&& (7 : Int32))), .val (.int (68 : Int32)), .val (.ref (u 0)), .val (.ref (u 0))] [])) _
      refine XS.aload X52.here hx rfl (hb hby at_72) rfl rfl ?_
      show Steps p.tables e below (T52.setTop (mkF m 74 #[.val (.int p0), .val (.int p1), .val (.int (p0 &&& (7 : Int32))), .val (.int (68 : Int32)), .val (.ref (u 0)), .val (.ref (u 0))] [(.ref (u 0))])) _
      refine XS.ifnullNo X52.here hx rfl (hb hby at_74) rfl ?_
      show Steps p.tables e below (T52.setTop (mkF m 77 #[.val (.int p0), .val (.int p1), .val (.int (p0 &&& (7 : Int32))), .val (.int (68 : Int32)), .val (.ref (u 0)), .val (.ref (u 0))] [])) _
      refine XS.aload X52.here hx rfl (hb hby at_77) rfl rfl ?_
      show Steps p.tables e below (T52.setTop (mkF m 79 #[.val (.int p0), .val (.int p1), .val (.int (p0 &&& (7 : Int32))), .val (.int (68 : Int32)), .val (.ref (u 0)), .val (.ref (u 0))] [(.ref (u 0))])) _
      refine st53.trans ?_
      show Steps p.tables e below (T53.setTop (mkF m 82 #[.val (.int p0), .val (.int p1), .val (.int (p0 &&& (7 : Int32))), .val (.int (68 : Int32)), .val (.ref (u 0)), .val (.ref (u 0))] [(.int (68 : Int32))])) _
      refine XS.iloadN X53.here hx rfl (hb hby at_82) rfl ?_
      show Steps p.tables e below (T53.setTop (mkF m 83 #[.val (.int p0), .val (.int p1), .val (.int (p0 &&& (7 : Int32))), .val (.int (68 : Int32)), .val (.ref (u 0)), .val (.ref (u 0))] [(.int (68 : Int32)), (.int (68 : Int32))])) _
      refine XS.icmpYes X53.here hx rfl (pc0 := 83) (pc' := 88) rfl (hb hby at_83) rfl (teq (by decide : (68 : Int32) = (68 : Int32))).1 (by decide) (by decide) ?_
      show Steps p.tables e below (T53.setTop (mkF m 88 #[.val (.int p0), .val (.int p1), .val (.int (p0 &&& (7 : Int32))), .val (.int (68 : Int32)), .val (.ref (u 0)), .val (.ref (u 0))] [])) _
      refine XS.iconst X53.here hx rfl (hb hby at_88) ?_
      show Steps p.tables e below (T53.setTop (mkF m 89 #[.val (.int p0), .val (.int p1), .val (.int (p0 &&& (7 : Int32))), .val (.int (68 : Int32)), .val (.ref (u 0)), .val (.ref (u 0))] [(.int (1 : Int32))])) _
      exact retN X53 hx (t := .boolean) Bd.returns (by simp) (hb hby at_89) hr
    · show own_Q0 Z u p0 p1 h0 n0 _ T53.heap _
      rw [e53]
      exact ⟨rfl, N53, trivial⟩
  · --
    have pre55 : ∀ t, Steps p.tables e below (s₁.setTop (mkF m 17 #[.val (.int p0), .val (.int p1), .val (.int (p0 &&& (7 : Int32))), .unset, .unset, .unset] [(.int (1 : Int32)), (.int (p0 &&& (7 : Int32)))])) t → Steps p.tables e below (s₁.setTop (entryFrame m #[(.int p0), (.int p1)] maxLocals)) t := fun t kt => pre47 t (by
      show Steps p.tables e below (s₁.setTop (mkF m 6 #[.val (.int p0), .val (.int p1), .val (.int (p0 &&& (7 : Int32))), .unset, .unset, .unset] [(.int (p0 &&& (7 : Int32)))])) _
      refine XS.ifYes X0.here hx rfl (pc0 := 6) (pc' := 15) rfl (hb hby at_6) rfl ((if0 _ _).trans (feq hc48).2) (by decide) (by decide) ?_
      show Steps p.tables e below (s₁.setTop (mkF m 15 #[.val (.int p0), .val (.int p1), .val (.int (p0 &&& (7 : Int32))), .unset, .unset, .unset] [])) _
      refine XS.iloadN X0.here hx rfl (hb hby at_15) rfl ?_
      show Steps p.tables e below (s₁.setTop (mkF m 16 #[.val (.int p0), .val (.int p1), .val (.int (p0 &&& (7 : Int32))), .unset, .unset, .unset] [(.int (p0 &&& (7 : Int32)))])) _
      refine XS.iconst X0.here hx rfl (hb hby at_16) ?_
      exact kt)
    by_cases hc56 : (p0 &&& (7 : Int32)) = (1 : Int32)
    · --
      have pre57 : ∀ t, Steps p.tables e below (s₁.setTop (mkF m 52 #[.val (.int p0), .val (.int p1), .val (.int (p0 &&& (7 : Int32))), .val (.int (67 : Int32)), .unset, .unset] [(.int (67 : Int32))])) t → Steps p.tables e below (s₁.setTop (entryFrame m #[(.int p0), (.int p1)] maxLocals)) t := fun t kt => pre55 t (by
        show Steps p.tables e below (s₁.setTop (mkF m 17 #[.val (.int p0), .val (.int p1), .val (.int (p0 &&& (7 : Int32))), .unset, .unset, .unset] [(.int (1 : Int32)), (.int (p0 &&& (7 : Int32)))])) _
        refine XS.icmpNo X0.here hx rfl (hb hby at_17) rfl (teq hc56).2 ?_
        show Steps p.tables e below (s₁.setTop (mkF m 20 #[.val (.int p0), .val (.int p1), .val (.int (p0 &&& (7 : Int32))), .unset, .unset, .unset] [])) _
        refine XS.bipush X0.here hx rfl (hb hby at_20) ?_
        show Steps p.tables e below (s₁.setTop (mkF m 22 #[.val (.int p0), .val (.int p1), .val (.int (p0 &&& (7 : Int32))), .unset, .unset, .unset] [(.int (67 : Int32))])) _
        refine XS.istoreN X0.here hx rfl (hb hby at_22) rfl (l' := #[.val (.int p0), .val (.int p1), .val (.int (p0 &&& (7 : Int32))), .val (.int (67 : Int32)), .unset, .unset]) rfl ?_
        show Steps p.tables e below (s₁.setTop (mkF m 23 #[.val (.int p0), .val (.int p1), .val (.int (p0 &&& (7 : Int32))), .val (.int (67 : Int32)), .unset, .unset] [])) _
        refine XS.goto X0.here hx rfl (pc0 := 23) (pc' := 51) rfl (hb hby at_23) (by decide) (by decide) ?_
        show Steps p.tables e below (s₁.setTop (mkF m 51 #[.val (.int p0), .val (.int p1), .val (.int (p0 &&& (7 : Int32))), .val (.int (67 : Int32)), .unset, .unset] [])) _
        refine XS.iloadN X0.here hx rfl (hb hby at_51) rfl ?_
        exact kt)
      obtain ⟨vr58, _, ⟨T58, L58, k58, n58⟩, -, X58, ⟨Lc58, hQ58, l58, y58, z58⟩, st58⟩ := Jvm.LawKit.callS X0 hx (y := (⟨"com/example/smazzata/smazzata/card/SuitFromCodePinLaw", "reference", "(C)Lcom/example/smazzata/smazzata/card/Suit;"⟩ : MethodName)) hown (mvT hZ (hw _ (List.mem_of_getElem? (i := 0) rfl))) (mvT hZ (hw _ (List.mem_of_getElem? (i := 1) rfl))) (mvT hZ (hw _ (List.mem_of_getElem? (i := 2) rfl))) (mvT hZ (hw _ (List.mem_of_getElem? (i := 3) rfl))) (by decide) (backOf (W := 0) (rm1 l Z a0 hw [] u (67 : Int32) B h0 n0 O ) hZ (hw _ (List.mem_of_getElem? (i := 3) rfl)) (hw _ (List.mem_of_getElem? (i := 2) rfl)) (by decide) (by decide)) (g := (mkF m 52 #[.val (.int p0), .val (.int p1), .val (.int (p0 &&& (7 : Int32))), .val (.int (67 : Int32)), .unset, .unset] [(.int (67 : Int32))])) rfl (by rw [hml]; rfl) (argsL := [(.int (67 : Int32))]) (rest := []) (lenOf own_pd1 rfl) rfl (by show 2 * 0 + _ ≤ _; exact Nat.le_of_eq rfl) (hb hby at_52) (fun _ _ => ⟨rfl, e0, (by decide : 0 + 0 ≤ _), (by decide : 0 + 0 ≤ _)⟩)
      dsimp only [Pt.U, Pt.locs, Pt.cells, Pt.slots] at X58 l58 y58 z58 st58 hQ58
      subst l58 y58 z58
      obtain ⟨hv58, N58q, e58⟩ := hQ58
      have N58 := Fr.app N0 N58q
      obtain rfl : vr58 = some (.ref (u 2)) := hv58.trans (by unfold own_r1; rw [if_neg (by decide : ¬ ((67 : Int32) = (68 : Int32))), if_pos (by decide : (67 : Int32) = (67 : Int32))])
      have pre59 : ∀ t, Steps p.tables e below (T58.setTop (mkF m 58 #[.val (.int p0), .val (.int p1), .val (.int (p0 &&& (7 : Int32))), .val (.int (67 : Int32)), .val (.ref (u 2)), .unset] [(.int (67 : Int32))])) t → Steps p.tables e below (s₁.setTop (entryFrame m #[(.int p0), (.int p1)] maxLocals)) t := fun t kt => pre57 t (by
        show Steps p.tables e below (s₁.setTop (mkF m 52 #[.val (.int p0), .val (.int p1), .val (.int (p0 &&& (7 : Int32))), .val (.int (67 : Int32)), .unset, .unset] [(.int (67 : Int32))])) _
        refine st58 _ ?_
        show Steps p.tables e below (T58.setTop (mkF m 55 #[.val (.int p0), .val (.int p1), .val (.int (p0 &&& (7 : Int32))), .val (.int (67 : Int32)), .unset, .unset] [(.ref (u 2))])) _
        refine XS.astore X58.here hx rfl (hb hby at_55) rfl rfl (l' := #[.val (.int p0), .val (.int p1), .val (.int (p0 &&& (7 : Int32))), .val (.int (67 : Int32)), .val (.ref (u 2)), .unset]) rfl ?_
        show Steps p.tables e below (T58.setTop (mkF m 57 #[.val (.int p0), .val (.int p1), .val (.int (p0 &&& (7 : Int32))), .val (.int (67 : Int32)), .val (.ref (u 2)), .unset] [])) _
        refine XS.iloadN X58.here hx rfl (hb hby at_57) rfl ?_
        exact kt)
      obtain ⟨vr60, _, ⟨T60, L60, k60, n60⟩, -, X60, ⟨Lc60, hQ60, l60, y60, z60⟩, st60⟩ := Jvm.LawKit.callS X58 hx (y := (⟨"com/example/smazzata/smazzata/card/Suit", "fromCode", "(C)Lcom/example/smazzata/smazzata/card/Suit;"⟩ : MethodName)) hown (mvT hZ (hw _ (List.mem_of_getElem? (i := 7) rfl))) (mvT hZ (hw _ (List.mem_of_getElem? (i := 8) rfl))) (mvT hZ (hw _ (List.mem_of_getElem? (i := 5) rfl))) (mvT hZ (hw _ (List.mem_of_getElem? (i := 9) rfl))) (by decide) (backOf (W := 0) (rm2 l Z a0 hw [] u (67 : Int32) B h0 n0 O ) hZ (hw _ (List.mem_of_getElem? (i := 9) rfl)) (hw _ (List.mem_of_getElem? (i := 5) rfl)) (by decide) (by decide)) (g := (mkF m 58 #[.val (.int p0), .val (.int p1), .val (.int (p0 &&& (7 : Int32))), .val (.int (67 : Int32)), .val (.ref (u 2)), .unset] [(.int (67 : Int32))])) rfl (by rw [hml]; rfl) (argsL := [(.int (67 : Int32))]) (rest := []) (lenOf own_pd1 rfl) rfl (by show 2 * 0 + _ ≤ _; exact Nat.le_of_eq rfl) (hb hby at_58) (fun _ _ => ⟨rfl, e58, (by decide : 0 + 1 ≤ _), (by decide : 0 + 4 ≤ _)⟩)
      dsimp only [Pt.U, Pt.locs, Pt.cells, Pt.slots] at X60 l60 y60 z60 st60 hQ60
      subst l60 y60 z60
      obtain ⟨hv60, N60q, E60⟩ := hQ60
      have N60 := Fr.app N58 N60q
      have O60 := O.ext E60
      have K60 := K0.ext E60
      obtain rfl : vr60 = some (.ref (u 2)) := hv60.trans (by unfold own_r2; rw [if_neg (by decide : ¬ ((68 : Int32) = (67 : Int32))), if_pos (by decide : (67 : Int32) = (67 : Int32))])
      obtain ⟨cq61, kq61, q61a, q61b, q61c⟩ := isOf hZ rfl (B.2.2.2.2.2.1.ext O60.2)
      obtain ⟨vr61, _, ⟨T61, L61, k61, n61⟩, -, X61, ⟨Lc61, hQ61, l61, y61, z61⟩, st61⟩ := X60.virtualBack hx (y := (⟨"com/example/smazzata/smazzata/card/Suit", "code", "()C"⟩ : MethodName)) (z := (⟨"com/example/smazzata/smazzata/card/Suit", "code", "()C"⟩ : MethodName)) hown (mvT hZ (hw _ (List.mem_of_getElem? (i := 30) rfl))) (mvT hZ (hw _ (List.mem_of_getElem? (i := 31) rfl))) (notFace_of_selects (args := #[]) (mvT hZ (hw _ (List.mem_of_getElem? (i := 33) rfl)))) (mvT hZ (hw _ (List.mem_of_getElem? (i := 33) rfl))) (mvT hZ (hw _ (List.mem_of_getElem? (i := 32) rfl))) (by decide) (backOf (W := 0) (rm4 l Z a0 hw [] u (u 2) (67 : Int32) B T60.heap n0 O60 (B.2.2.2.2.2.2.2.2.2.2.2.2.1.ext O60.2)) hZ (hw _ (List.mem_of_getElem? (i := 34) rfl)) (hw _ (List.mem_of_getElem? (i := 5) rfl)) (by decide) (by decide)) q61a q61c (g := (mkF m 79 #[.val (.int p0), .val (.int p1), .val (.int (p0 &&& (7 : Int32))), .val (.int (67 : Int32)), .val (.ref (u 2)), .val (.ref (u 2))] [(.ref (u 2))])) rfl (by rw [hml]; rfl) (Steps.refl _) (argsL := []) (rest := []) (lenOf own_pd2 rfl) rfl (by show 2 * 0 + _ ≤ _; exact Nat.le_of_eq rfl) (hb hby at_79) (fun _ _ => ⟨rfl, rfl, (by decide : 1 + 0 ≤ _), (by decide : 4 + 0 ≤ _)⟩)
      dsimp only [Pt.U, Pt.locs, Pt.cells, Pt.slots] at X61 l61 y61 z61 st61 hQ61
      subst l61 y61 z61
      obtain ⟨rfl, N61q, e61⟩ := hQ61
      have N61 := Fr.app N60 N61q
      obtain ⟨fs, hr, hrun, hended, hW, hsame⟩ := X61.leave (v := some (.int (1 : Int32))) (fun h => by rw [Bd.returns] at h; cases h)
      refine ⟨_, _, pre59 _ ?_, hrun, hended, _, _, rfl, ?_, ⟨_, rfl⟩, hW, hsame.mono (by decide) (by decide)⟩
      · show Steps p.tables e below (T58.setTop (mkF m 58 #[.val (.int p0), .val (.int p1), .val (.int (p0 &&& (7 : Int32))), .val (.int (67 : Int32)), .val (.ref (u 2)), .unset] [(.int (67 : Int32))])) _
        refine st60 _ ?_
        show Steps p.tables e below (T60.setTop (mkF m 61 #[.val (.int p0), .val (.int p1), .val (.int (p0 &&& (7 : Int32))), .val (.int (67 : Int32)), .val (.ref (u 2)), .unset] [(.ref (u 2))])) _
        refine XS.astore X60.here hx rfl (hb hby at_61) rfl rfl (l' := #[.val (.int p0), .val (.int p1), .val (.int (p0 &&& (7 : Int32))), .val (.int (67 : Int32)), .val (.ref (u 2)), .val (.ref (u 2))]) rfl ?_
        show Steps p.tables e below (T60.setTop (mkF m 63 #[.val (.int p0), .val (.int p1), .val (.int (p0 &&& (7 : Int32))), .val (.int (67 : Int32)), .val (.ref (u 2)), .val (.ref (u 2))] [])) _
        refine XS.aload X60.here hx rfl (hb hby at_63) rfl rfl ?_
        show Steps p.tables e below (T60.setTop (mkF m 65 #[.val (.int p0), .val (.int p1), .val (.int (p0 &&& (7 : Int32))), .val (.int (67 : Int32)), .val (.ref (u 2)), .val (.ref (u 2))] [(.ref (u 2))])) _
        refine XS.aload X60.here hx rfl (hb hby at_65) rfl rfl ?_
        show Steps p.tables e below (T60.setTop (mkF m 67 #[.val (.int p0), .val (.int p1), .val (.int (p0 &&& (7 : Int32))), .val (.int (67 : Int32)), .val (.ref (u 2)), .val (.ref (u 2))] [(.ref (u 2)), (.ref (u 2))])) _
        refine Jvm.RoadKit.acmp (g := (mkF m 67 #[.val (.int p0), .val (.int p1), .val (.int (p0 &&& (7 : Int32))), .val (.int (67 : Int32)), .val (.ref (u 2)), .val (.ref (u 2))] [(.ref (u 2)), (.ref (u 2))])) X60 hx rfl rfl rfl (pc0 := 67) (pc' := 72) (same := true) rfl (hb hby at_67) rfl (decide_eq_true rfl) (by decide) (by decide) ?_
        show Steps p.tables e below (T60.setTop (mkF m 72 #[.val (.int p0), .val (.int p1), .val (.int (p0 &&& (7 : Int32))), .val (.int (67 : Int32)), .val (.ref (u 2)), .val (.ref (u 2))] [])) _
        refine XS.aload X60.here hx rfl (hb hby at_72) rfl rfl ?_
        show Steps p.tables e below (T60.setTop (mkF m 74 #[.val (.int p0), .val (.int p1), .val (.int (p0 &&& (7 : Int32))), .val (.int (67 : Int32)), .val (.ref (u 2)), .val (.ref (u 2))] [(.ref (u 2))])) _
        refine XS.ifnullNo X60.here hx rfl (hb hby at_74) rfl ?_
        show Steps p.tables e below (T60.setTop (mkF m 77 #[.val (.int p0), .val (.int p1), .val (.int (p0 &&& (7 : Int32))), .val (.int (67 : Int32)), .val (.ref (u 2)), .val (.ref (u 2))] [])) _
        refine XS.aload X60.here hx rfl (hb hby at_77) rfl rfl ?_
        show Steps p.tables e below (T60.setTop (mkF m 79 #[.val (.int p0), .val (.int p1), .val (.int (p0 &&& (7 : Int32))), .val (.int (67 : Int32)), .val (.ref (u 2)), .val (.ref (u 2))] [(.ref (u 2))])) _
        refine st61.trans ?_
        show Steps p.tables e below (T61.setTop (mkF m 82 #[.val (.int p0), .val (.int p1), .val (.int (p0 &&& (7 : Int32))), .val (.int (67 : Int32)), .val (.ref (u 2)), .val (.ref (u 2))] [(.int (67 : Int32))])) _
        refine XS.iloadN X61.here hx rfl (hb hby at_82) rfl ?_
        show Steps p.tables e below (T61.setTop (mkF m 83 #[.val (.int p0), .val (.int p1), .val (.int (p0 &&& (7 : Int32))), .val (.int (67 : Int32)), .val (.ref (u 2)), .val (.ref (u 2))] [(.int (67 : Int32)), (.int (67 : Int32))])) _
        refine XS.icmpYes X61.here hx rfl (pc0 := 83) (pc' := 88) rfl (hb hby at_83) rfl (teq (by decide : (67 : Int32) = (67 : Int32))).1 (by decide) (by decide) ?_
        show Steps p.tables e below (T61.setTop (mkF m 88 #[.val (.int p0), .val (.int p1), .val (.int (p0 &&& (7 : Int32))), .val (.int (67 : Int32)), .val (.ref (u 2)), .val (.ref (u 2))] [])) _
        refine XS.iconst X61.here hx rfl (hb hby at_88) ?_
        show Steps p.tables e below (T61.setTop (mkF m 89 #[.val (.int p0), .val (.int p1), .val (.int (p0 &&& (7 : Int32))), .val (.int (67 : Int32)), .val (.ref (u 2)), .val (.ref (u 2))] [(.int (1 : Int32))])) _
        exact retN X61 hx (t := .boolean) Bd.returns (by simp) (hb hby at_89) hr
      · show own_Q0 Z u p0 p1 h0 n0 _ T61.heap _
        rw [e61]
        exact ⟨rfl, N61, trivial⟩
    · --
      have pre63 : ∀ t, Steps p.tables e below (s₁.setTop (mkF m 28 #[.val (.int p0), .val (.int p1), .val (.int (p0 &&& (7 : Int32))), .unset, .unset, .unset] [(.int (2 : Int32)), (.int (p0 &&& (7 : Int32)))])) t → Steps p.tables e below (s₁.setTop (entryFrame m #[(.int p0), (.int p1)] maxLocals)) t := fun t kt => pre55 t (by
        show Steps p.tables e below (s₁.setTop (mkF m 17 #[.val (.int p0), .val (.int p1), .val (.int (p0 &&& (7 : Int32))), .unset, .unset, .unset] [(.int (1 : Int32)), (.int (p0 &&& (7 : Int32)))])) _
        refine XS.icmpYes X0.here hx rfl (pc0 := 17) (pc' := 26) rfl (hb hby at_17) rfl (feq hc56).2 (by decide) (by decide) ?_
        show Steps p.tables e below (s₁.setTop (mkF m 26 #[.val (.int p0), .val (.int p1), .val (.int (p0 &&& (7 : Int32))), .unset, .unset, .unset] [])) _
        refine XS.iloadN X0.here hx rfl (hb hby at_26) rfl ?_
        show Steps p.tables e below (s₁.setTop (mkF m 27 #[.val (.int p0), .val (.int p1), .val (.int (p0 &&& (7 : Int32))), .unset, .unset, .unset] [(.int (p0 &&& (7 : Int32)))])) _
        refine XS.iconst X0.here hx rfl (hb hby at_27) ?_
        exact kt)
      by_cases hc64 : (p0 &&& (7 : Int32)) = (2 : Int32)
      · --
        have pre65 : ∀ t, Steps p.tables e below (s₁.setTop (mkF m 52 #[.val (.int p0), .val (.int p1), .val (.int (p0 &&& (7 : Int32))), .val (.int (66 : Int32)), .unset, .unset] [(.int (66 : Int32))])) t → Steps p.tables e below (s₁.setTop (entryFrame m #[(.int p0), (.int p1)] maxLocals)) t := fun t kt => pre63 t (by
          show Steps p.tables e below (s₁.setTop (mkF m 28 #[.val (.int p0), .val (.int p1), .val (.int (p0 &&& (7 : Int32))), .unset, .unset, .unset] [(.int (2 : Int32)), (.int (p0 &&& (7 : Int32)))])) _
          refine XS.icmpNo X0.here hx rfl (hb hby at_28) rfl (teq hc64).2 ?_
          show Steps p.tables e below (s₁.setTop (mkF m 31 #[.val (.int p0), .val (.int p1), .val (.int (p0 &&& (7 : Int32))), .unset, .unset, .unset] [])) _
          refine XS.bipush X0.here hx rfl (hb hby at_31) ?_
          show Steps p.tables e below (s₁.setTop (mkF m 33 #[.val (.int p0), .val (.int p1), .val (.int (p0 &&& (7 : Int32))), .unset, .unset, .unset] [(.int (66 : Int32))])) _
          refine XS.istoreN X0.here hx rfl (hb hby at_33) rfl (l' := #[.val (.int p0), .val (.int p1), .val (.int (p0 &&& (7 : Int32))), .val (.int (66 : Int32)), .unset, .unset]) rfl ?_
          show Steps p.tables e below (s₁.setTop (mkF m 34 #[.val (.int p0), .val (.int p1), .val (.int (p0 &&& (7 : Int32))), .val (.int (66 : Int32)), .unset, .unset] [])) _
          refine XS.goto X0.here hx rfl (pc0 := 34) (pc' := 51) rfl (hb hby at_34) (by decide) (by decide) ?_
          show Steps p.tables e below (s₁.setTop (mkF m 51 #[.val (.int p0), .val (.int p1), .val (.int (p0 &&& (7 : Int32))), .val (.int (66 : Int32)), .unset, .unset] [])) _
          refine XS.iloadN X0.here hx rfl (hb hby at_51) rfl ?_
          exact kt)
        obtain ⟨vr66, _, ⟨T66, L66, k66, n66⟩, -, X66, ⟨Lc66, hQ66, l66, y66, z66⟩, st66⟩ := Jvm.LawKit.callS X0 hx (y := (⟨"com/example/smazzata/smazzata/card/SuitFromCodePinLaw", "reference", "(C)Lcom/example/smazzata/smazzata/card/Suit;"⟩ : MethodName)) hown (mvT hZ (hw _ (List.mem_of_getElem? (i := 0) rfl))) (mvT hZ (hw _ (List.mem_of_getElem? (i := 1) rfl))) (mvT hZ (hw _ (List.mem_of_getElem? (i := 2) rfl))) (mvT hZ (hw _ (List.mem_of_getElem? (i := 3) rfl))) (by decide) (backOf (W := 0) (rm1 l Z a0 hw [] u (66 : Int32) B h0 n0 O ) hZ (hw _ (List.mem_of_getElem? (i := 3) rfl)) (hw _ (List.mem_of_getElem? (i := 2) rfl)) (by decide) (by decide)) (g := (mkF m 52 #[.val (.int p0), .val (.int p1), .val (.int (p0 &&& (7 : Int32))), .val (.int (66 : Int32)), .unset, .unset] [(.int (66 : Int32))])) rfl (by rw [hml]; rfl) (argsL := [(.int (66 : Int32))]) (rest := []) (lenOf own_pd1 rfl) rfl (by show 2 * 0 + _ ≤ _; exact Nat.le_of_eq rfl) (hb hby at_52) (fun _ _ => ⟨rfl, e0, (by decide : 0 + 0 ≤ _), (by decide : 0 + 0 ≤ _)⟩)
        dsimp only [Pt.U, Pt.locs, Pt.cells, Pt.slots] at X66 l66 y66 z66 st66 hQ66
        subst l66 y66 z66
        obtain ⟨hv66, N66q, e66⟩ := hQ66
        have N66 := Fr.app N0 N66q
        obtain rfl : vr66 = some (.ref (u 3)) := hv66.trans (by unfold own_r1; rw [if_neg (by decide : ¬ ((66 : Int32) = (68 : Int32))), if_neg (by decide : ¬ ((66 : Int32) = (67 : Int32))), if_pos (by decide : (66 : Int32) = (66 : Int32))])
        have pre67 : ∀ t, Steps p.tables e below (T66.setTop (mkF m 58 #[.val (.int p0), .val (.int p1), .val (.int (p0 &&& (7 : Int32))), .val (.int (66 : Int32)), .val (.ref (u 3)), .unset] [(.int (66 : Int32))])) t → Steps p.tables e below (s₁.setTop (entryFrame m #[(.int p0), (.int p1)] maxLocals)) t := fun t kt => pre65 t (by
          show Steps p.tables e below (s₁.setTop (mkF m 52 #[.val (.int p0), .val (.int p1), .val (.int (p0 &&& (7 : Int32))), .val (.int (66 : Int32)), .unset, .unset] [(.int (66 : Int32))])) _
          refine st66 _ ?_
          show Steps p.tables e below (T66.setTop (mkF m 55 #[.val (.int p0), .val (.int p1), .val (.int (p0 &&& (7 : Int32))), .val (.int (66 : Int32)), .unset, .unset] [(.ref (u 3))])) _
          refine XS.astore X66.here hx rfl (hb hby at_55) rfl rfl (l' := #[.val (.int p0), .val (.int p1), .val (.int (p0 &&& (7 : Int32))), .val (.int (66 : Int32)), .val (.ref (u 3)), .unset]) rfl ?_
          show Steps p.tables e below (T66.setTop (mkF m 57 #[.val (.int p0), .val (.int p1), .val (.int (p0 &&& (7 : Int32))), .val (.int (66 : Int32)), .val (.ref (u 3)), .unset] [])) _
          refine XS.iloadN X66.here hx rfl (hb hby at_57) rfl ?_
          exact kt)
        obtain ⟨vr68, _, ⟨T68, L68, k68, n68⟩, -, X68, ⟨Lc68, hQ68, l68, y68, z68⟩, st68⟩ := Jvm.LawKit.callS X66 hx (y := (⟨"com/example/smazzata/smazzata/card/Suit", "fromCode", "(C)Lcom/example/smazzata/smazzata/card/Suit;"⟩ : MethodName)) hown (mvT hZ (hw _ (List.mem_of_getElem? (i := 7) rfl))) (mvT hZ (hw _ (List.mem_of_getElem? (i := 8) rfl))) (mvT hZ (hw _ (List.mem_of_getElem? (i := 5) rfl))) (mvT hZ (hw _ (List.mem_of_getElem? (i := 9) rfl))) (by decide) (backOf (W := 0) (rm2 l Z a0 hw [] u (66 : Int32) B h0 n0 O ) hZ (hw _ (List.mem_of_getElem? (i := 9) rfl)) (hw _ (List.mem_of_getElem? (i := 5) rfl)) (by decide) (by decide)) (g := (mkF m 58 #[.val (.int p0), .val (.int p1), .val (.int (p0 &&& (7 : Int32))), .val (.int (66 : Int32)), .val (.ref (u 3)), .unset] [(.int (66 : Int32))])) rfl (by rw [hml]; rfl) (argsL := [(.int (66 : Int32))]) (rest := []) (lenOf own_pd1 rfl) rfl (by show 2 * 0 + _ ≤ _; exact Nat.le_of_eq rfl) (hb hby at_58) (fun _ _ => ⟨rfl, e66, (by decide : 0 + 1 ≤ _), (by decide : 0 + 4 ≤ _)⟩)
        dsimp only [Pt.U, Pt.locs, Pt.cells, Pt.slots] at X68 l68 y68 z68 st68 hQ68
        subst l68 y68 z68
        obtain ⟨hv68, N68q, E68⟩ := hQ68
        have N68 := Fr.app N66 N68q
        have O68 := O.ext E68
        have K68 := K0.ext E68
        obtain rfl : vr68 = some (.ref (u 3)) := hv68.trans (by unfold own_r2; rw [if_neg (by decide : ¬ ((68 : Int32) = (66 : Int32))), if_neg (by decide : ¬ ((67 : Int32) = (66 : Int32))), if_pos (by decide : (66 : Int32) = (66 : Int32))])
        obtain ⟨cq69, kq69, q69a, q69b, q69c⟩ := isOf hZ rfl (B.2.2.2.2.2.2.2.1.ext O68.2)
        obtain ⟨vr69, _, ⟨T69, L69, k69, n69⟩, -, X69, ⟨Lc69, hQ69, l69, y69, z69⟩, st69⟩ := X68.virtualBack hx (y := (⟨"com/example/smazzata/smazzata/card/Suit", "code", "()C"⟩ : MethodName)) (z := (⟨"com/example/smazzata/smazzata/card/Suit", "code", "()C"⟩ : MethodName)) hown (mvT hZ (hw _ (List.mem_of_getElem? (i := 30) rfl))) (mvT hZ (hw _ (List.mem_of_getElem? (i := 31) rfl))) (notFace_of_selects (args := #[]) (mvT hZ (hw _ (List.mem_of_getElem? (i := 33) rfl)))) (mvT hZ (hw _ (List.mem_of_getElem? (i := 33) rfl))) (mvT hZ (hw _ (List.mem_of_getElem? (i := 32) rfl))) (by decide) (backOf (W := 0) (rm4 l Z a0 hw [] u (u 3) (66 : Int32) B T68.heap n0 O68 (B.2.2.2.2.2.2.2.2.2.2.2.2.2.1.ext O68.2)) hZ (hw _ (List.mem_of_getElem? (i := 34) rfl)) (hw _ (List.mem_of_getElem? (i := 5) rfl)) (by decide) (by decide)) q69a q69c (g := (mkF m 79 #[.val (.int p0), .val (.int p1), .val (.int (p0 &&& (7 : Int32))), .val (.int (66 : Int32)), .val (.ref (u 3)), .val (.ref (u 3))] [(.ref (u 3))])) rfl (by rw [hml]; rfl) (Steps.refl _) (argsL := []) (rest := []) (lenOf own_pd2 rfl) rfl (by show 2 * 0 + _ ≤ _; exact Nat.le_of_eq rfl) (hb hby at_79) (fun _ _ => ⟨rfl, rfl, (by decide : 1 + 0 ≤ _), (by decide : 4 + 0 ≤ _)⟩)
        dsimp only [Pt.U, Pt.locs, Pt.cells, Pt.slots] at X69 l69 y69 z69 st69 hQ69
        subst l69 y69 z69
        obtain ⟨rfl, N69q, e69⟩ := hQ69
        have N69 := Fr.app N68 N69q
        obtain ⟨fs, hr, hrun, hended, hW, hsame⟩ := X69.leave (v := some (.int (1 : Int32))) (fun h => by rw [Bd.returns] at h; cases h)
        refine ⟨_, _, pre67 _ ?_, hrun, hended, _, _, rfl, ?_, ⟨_, rfl⟩, hW, hsame.mono (by decide) (by decide)⟩
        · show Steps p.tables e below (T66.setTop (mkF m 58 #[.val (.int p0), .val (.int p1), .val (.int (p0 &&& (7 : Int32))), .val (.int (66 : Int32)), .val (.ref (u 3)), .unset] [(.int (66 : Int32))])) _
          refine st68 _ ?_
          show Steps p.tables e below (T68.setTop (mkF m 61 #[.val (.int p0), .val (.int p1), .val (.int (p0 &&& (7 : Int32))), .val (.int (66 : Int32)), .val (.ref (u 3)), .unset] [(.ref (u 3))])) _
          refine XS.astore X68.here hx rfl (hb hby at_61) rfl rfl (l' := #[.val (.int p0), .val (.int p1), .val (.int (p0 &&& (7 : Int32))), .val (.int (66 : Int32)), .val (.ref (u 3)), .val (.ref (u 3))]) rfl ?_
          show Steps p.tables e below (T68.setTop (mkF m 63 #[.val (.int p0), .val (.int p1), .val (.int (p0 &&& (7 : Int32))), .val (.int (66 : Int32)), .val (.ref (u 3)), .val (.ref (u 3))] [])) _
          refine XS.aload X68.here hx rfl (hb hby at_63) rfl rfl ?_
          show Steps p.tables e below (T68.setTop (mkF m 65 #[.val (.int p0), .val (.int p1), .val (.int (p0 &&& (7 : Int32))), .val (.int (66 : Int32)), .val (.ref (u 3)), .val (.ref (u 3))] [(.ref (u 3))])) _
          refine XS.aload X68.here hx rfl (hb hby at_65) rfl rfl ?_
          show Steps p.tables e below (T68.setTop (mkF m 67 #[.val (.int p0), .val (.int p1), .val (.int (p0 &&& (7 : Int32))), .val (.int (66 : Int32)), .val (.ref (u 3)), .val (.ref (u 3))] [(.ref (u 3)), (.ref (u 3))])) _
          refine Jvm.RoadKit.acmp (g := (mkF m 67 #[.val (.int p0), .val (.int p1), .val (.int (p0 &&& (7 : Int32))), .val (.int (66 : Int32)), .val (.ref (u 3)), .val (.ref (u 3))] [(.ref (u 3)), (.ref (u 3))])) X68 hx rfl rfl rfl (pc0 := 67) (pc' := 72) (same := true) rfl (hb hby at_67) rfl (decide_eq_true rfl) (by decide) (by decide) ?_
          show Steps p.tables e below (T68.setTop (mkF m 72 #[.val (.int p0), .val (.int p1), .val (.int (p0 &&& (7 : Int32))), .val (.int (66 : Int32)), .val (.ref (u 3)), .val (.ref (u 3))] [])) _
          refine XS.aload X68.here hx rfl (hb hby at_72) rfl rfl ?_
          show Steps p.tables e below (T68.setTop (mkF m 74 #[.val (.int p0), .val (.int p1), .val (.int (p0 &&& (7 : Int32))), .val (.int (66 : Int32)), .val (.ref (u 3)), .val (.ref (u 3))] [(.ref (u 3))])) _
          refine XS.ifnullNo X68.here hx rfl (hb hby at_74) rfl ?_
          show Steps p.tables e below (T68.setTop (mkF m 77 #[.val (.int p0), .val (.int p1), .val (.int (p0 &&& (7 : Int32))), .val (.int (66 : Int32)), .val (.ref (u 3)), .val (.ref (u 3))] [])) _
          refine XS.aload X68.here hx rfl (hb hby at_77) rfl rfl ?_
          show Steps p.tables e below (T68.setTop (mkF m 79 #[.val (.int p0), .val (.int p1), .val (.int (p0 &&& (7 : Int32))), .val (.int (66 : Int32)), .val (.ref (u 3)), .val (.ref (u 3))] [(.ref (u 3))])) _
          refine st69.trans ?_
          show Steps p.tables e below (T69.setTop (mkF m 82 #[.val (.int p0), .val (.int p1), .val (.int (p0 &&& (7 : Int32))), .val (.int (66 : Int32)), .val (.ref (u 3)), .val (.ref (u 3))] [(.int (66 : Int32))])) _
          refine XS.iloadN X69.here hx rfl (hb hby at_82) rfl ?_
          show Steps p.tables e below (T69.setTop (mkF m 83 #[.val (.int p0), .val (.int p1), .val (.int (p0 &&& (7 : Int32))), .val (.int (66 : Int32)), .val (.ref (u 3)), .val (.ref (u 3))] [(.int (66 : Int32)), (.int (66 : Int32))])) _
          refine XS.icmpYes X69.here hx rfl (pc0 := 83) (pc' := 88) rfl (hb hby at_83) rfl (teq (by decide : (66 : Int32) = (66 : Int32))).1 (by decide) (by decide) ?_
          show Steps p.tables e below (T69.setTop (mkF m 88 #[.val (.int p0), .val (.int p1), .val (.int (p0 &&& (7 : Int32))), .val (.int (66 : Int32)), .val (.ref (u 3)), .val (.ref (u 3))] [])) _
          refine XS.iconst X69.here hx rfl (hb hby at_88) ?_
          show Steps p.tables e below (T69.setTop (mkF m 89 #[.val (.int p0), .val (.int p1), .val (.int (p0 &&& (7 : Int32))), .val (.int (66 : Int32)), .val (.ref (u 3)), .val (.ref (u 3))] [(.int (1 : Int32))])) _
          exact retN X69 hx (t := .boolean) Bd.returns (by simp) (hb hby at_89) hr
        · show own_Q0 Z u p0 p1 h0 n0 _ T69.heap _
          rw [e69]
          exact ⟨rfl, N69, trivial⟩
      · --
        have pre71 : ∀ t, Steps p.tables e below (s₁.setTop (mkF m 39 #[.val (.int p0), .val (.int p1), .val (.int (p0 &&& (7 : Int32))), .unset, .unset, .unset] [(.int (3 : Int32)), (.int (p0 &&& (7 : Int32)))])) t → Steps p.tables e below (s₁.setTop (entryFrame m #[(.int p0), (.int p1)] maxLocals)) t := fun t kt => pre63 t (by
          show Steps p.tables e below (s₁.setTop (mkF m 28 #[.val (.int p0), .val (.int p1), .val (.int (p0 &&& (7 : Int32))), .unset, .unset, .unset] [(.int (2 : Int32)), (.int (p0 &&& (7 : Int32)))])) _
          refine XS.icmpYes X0.here hx rfl (pc0 := 28) (pc' := 37) rfl (hb hby at_28) rfl (feq hc64).2 (by decide) (by decide) ?_
          show Steps p.tables e below (s₁.setTop (mkF m 37 #[.val (.int p0), .val (.int p1), .val (.int (p0 &&& (7 : Int32))), .unset, .unset, .unset] [])) _
          refine XS.iloadN X0.here hx rfl (hb hby at_37) rfl ?_
          show Steps p.tables e below (s₁.setTop (mkF m 38 #[.val (.int p0), .val (.int p1), .val (.int (p0 &&& (7 : Int32))), .unset, .unset, .unset] [(.int (p0 &&& (7 : Int32)))])) _
          refine XS.iconst X0.here hx rfl (hb hby at_38) ?_
          exact kt)
        by_cases hc72 : (p0 &&& (7 : Int32)) = (3 : Int32)
        · --
          have pre73 : ∀ t, Steps p.tables e below (s₁.setTop (mkF m 52 #[.val (.int p0), .val (.int p1), .val (.int (p0 &&& (7 : Int32))), .val (.int (83 : Int32)), .unset, .unset] [(.int (83 : Int32))])) t → Steps p.tables e below (s₁.setTop (entryFrame m #[(.int p0), (.int p1)] maxLocals)) t := fun t kt => pre71 t (by
            show Steps p.tables e below (s₁.setTop (mkF m 39 #[.val (.int p0), .val (.int p1), .val (.int (p0 &&& (7 : Int32))), .unset, .unset, .unset] [(.int (3 : Int32)), (.int (p0 &&& (7 : Int32)))])) _
            refine XS.icmpNo X0.here hx rfl (hb hby at_39) rfl (teq hc72).2 ?_
            show Steps p.tables e below (s₁.setTop (mkF m 42 #[.val (.int p0), .val (.int p1), .val (.int (p0 &&& (7 : Int32))), .unset, .unset, .unset] [])) _
            refine XS.bipush X0.here hx rfl (hb hby at_42) ?_
            show Steps p.tables e below (s₁.setTop (mkF m 44 #[.val (.int p0), .val (.int p1), .val (.int (p0 &&& (7 : Int32))), .unset, .unset, .unset] [(.int (83 : Int32))])) _
            refine XS.istoreN X0.here hx rfl (hb hby at_44) rfl (l' := #[.val (.int p0), .val (.int p1), .val (.int (p0 &&& (7 : Int32))), .val (.int (83 : Int32)), .unset, .unset]) rfl ?_
            show Steps p.tables e below (s₁.setTop (mkF m 45 #[.val (.int p0), .val (.int p1), .val (.int (p0 &&& (7 : Int32))), .val (.int (83 : Int32)), .unset, .unset] [])) _
            refine XS.goto X0.here hx rfl (pc0 := 45) (pc' := 51) rfl (hb hby at_45) (by decide) (by decide) ?_
            show Steps p.tables e below (s₁.setTop (mkF m 51 #[.val (.int p0), .val (.int p1), .val (.int (p0 &&& (7 : Int32))), .val (.int (83 : Int32)), .unset, .unset] [])) _
            refine XS.iloadN X0.here hx rfl (hb hby at_51) rfl ?_
            exact kt)
          obtain ⟨vr74, _, ⟨T74, L74, k74, n74⟩, -, X74, ⟨Lc74, hQ74, l74, y74, z74⟩, st74⟩ := Jvm.LawKit.callS X0 hx (y := (⟨"com/example/smazzata/smazzata/card/SuitFromCodePinLaw", "reference", "(C)Lcom/example/smazzata/smazzata/card/Suit;"⟩ : MethodName)) hown (mvT hZ (hw _ (List.mem_of_getElem? (i := 0) rfl))) (mvT hZ (hw _ (List.mem_of_getElem? (i := 1) rfl))) (mvT hZ (hw _ (List.mem_of_getElem? (i := 2) rfl))) (mvT hZ (hw _ (List.mem_of_getElem? (i := 3) rfl))) (by decide) (backOf (W := 0) (rm1 l Z a0 hw [] u (83 : Int32) B h0 n0 O ) hZ (hw _ (List.mem_of_getElem? (i := 3) rfl)) (hw _ (List.mem_of_getElem? (i := 2) rfl)) (by decide) (by decide)) (g := (mkF m 52 #[.val (.int p0), .val (.int p1), .val (.int (p0 &&& (7 : Int32))), .val (.int (83 : Int32)), .unset, .unset] [(.int (83 : Int32))])) rfl (by rw [hml]; rfl) (argsL := [(.int (83 : Int32))]) (rest := []) (lenOf own_pd1 rfl) rfl (by show 2 * 0 + _ ≤ _; exact Nat.le_of_eq rfl) (hb hby at_52) (fun _ _ => ⟨rfl, e0, (by decide : 0 + 0 ≤ _), (by decide : 0 + 0 ≤ _)⟩)
          dsimp only [Pt.U, Pt.locs, Pt.cells, Pt.slots] at X74 l74 y74 z74 st74 hQ74
          subst l74 y74 z74
          obtain ⟨hv74, N74q, e74⟩ := hQ74
          have N74 := Fr.app N0 N74q
          obtain rfl : vr74 = some (.ref (u 4)) := hv74.trans (by unfold own_r1; rw [if_neg (by decide : ¬ ((83 : Int32) = (68 : Int32))), if_neg (by decide : ¬ ((83 : Int32) = (67 : Int32))), if_neg (by decide : ¬ ((83 : Int32) = (66 : Int32))), if_pos (by decide : (83 : Int32) = (83 : Int32))])
          have pre75 : ∀ t, Steps p.tables e below (T74.setTop (mkF m 58 #[.val (.int p0), .val (.int p1), .val (.int (p0 &&& (7 : Int32))), .val (.int (83 : Int32)), .val (.ref (u 4)), .unset] [(.int (83 : Int32))])) t → Steps p.tables e below (s₁.setTop (entryFrame m #[(.int p0), (.int p1)] maxLocals)) t := fun t kt => pre73 t (by
            show Steps p.tables e below (s₁.setTop (mkF m 52 #[.val (.int p0), .val (.int p1), .val (.int (p0 &&& (7 : Int32))), .val (.int (83 : Int32)), .unset, .unset] [(.int (83 : Int32))])) _
            refine st74 _ ?_
            show Steps p.tables e below (T74.setTop (mkF m 55 #[.val (.int p0), .val (.int p1), .val (.int (p0 &&& (7 : Int32))), .val (.int (83 : Int32)), .unset, .unset] [(.ref (u 4))])) _
            refine XS.astore X74.here hx rfl (hb hby at_55) rfl rfl (l' := #[.val (.int p0), .val (.int p1), .val (.int (p0 &&& (7 : Int32))), .val (.int (83 : Int32)), .val (.ref (u 4)), .unset]) rfl ?_
            show Steps p.tables e below (T74.setTop (mkF m 57 #[.val (.int p0), .val (.int p1), .val (.int (p0 &&& (7 : Int32))), .val (.int (83 : Int32)), .val (.ref (u 4)), .unset] [])) _
            refine XS.iloadN X74.here hx rfl (hb hby at_57) rfl ?_
            exact kt)
          obtain ⟨vr76, _, ⟨T76, L76, k76, n76⟩, -, X76, ⟨Lc76, hQ76, l76, y76, z76⟩, st76⟩ := Jvm.LawKit.callS X74 hx (y := (⟨"com/example/smazzata/smazzata/card/Suit", "fromCode", "(C)Lcom/example/smazzata/smazzata/card/Suit;"⟩ : MethodName)) hown (mvT hZ (hw _ (List.mem_of_getElem? (i := 7) rfl))) (mvT hZ (hw _ (List.mem_of_getElem? (i := 8) rfl))) (mvT hZ (hw _ (List.mem_of_getElem? (i := 5) rfl))) (mvT hZ (hw _ (List.mem_of_getElem? (i := 9) rfl))) (by decide) (backOf (W := 0) (rm2 l Z a0 hw [] u (83 : Int32) B h0 n0 O ) hZ (hw _ (List.mem_of_getElem? (i := 9) rfl)) (hw _ (List.mem_of_getElem? (i := 5) rfl)) (by decide) (by decide)) (g := (mkF m 58 #[.val (.int p0), .val (.int p1), .val (.int (p0 &&& (7 : Int32))), .val (.int (83 : Int32)), .val (.ref (u 4)), .unset] [(.int (83 : Int32))])) rfl (by rw [hml]; rfl) (argsL := [(.int (83 : Int32))]) (rest := []) (lenOf own_pd1 rfl) rfl (by show 2 * 0 + _ ≤ _; exact Nat.le_of_eq rfl) (hb hby at_58) (fun _ _ => ⟨rfl, e74, (by decide : 0 + 1 ≤ _), (by decide : 0 + 4 ≤ _)⟩)
          dsimp only [Pt.U, Pt.locs, Pt.cells, Pt.slots] at X76 l76 y76 z76 st76 hQ76
          subst l76 y76 z76
          obtain ⟨hv76, N76q, E76⟩ := hQ76
          have N76 := Fr.app N74 N76q
          have O76 := O.ext E76
          have K76 := K0.ext E76
          obtain rfl : vr76 = some (.ref (u 4)) := hv76.trans (by unfold own_r2; rw [if_neg (by decide : ¬ ((68 : Int32) = (83 : Int32))), if_neg (by decide : ¬ ((67 : Int32) = (83 : Int32))), if_neg (by decide : ¬ ((66 : Int32) = (83 : Int32))), if_pos (by decide : (83 : Int32) = (83 : Int32))])
          obtain ⟨cq77, kq77, q77a, q77b, q77c⟩ := isOf hZ rfl (B.2.2.2.2.2.2.2.2.2.1.ext O76.2)
          obtain ⟨vr77, _, ⟨T77, L77, k77, n77⟩, -, X77, ⟨Lc77, hQ77, l77, y77, z77⟩, st77⟩ := X76.virtualBack hx (y := (⟨"com/example/smazzata/smazzata/card/Suit", "code", "()C"⟩ : MethodName)) (z := (⟨"com/example/smazzata/smazzata/card/Suit", "code", "()C"⟩ : MethodName)) hown (mvT hZ (hw _ (List.mem_of_getElem? (i := 30) rfl))) (mvT hZ (hw _ (List.mem_of_getElem? (i := 31) rfl))) (notFace_of_selects (args := #[]) (mvT hZ (hw _ (List.mem_of_getElem? (i := 33) rfl)))) (mvT hZ (hw _ (List.mem_of_getElem? (i := 33) rfl))) (mvT hZ (hw _ (List.mem_of_getElem? (i := 32) rfl))) (by decide) (backOf (W := 0) (rm4 l Z a0 hw [] u (u 4) (83 : Int32) B T76.heap n0 O76 (B.2.2.2.2.2.2.2.2.2.2.2.2.2.2.ext O76.2)) hZ (hw _ (List.mem_of_getElem? (i := 34) rfl)) (hw _ (List.mem_of_getElem? (i := 5) rfl)) (by decide) (by decide)) q77a q77c (g := (mkF m 79 #[.val (.int p0), .val (.int p1), .val (.int (p0 &&& (7 : Int32))), .val (.int (83 : Int32)), .val (.ref (u 4)), .val (.ref (u 4))] [(.ref (u 4))])) rfl (by rw [hml]; rfl) (Steps.refl _) (argsL := []) (rest := []) (lenOf own_pd2 rfl) rfl (by show 2 * 0 + _ ≤ _; exact Nat.le_of_eq rfl) (hb hby at_79) (fun _ _ => ⟨rfl, rfl, (by decide : 1 + 0 ≤ _), (by decide : 4 + 0 ≤ _)⟩)
          dsimp only [Pt.U, Pt.locs, Pt.cells, Pt.slots] at X77 l77 y77 z77 st77 hQ77
          subst l77 y77 z77
          obtain ⟨rfl, N77q, e77⟩ := hQ77
          have N77 := Fr.app N76 N77q
          obtain ⟨fs, hr, hrun, hended, hW, hsame⟩ := X77.leave (v := some (.int (1 : Int32))) (fun h => by rw [Bd.returns] at h; cases h)
          refine ⟨_, _, pre75 _ ?_, hrun, hended, _, _, rfl, ?_, ⟨_, rfl⟩, hW, hsame.mono (by decide) (by decide)⟩
          · show Steps p.tables e below (T74.setTop (mkF m 58 #[.val (.int p0), .val (.int p1), .val (.int (p0 &&& (7 : Int32))), .val (.int (83 : Int32)), .val (.ref (u 4)), .unset] [(.int (83 : Int32))])) _
            refine st76 _ ?_
            show Steps p.tables e below (T76.setTop (mkF m 61 #[.val (.int p0), .val (.int p1), .val (.int (p0 &&& (7 : Int32))), .val (.int (83 : Int32)), .val (.ref (u 4)), .unset] [(.ref (u 4))])) _
            refine XS.astore X76.here hx rfl (hb hby at_61) rfl rfl (l' := #[.val (.int p0), .val (.int p1), .val (.int (p0 &&& (7 : Int32))), .val (.int (83 : Int32)), .val (.ref (u 4)), .val (.ref (u 4))]) rfl ?_
            show Steps p.tables e below (T76.setTop (mkF m 63 #[.val (.int p0), .val (.int p1), .val (.int (p0 &&& (7 : Int32))), .val (.int (83 : Int32)), .val (.ref (u 4)), .val (.ref (u 4))] [])) _
            refine XS.aload X76.here hx rfl (hb hby at_63) rfl rfl ?_
            show Steps p.tables e below (T76.setTop (mkF m 65 #[.val (.int p0), .val (.int p1), .val (.int (p0 &&& (7 : Int32))), .val (.int (83 : Int32)), .val (.ref (u 4)), .val (.ref (u 4))] [(.ref (u 4))])) _
            refine XS.aload X76.here hx rfl (hb hby at_65) rfl rfl ?_
            show Steps p.tables e below (T76.setTop (mkF m 67 #[.val (.int p0), .val (.int p1), .val (.int (p0 &&& (7 : Int32))), .val (.int (83 : Int32)), .val (.ref (u 4)), .val (.ref (u 4))] [(.ref (u 4)), (.ref (u 4))])) _
            refine Jvm.RoadKit.acmp (g := (mkF m 67 #[.val (.int p0), .val (.int p1), .val (.int (p0 &&& (7 : Int32))), .val (.int (83 : Int32)), .val (.ref (u 4)), .val (.ref (u 4))] [(.ref (u 4)), (.ref (u 4))])) X76 hx rfl rfl rfl (pc0 := 67) (pc' := 72) (same := true) rfl (hb hby at_67) rfl (decide_eq_true rfl) (by decide) (by decide) ?_
            show Steps p.tables e below (T76.setTop (mkF m 72 #[.val (.int p0), .val (.int p1), .val (.int (p0 &&& (7 : Int32))), .val (.int (83 : Int32)), .val (.ref (u 4)), .val (.ref (u 4))] [])) _
            refine XS.aload X76.here hx rfl (hb hby at_72) rfl rfl ?_
            show Steps p.tables e below (T76.setTop (mkF m 74 #[.val (.int p0), .val (.int p1), .val (.int (p0 &&& (7 : Int32))), .val (.int (83 : Int32)), .val (.ref (u 4)), .val (.ref (u 4))] [(.ref (u 4))])) _
            refine XS.ifnullNo X76.here hx rfl (hb hby at_74) rfl ?_
            show Steps p.tables e below (T76.setTop (mkF m 77 #[.val (.int p0), .val (.int p1), .val (.int (p0 &&& (7 : Int32))), .val (.int (83 : Int32)), .val (.ref (u 4)), .val (.ref (u 4))] [])) _
            refine XS.aload X76.here hx rfl (hb hby at_77) rfl rfl ?_
            show Steps p.tables e below (T76.setTop (mkF m 79 #[.val (.int p0), .val (.int p1), .val (.int (p0 &&& (7 : Int32))), .val (.int (83 : Int32)), .val (.ref (u 4)), .val (.ref (u 4))] [(.ref (u 4))])) _
            refine st77.trans ?_
            show Steps p.tables e below (T77.setTop (mkF m 82 #[.val (.int p0), .val (.int p1), .val (.int (p0 &&& (7 : Int32))), .val (.int (83 : Int32)), .val (.ref (u 4)), .val (.ref (u 4))] [(.int (83 : Int32))])) _
            refine XS.iloadN X77.here hx rfl (hb hby at_82) rfl ?_
            show Steps p.tables e below (T77.setTop (mkF m 83 #[.val (.int p0), .val (.int p1), .val (.int (p0 &&& (7 : Int32))), .val (.int (83 : Int32)), .val (.ref (u 4)), .val (.ref (u 4))] [(.int (83 : Int32)), (.int (83 : Int32))])) _
            refine XS.icmpYes X77.here hx rfl (pc0 := 83) (pc' := 88) rfl (hb hby at_83) rfl (teq (by decide : (83 : Int32) = (83 : Int32))).1 (by decide) (by decide) ?_
            show Steps p.tables e below (T77.setTop (mkF m 88 #[.val (.int p0), .val (.int p1), .val (.int (p0 &&& (7 : Int32))), .val (.int (83 : Int32)), .val (.ref (u 4)), .val (.ref (u 4))] [])) _
            refine XS.iconst X77.here hx rfl (hb hby at_88) ?_
            show Steps p.tables e below (T77.setTop (mkF m 89 #[.val (.int p0), .val (.int p1), .val (.int (p0 &&& (7 : Int32))), .val (.int (83 : Int32)), .val (.ref (u 4)), .val (.ref (u 4))] [(.int (1 : Int32))])) _
            exact retN X77 hx (t := .boolean) Bd.returns (by simp) (hb hby at_89) hr
          · show own_Q0 Z u p0 p1 h0 n0 _ T77.heap _
            rw [e77]
            exact ⟨rfl, N77, trivial⟩
        · --
          have pre79 : ∀ t, Steps p.tables e below (s₁.setTop (mkF m 52 #[.val (.int p0), .val (.int p1), .val (.int (p0 &&& (7 : Int32))), .val (.int (p1.toUInt32.toUInt16.toUInt32.toInt32)), .unset, .unset] [(.int (p1.toUInt32.toUInt16.toUInt32.toInt32))])) t → Steps p.tables e below (s₁.setTop (entryFrame m #[(.int p0), (.int p1)] maxLocals)) t := fun t kt => pre71 t (by
            show Steps p.tables e below (s₁.setTop (mkF m 39 #[.val (.int p0), .val (.int p1), .val (.int (p0 &&& (7 : Int32))), .unset, .unset, .unset] [(.int (3 : Int32)), (.int (p0 &&& (7 : Int32)))])) _
            refine XS.icmpYes X0.here hx rfl (pc0 := 39) (pc' := 48) rfl (hb hby at_39) rfl (feq hc72).2 (by decide) (by decide) ?_
            show Steps p.tables e below (s₁.setTop (mkF m 48 #[.val (.int p0), .val (.int p1), .val (.int (p0 &&& (7 : Int32))), .unset, .unset, .unset] [])) _
            refine XS.iloadN X0.here hx rfl (hb hby at_48) rfl ?_
            show Steps p.tables e below (s₁.setTop (mkF m 49 #[.val (.int p0), .val (.int p1), .val (.int (p0 &&& (7 : Int32))), .unset, .unset, .unset] [(.int p1)])) _
            refine XS.i2c X0.here hx rfl (hb hby at_49) rfl ?_
            show Steps p.tables e below (s₁.setTop (mkF m 50 #[.val (.int p0), .val (.int p1), .val (.int (p0 &&& (7 : Int32))), .unset, .unset, .unset] [(.int (p1.toUInt32.toUInt16.toUInt32.toInt32))])) _
            refine XS.istoreN X0.here hx rfl (hb hby at_50) rfl (l' := #[.val (.int p0), .val (.int p1), .val (.int (p0 &&& (7 : Int32))), .val (.int (p1.toUInt32.toUInt16.toUInt32.toInt32)), .unset, .unset]) rfl ?_
            show Steps p.tables e below (s₁.setTop (mkF m 51 #[.val (.int p0), .val (.int p1), .val (.int (p0 &&& (7 : Int32))), .val (.int (p1.toUInt32.toUInt16.toUInt32.toInt32)), .unset, .unset] [])) _
            refine XS.iloadN X0.here hx rfl (hb hby at_51) rfl ?_
            exact kt)
          obtain ⟨vr80, _, ⟨T80, L80, k80, n80⟩, -, X80, ⟨Lc80, hQ80, l80, y80, z80⟩, st80⟩ := Jvm.LawKit.callS X0 hx (y := (⟨"com/example/smazzata/smazzata/card/SuitFromCodePinLaw", "reference", "(C)Lcom/example/smazzata/smazzata/card/Suit;"⟩ : MethodName)) hown (mvT hZ (hw _ (List.mem_of_getElem? (i := 0) rfl))) (mvT hZ (hw _ (List.mem_of_getElem? (i := 1) rfl))) (mvT hZ (hw _ (List.mem_of_getElem? (i := 2) rfl))) (mvT hZ (hw _ (List.mem_of_getElem? (i := 3) rfl))) (by decide) (backOf (W := 0) (rm1 l Z a0 hw [] u (p1.toUInt32.toUInt16.toUInt32.toInt32) B h0 n0 O ) hZ (hw _ (List.mem_of_getElem? (i := 3) rfl)) (hw _ (List.mem_of_getElem? (i := 2) rfl)) (by decide) (by decide)) (g := (mkF m 52 #[.val (.int p0), .val (.int p1), .val (.int (p0 &&& (7 : Int32))), .val (.int (p1.toUInt32.toUInt16.toUInt32.toInt32)), .unset, .unset] [(.int (p1.toUInt32.toUInt16.toUInt32.toInt32))])) rfl (by rw [hml]; rfl) (argsL := [(.int (p1.toUInt32.toUInt16.toUInt32.toInt32))]) (rest := []) (lenOf own_pd1 rfl) rfl (by show 2 * 0 + _ ≤ _; exact Nat.le_of_eq rfl) (hb hby at_52) (fun _ _ => ⟨rfl, e0, (by decide : 0 + 0 ≤ _), (by decide : 0 + 0 ≤ _)⟩)
          dsimp only [Pt.U, Pt.locs, Pt.cells, Pt.slots] at X80 l80 y80 z80 st80 hQ80
          subst l80 y80 z80
          obtain ⟨hv80, N80q, e80⟩ := hQ80
          have N80 := Fr.app N0 N80q
          by_cases hc81 : (p1.toUInt32.toUInt16.toUInt32.toInt32) = (68 : Int32)
          · --
            obtain rfl : vr80 = some (.ref (u 0)) := hv80.trans (by unfold own_r1; rw [if_pos hc81])
            have pre82 : ∀ t, Steps p.tables e below (T80.setTop (mkF m 58 #[.val (.int p0), .val (.int p1), .val (.int (p0 &&& (7 : Int32))), .val (.int (p1.toUInt32.toUInt16.toUInt32.toInt32)), .val (.ref (u 0)), .unset] [(.int (p1.toUInt32.toUInt16.toUInt32.toInt32))])) t → Steps p.tables e below (s₁.setTop (entryFrame m #[(.int p0), (.int p1)] maxLocals)) t := fun t kt => pre79 t (by
              show Steps p.tables e below (s₁.setTop (mkF m 52 #[.val (.int p0), .val (.int p1), .val (.int (p0 &&& (7 : Int32))), .val (.int (p1.toUInt32.toUInt16.toUInt32.toInt32)), .unset, .unset] [(.int (p1.toUInt32.toUInt16.toUInt32.toInt32))])) _
              refine st80 _ ?_
              show Steps p.tables e below (T80.setTop (mkF m 55 #[.val (.int p0), .val (.int p1), .val (.int (p0 &&& (7 : Int32))), .val (.int (p1.toUInt32.toUInt16.toUInt32.toInt32)), .unset, .unset] [(.ref (u 0))])) _
              refine XS.astore X80.here hx rfl (hb hby at_55) rfl rfl (l' := #[.val (.int p0), .val (.int p1), .val (.int (p0 &&& (7 : Int32))), .val (.int (p1.toUInt32.toUInt16.toUInt32.toInt32)), .val (.ref (u 0)), .unset]) rfl ?_
              show Steps p.tables e below (T80.setTop (mkF m 57 #[.val (.int p0), .val (.int p1), .val (.int (p0 &&& (7 : Int32))), .val (.int (p1.toUInt32.toUInt16.toUInt32.toInt32)), .val (.ref (u 0)), .unset] [])) _
              refine XS.iloadN X80.here hx rfl (hb hby at_57) rfl ?_
              exact kt)
            obtain ⟨vr83, _, ⟨T83, L83, k83, n83⟩, -, X83, ⟨Lc83, hQ83, l83, y83, z83⟩, st83⟩ := Jvm.LawKit.callS X80 hx (y := (⟨"com/example/smazzata/smazzata/card/Suit", "fromCode", "(C)Lcom/example/smazzata/smazzata/card/Suit;"⟩ : MethodName)) hown (mvT hZ (hw _ (List.mem_of_getElem? (i := 7) rfl))) (mvT hZ (hw _ (List.mem_of_getElem? (i := 8) rfl))) (mvT hZ (hw _ (List.mem_of_getElem? (i := 5) rfl))) (mvT hZ (hw _ (List.mem_of_getElem? (i := 9) rfl))) (by decide) (backOf (W := 0) (rm2 l Z a0 hw [] u (p1.toUInt32.toUInt16.toUInt32.toInt32) B h0 n0 O ) hZ (hw _ (List.mem_of_getElem? (i := 9) rfl)) (hw _ (List.mem_of_getElem? (i := 5) rfl)) (by decide) (by decide)) (g := (mkF m 58 #[.val (.int p0), .val (.int p1), .val (.int (p0 &&& (7 : Int32))), .val (.int (p1.toUInt32.toUInt16.toUInt32.toInt32)), .val (.ref (u 0)), .unset] [(.int (p1.toUInt32.toUInt16.toUInt32.toInt32))])) rfl (by rw [hml]; rfl) (argsL := [(.int (p1.toUInt32.toUInt16.toUInt32.toInt32))]) (rest := []) (lenOf own_pd1 rfl) rfl (by show 2 * 0 + _ ≤ _; exact Nat.le_of_eq rfl) (hb hby at_58) (fun _ _ => ⟨rfl, e80, (by decide : 0 + 1 ≤ _), (by decide : 0 + 4 ≤ _)⟩)
            dsimp only [Pt.U, Pt.locs, Pt.cells, Pt.slots] at X83 l83 y83 z83 st83 hQ83
            subst l83 y83 z83
            obtain ⟨hv83, N83q, E83⟩ := hQ83
            have N83 := Fr.app N80 N83q
            have O83 := O.ext E83
            have K83 := K0.ext E83
            obtain rfl : vr83 = some (.ref (u 0)) := hv83.trans (by unfold own_r2; rw [if_pos (Eq.symm hc81)])
            obtain ⟨cq84, kq84, q84a, q84b, q84c⟩ := isOf hZ rfl (B.2.1.ext O83.2)
            obtain ⟨vr84, _, ⟨T84, L84, k84, n84⟩, -, X84, ⟨Lc84, hQ84, l84, y84, z84⟩, st84⟩ := X83.virtualBack hx (y := (⟨"com/example/smazzata/smazzata/card/Suit", "code", "()C"⟩ : MethodName)) (z := (⟨"com/example/smazzata/smazzata/card/Suit", "code", "()C"⟩ : MethodName)) hown (mvT hZ (hw _ (List.mem_of_getElem? (i := 30) rfl))) (mvT hZ (hw _ (List.mem_of_getElem? (i := 31) rfl))) (notFace_of_selects (args := #[]) (mvT hZ (hw _ (List.mem_of_getElem? (i := 33) rfl)))) (mvT hZ (hw _ (List.mem_of_getElem? (i := 33) rfl))) (mvT hZ (hw _ (List.mem_of_getElem? (i := 32) rfl))) (by decide) (backOf (W := 0) (rm4 l Z a0 hw [] u (u 0) (68 : Int32) B T83.heap n0 O83 (B.2.2.2.2.2.2.2.2.2.2.1.ext O83.2)) hZ (hw _ (List.mem_of_getElem? (i := 34) rfl)) (hw _ (List.mem_of_getElem? (i := 5) rfl)) (by decide) (by decide)) q84a q84c (g := (mkF m 79 #[.val (.int p0), .val (.int p1), .val (.int (p0 &&& (7 : Int32))), .val (.int (p1.toUInt32.toUInt16.toUInt32.toInt32)), .val (.ref (u 0)), .val (.ref (u 0))] [(.ref (u 0))])) rfl (by rw [hml]; rfl) (Steps.refl _) (argsL := []) (rest := []) (lenOf own_pd2 rfl) rfl (by show 2 * 0 + _ ≤ _; exact Nat.le_of_eq rfl) (hb hby at_79) (fun _ _ => ⟨rfl, rfl, (by decide : 1 + 0 ≤ _), (by decide : 4 + 0 ≤ _)⟩)
            dsimp only [Pt.U, Pt.locs, Pt.cells, Pt.slots] at X84 l84 y84 z84 st84 hQ84
            subst l84 y84 z84
            obtain ⟨rfl, N84q, e84⟩ := hQ84
            have N84 := Fr.app N83 N84q
            obtain ⟨fs, hr, hrun, hended, hW, hsame⟩ := X84.leave (v := some (.int (1 : Int32))) (fun h => by rw [Bd.returns] at h; cases h)
            refine ⟨_, _, pre82 _ ?_, hrun, hended, _, _, rfl, ?_, ⟨_, rfl⟩, hW, hsame.mono (by decide) (by decide)⟩
            · show Steps p.tables e below (T80.setTop (mkF m 58 #[.val (.int p0), .val (.int p1), .val (.int (p0 &&& (7 : Int32))), .val (.int (p1.toUInt32.toUInt16.toUInt32.toInt32)), .val (.ref (u 0)), .unset] [(.int (p1.toUInt32.toUInt16.toUInt32.toInt32))])) _
              refine st83 _ ?_
              show Steps p.tables e below (T83.setTop (mkF m 61 #[.val (.int p0), .val (.int p1), .val (.int (p0 &&& (7 : Int32))), .val (.int (p1.toUInt32.toUInt16.toUInt32.toInt32)), .val (.ref (u 0)), .unset] [(.ref (u 0))])) _
              refine XS.astore X83.here hx rfl (hb hby at_61) rfl rfl (l' := #[.val (.int p0), .val (.int p1), .val (.int (p0 &&& (7 : Int32))), .val (.int (p1.toUInt32.toUInt16.toUInt32.toInt32)), .val (.ref (u 0)), .val (.ref (u 0))]) rfl ?_
              show Steps p.tables e below (T83.setTop (mkF m 63 #[.val (.int p0), .val (.int p1), .val (.int (p0 &&& (7 : Int32))), .val (.int (p1.toUInt32.toUInt16.toUInt32.toInt32)), .val (.ref (u 0)), .val (.ref (u 0))] [])) _
              refine XS.aload X83.here hx rfl (hb hby at_63) rfl rfl ?_
              show Steps p.tables e below (T83.setTop (mkF m 65 #[.val (.int p0), .val (.int p1), .val (.int (p0 &&& (7 : Int32))), .val (.int (p1.toUInt32.toUInt16.toUInt32.toInt32)), .val (.ref (u 0)), .val (.ref (u 0))] [(.ref (u 0))])) _
              refine XS.aload X83.here hx rfl (hb hby at_65) rfl rfl ?_
              show Steps p.tables e below (T83.setTop (mkF m 67 #[.val (.int p0), .val (.int p1), .val (.int (p0 &&& (7 : Int32))), .val (.int (p1.toUInt32.toUInt16.toUInt32.toInt32)), .val (.ref (u 0)), .val (.ref (u 0))] [(.ref (u 0)), (.ref (u 0))])) _
              refine Jvm.RoadKit.acmp (g := (mkF m 67 #[.val (.int p0), .val (.int p1), .val (.int (p0 &&& (7 : Int32))), .val (.int (p1.toUInt32.toUInt16.toUInt32.toInt32)), .val (.ref (u 0)), .val (.ref (u 0))] [(.ref (u 0)), (.ref (u 0))])) X83 hx rfl rfl rfl (pc0 := 67) (pc' := 72) (same := true) rfl (hb hby at_67) rfl (decide_eq_true rfl) (by decide) (by decide) ?_
              show Steps p.tables e below (T83.setTop (mkF m 72 #[.val (.int p0), .val (.int p1), .val (.int (p0 &&& (7 : Int32))), .val (.int (p1.toUInt32.toUInt16.toUInt32.toInt32)), .val (.ref (u 0)), .val (.ref (u 0))] [])) _
              refine XS.aload X83.here hx rfl (hb hby at_72) rfl rfl ?_
              show Steps p.tables e below (T83.setTop (mkF m 74 #[.val (.int p0), .val (.int p1), .val (.int (p0 &&& (7 : Int32))), .val (.int (p1.toUInt32.toUInt16.toUInt32.toInt32)), .val (.ref (u 0)), .val (.ref (u 0))] [(.ref (u 0))])) _
              refine XS.ifnullNo X83.here hx rfl (hb hby at_74) rfl ?_
              show Steps p.tables e below (T83.setTop (mkF m 77 #[.val (.int p0), .val (.int p1), .val (.int (p0 &&& (7 : Int32))), .val (.int (p1.toUInt32.toUInt16.toUInt32.toInt32)), .val (.ref (u 0)), .val (.ref (u 0))] [])) _
              refine XS.aload X83.here hx rfl (hb hby at_77) rfl rfl ?_
              show Steps p.tables e below (T83.setTop (mkF m 79 #[.val (.int p0), .val (.int p1), .val (.int (p0 &&& (7 : Int32))), .val (.int (p1.toUInt32.toUInt16.toUInt32.toInt32)), .val (.ref (u 0)), .val (.ref (u 0))] [(.ref (u 0))])) _
              refine st84.trans ?_
              show Steps p.tables e below (T84.setTop (mkF m 82 #[.val (.int p0), .val (.int p1), .val (.int (p0 &&& (7 : Int32))), .val (.int (p1.toUInt32.toUInt16.toUInt32.toInt32)), .val (.ref (u 0)), .val (.ref (u 0))] [(.int (68 : Int32))])) _
              refine XS.iloadN X84.here hx rfl (hb hby at_82) rfl ?_
              show Steps p.tables e below (T84.setTop (mkF m 83 #[.val (.int p0), .val (.int p1), .val (.int (p0 &&& (7 : Int32))), .val (.int (p1.toUInt32.toUInt16.toUInt32.toInt32)), .val (.ref (u 0)), .val (.ref (u 0))] [(.int (p1.toUInt32.toUInt16.toUInt32.toInt32)), (.int (68 : Int32))])) _
              refine XS.icmpYes X84.here hx rfl (pc0 := 83) (pc' := 88) rfl (hb hby at_83) rfl (teq (Eq.symm hc81)).1 (by decide) (by decide) ?_
              show Steps p.tables e below (T84.setTop (mkF m 88 #[.val (.int p0), .val (.int p1), .val (.int (p0 &&& (7 : Int32))), .val (.int (p1.toUInt32.toUInt16.toUInt32.toInt32)), .val (.ref (u 0)), .val (.ref (u 0))] [])) _
              refine XS.iconst X84.here hx rfl (hb hby at_88) ?_
              show Steps p.tables e below (T84.setTop (mkF m 89 #[.val (.int p0), .val (.int p1), .val (.int (p0 &&& (7 : Int32))), .val (.int (p1.toUInt32.toUInt16.toUInt32.toInt32)), .val (.ref (u 0)), .val (.ref (u 0))] [(.int (1 : Int32))])) _
              exact retN X84 hx (t := .boolean) Bd.returns (by simp) (hb hby at_89) hr
            · show own_Q0 Z u p0 p1 h0 n0 _ T84.heap _
              rw [e84]
              exact ⟨rfl, N84, trivial⟩
          · --
            by_cases hc86 : (p1.toUInt32.toUInt16.toUInt32.toInt32) = (67 : Int32)
            · --
              obtain rfl : vr80 = some (.ref (u 2)) := hv80.trans (by unfold own_r1; rw [if_neg hc81, if_pos hc86])
              have pre87 : ∀ t, Steps p.tables e below (T80.setTop (mkF m 58 #[.val (.int p0), .val (.int p1), .val (.int (p0 &&& (7 : Int32))), .val (.int (p1.toUInt32.toUInt16.toUInt32.toInt32)), .val (.ref (u 2)), .unset] [(.int (p1.toUInt32.toUInt16.toUInt32.toInt32))])) t → Steps p.tables e below (s₁.setTop (entryFrame m #[(.int p0), (.int p1)] maxLocals)) t := fun t kt => pre79 t (by
                show Steps p.tables e below (s₁.setTop (mkF m 52 #[.val (.int p0), .val (.int p1), .val (.int (p0 &&& (7 : Int32))), .val (.int (p1.toUInt32.toUInt16.toUInt32.toInt32)), .unset, .unset] [(.int (p1.toUInt32.toUInt16.toUInt32.toInt32))])) _
                refine st80 _ ?_
                show Steps p.tables e below (T80.setTop (mkF m 55 #[.val (.int p0), .val (.int p1), .val (.int (p0 &&& (7 : Int32))), .val (.int (p1.toUInt32.toUInt16.toUInt32.toInt32)), .unset, .unset] [(.ref (u 2))])) _
                refine XS.astore X80.here hx rfl (hb hby at_55) rfl rfl (l' := #[.val (.int p0), .val (.int p1), .val (.int (p0 &&& (7 : Int32))), .val (.int (p1.toUInt32.toUInt16.toUInt32.toInt32)), .val (.ref (u 2)), .unset]) rfl ?_
                show Steps p.tables e below (T80.setTop (mkF m 57 #[.val (.int p0), .val (.int p1), .val (.int (p0 &&& (7 : Int32))), .val (.int (p1.toUInt32.toUInt16.toUInt32.toInt32)), .val (.ref (u 2)), .unset] [])) _
                refine XS.iloadN X80.here hx rfl (hb hby at_57) rfl ?_
                exact kt)
              obtain ⟨vr88, _, ⟨T88, L88, k88, n88⟩, -, X88, ⟨Lc88, hQ88, l88, y88, z88⟩, st88⟩ := Jvm.LawKit.callS X80 hx (y := (⟨"com/example/smazzata/smazzata/card/Suit", "fromCode", "(C)Lcom/example/smazzata/smazzata/card/Suit;"⟩ : MethodName)) hown (mvT hZ (hw _ (List.mem_of_getElem? (i := 7) rfl))) (mvT hZ (hw _ (List.mem_of_getElem? (i := 8) rfl))) (mvT hZ (hw _ (List.mem_of_getElem? (i := 5) rfl))) (mvT hZ (hw _ (List.mem_of_getElem? (i := 9) rfl))) (by decide) (backOf (W := 0) (rm2 l Z a0 hw [] u (p1.toUInt32.toUInt16.toUInt32.toInt32) B h0 n0 O ) hZ (hw _ (List.mem_of_getElem? (i := 9) rfl)) (hw _ (List.mem_of_getElem? (i := 5) rfl)) (by decide) (by decide)) (g := (mkF m 58 #[.val (.int p0), .val (.int p1), .val (.int (p0 &&& (7 : Int32))), .val (.int (p1.toUInt32.toUInt16.toUInt32.toInt32)), .val (.ref (u 2)), .unset] [(.int (p1.toUInt32.toUInt16.toUInt32.toInt32))])) rfl (by rw [hml]; rfl) (argsL := [(.int (p1.toUInt32.toUInt16.toUInt32.toInt32))]) (rest := []) (lenOf own_pd1 rfl) rfl (by show 2 * 0 + _ ≤ _; exact Nat.le_of_eq rfl) (hb hby at_58) (fun _ _ => ⟨rfl, e80, (by decide : 0 + 1 ≤ _), (by decide : 0 + 4 ≤ _)⟩)
              dsimp only [Pt.U, Pt.locs, Pt.cells, Pt.slots] at X88 l88 y88 z88 st88 hQ88
              subst l88 y88 z88
              obtain ⟨hv88, N88q, E88⟩ := hQ88
              have N88 := Fr.app N80 N88q
              have O88 := O.ext E88
              have K88 := K0.ext E88
              obtain rfl : vr88 = some (.ref (u 2)) := hv88.trans (by unfold own_r2; rw [if_neg (fun q => hc81 (Eq.symm q)), if_pos (Eq.symm hc86)])
              obtain ⟨cq89, kq89, q89a, q89b, q89c⟩ := isOf hZ rfl (B.2.2.2.2.2.1.ext O88.2)
              obtain ⟨vr89, _, ⟨T89, L89, k89, n89⟩, -, X89, ⟨Lc89, hQ89, l89, y89, z89⟩, st89⟩ := X88.virtualBack hx (y := (⟨"com/example/smazzata/smazzata/card/Suit", "code", "()C"⟩ : MethodName)) (z := (⟨"com/example/smazzata/smazzata/card/Suit", "code", "()C"⟩ : MethodName)) hown (mvT hZ (hw _ (List.mem_of_getElem? (i := 30) rfl))) (mvT hZ (hw _ (List.mem_of_getElem? (i := 31) rfl))) (notFace_of_selects (args := #[]) (mvT hZ (hw _ (List.mem_of_getElem? (i := 33) rfl)))) (mvT hZ (hw _ (List.mem_of_getElem? (i := 33) rfl))) (mvT hZ (hw _ (List.mem_of_getElem? (i := 32) rfl))) (by decide) (backOf (W := 0) (rm4 l Z a0 hw [] u (u 2) (67 : Int32) B T88.heap n0 O88 (B.2.2.2.2.2.2.2.2.2.2.2.2.1.ext O88.2)) hZ (hw _ (List.mem_of_getElem? (i := 34) rfl)) (hw _ (List.mem_of_getElem? (i := 5) rfl)) (by decide) (by decide)) q89a q89c (g := (mkF m 79 #[.val (.int p0), .val (.int p1), .val (.int (p0 &&& (7 : Int32))), .val (.int (p1.toUInt32.toUInt16.toUInt32.toInt32)), .val (.ref (u 2)), .val (.ref (u 2))] [(.ref (u 2))])) rfl (by rw [hml]; rfl) (Steps.refl _) (argsL := []) (rest := []) (lenOf own_pd2 rfl) rfl (by show 2 * 0 + _ ≤ _; exact Nat.le_of_eq rfl) (hb hby at_79) (fun _ _ => ⟨rfl, rfl, (by decide : 1 + 0 ≤ _), (by decide : 4 + 0 ≤ _)⟩)
              dsimp only [Pt.U, Pt.locs, Pt.cells, Pt.slots] at X89 l89 y89 z89 st89 hQ89
              subst l89 y89 z89
              obtain ⟨rfl, N89q, e89⟩ := hQ89
              have N89 := Fr.app N88 N89q
              obtain ⟨fs, hr, hrun, hended, hW, hsame⟩ := X89.leave (v := some (.int (1 : Int32))) (fun h => by rw [Bd.returns] at h; cases h)
              refine ⟨_, _, pre87 _ ?_, hrun, hended, _, _, rfl, ?_, ⟨_, rfl⟩, hW, hsame.mono (by decide) (by decide)⟩
              · show Steps p.tables e below (T80.setTop (mkF m 58 #[.val (.int p0), .val (.int p1), .val (.int (p0 &&& (7 : Int32))), .val (.int (p1.toUInt32.toUInt16.toUInt32.toInt32)), .val (.ref (u 2)), .unset] [(.int (p1.toUInt32.toUInt16.toUInt32.toInt32))])) _
                refine st88 _ ?_
                show Steps p.tables e below (T88.setTop (mkF m 61 #[.val (.int p0), .val (.int p1), .val (.int (p0 &&& (7 : Int32))), .val (.int (p1.toUInt32.toUInt16.toUInt32.toInt32)), .val (.ref (u 2)), .unset] [(.ref (u 2))])) _
                refine XS.astore X88.here hx rfl (hb hby at_61) rfl rfl (l' := #[.val (.int p0), .val (.int p1), .val (.int (p0 &&& (7 : Int32))), .val (.int (p1.toUInt32.toUInt16.toUInt32.toInt32)), .val (.ref (u 2)), .val (.ref (u 2))]) rfl ?_
                show Steps p.tables e below (T88.setTop (mkF m 63 #[.val (.int p0), .val (.int p1), .val (.int (p0 &&& (7 : Int32))), .val (.int (p1.toUInt32.toUInt16.toUInt32.toInt32)), .val (.ref (u 2)), .val (.ref (u 2))] [])) _
                refine XS.aload X88.here hx rfl (hb hby at_63) rfl rfl ?_
                show Steps p.tables e below (T88.setTop (mkF m 65 #[.val (.int p0), .val (.int p1), .val (.int (p0 &&& (7 : Int32))), .val (.int (p1.toUInt32.toUInt16.toUInt32.toInt32)), .val (.ref (u 2)), .val (.ref (u 2))] [(.ref (u 2))])) _
                refine XS.aload X88.here hx rfl (hb hby at_65) rfl rfl ?_
                show Steps p.tables e below (T88.setTop (mkF m 67 #[.val (.int p0), .val (.int p1), .val (.int (p0 &&& (7 : Int32))), .val (.int (p1.toUInt32.toUInt16.toUInt32.toInt32)), .val (.ref (u 2)), .val (.ref (u 2))] [(.ref (u 2)), (.ref (u 2))])) _
                refine Jvm.RoadKit.acmp (g := (mkF m 67 #[.val (.int p0), .val (.int p1), .val (.int (p0 &&& (7 : Int32))), .val (.int (p1.toUInt32.toUInt16.toUInt32.toInt32)), .val (.ref (u 2)), .val (.ref (u 2))] [(.ref (u 2)), (.ref (u 2))])) X88 hx rfl rfl rfl (pc0 := 67) (pc' := 72) (same := true) rfl (hb hby at_67) rfl (decide_eq_true rfl) (by decide) (by decide) ?_
                show Steps p.tables e below (T88.setTop (mkF m 72 #[.val (.int p0), .val (.int p1), .val (.int (p0 &&& (7 : Int32))), .val (.int (p1.toUInt32.toUInt16.toUInt32.toInt32)), .val (.ref (u 2)), .val (.ref (u 2))] [])) _
                refine XS.aload X88.here hx rfl (hb hby at_72) rfl rfl ?_
                show Steps p.tables e below (T88.setTop (mkF m 74 #[.val (.int p0), .val (.int p1), .val (.int (p0 &&& (7 : Int32))), .val (.int (p1.toUInt32.toUInt16.toUInt32.toInt32)), .val (.ref (u 2)), .val (.ref (u 2))] [(.ref (u 2))])) _
                refine XS.ifnullNo X88.here hx rfl (hb hby at_74) rfl ?_
                show Steps p.tables e below (T88.setTop (mkF m 77 #[.val (.int p0), .val (.int p1), .val (.int (p0 &&& (7 : Int32))), .val (.int (p1.toUInt32.toUInt16.toUInt32.toInt32)), .val (.ref (u 2)), .val (.ref (u 2))] [])) _
                refine XS.aload X88.here hx rfl (hb hby at_77) rfl rfl ?_
                show Steps p.tables e below (T88.setTop (mkF m 79 #[.val (.int p0), .val (.int p1), .val (.int (p0 &&& (7 : Int32))), .val (.int (p1.toUInt32.toUInt16.toUInt32.toInt32)), .val (.ref (u 2)), .val (.ref (u 2))] [(.ref (u 2))])) _
                refine st89.trans ?_
                show Steps p.tables e below (T89.setTop (mkF m 82 #[.val (.int p0), .val (.int p1), .val (.int (p0 &&& (7 : Int32))), .val (.int (p1.toUInt32.toUInt16.toUInt32.toInt32)), .val (.ref (u 2)), .val (.ref (u 2))] [(.int (67 : Int32))])) _
                refine XS.iloadN X89.here hx rfl (hb hby at_82) rfl ?_
                show Steps p.tables e below (T89.setTop (mkF m 83 #[.val (.int p0), .val (.int p1), .val (.int (p0 &&& (7 : Int32))), .val (.int (p1.toUInt32.toUInt16.toUInt32.toInt32)), .val (.ref (u 2)), .val (.ref (u 2))] [(.int (p1.toUInt32.toUInt16.toUInt32.toInt32)), (.int (67 : Int32))])) _
                refine XS.icmpYes X89.here hx rfl (pc0 := 83) (pc' := 88) rfl (hb hby at_83) rfl (teq (Eq.symm hc86)).1 (by decide) (by decide) ?_
                show Steps p.tables e below (T89.setTop (mkF m 88 #[.val (.int p0), .val (.int p1), .val (.int (p0 &&& (7 : Int32))), .val (.int (p1.toUInt32.toUInt16.toUInt32.toInt32)), .val (.ref (u 2)), .val (.ref (u 2))] [])) _
                refine XS.iconst X89.here hx rfl (hb hby at_88) ?_
                show Steps p.tables e below (T89.setTop (mkF m 89 #[.val (.int p0), .val (.int p1), .val (.int (p0 &&& (7 : Int32))), .val (.int (p1.toUInt32.toUInt16.toUInt32.toInt32)), .val (.ref (u 2)), .val (.ref (u 2))] [(.int (1 : Int32))])) _
                exact retN X89 hx (t := .boolean) Bd.returns (by simp) (hb hby at_89) hr
              · show own_Q0 Z u p0 p1 h0 n0 _ T89.heap _
                rw [e89]
                exact ⟨rfl, N89, trivial⟩
            · --
              by_cases hc91 : (p1.toUInt32.toUInt16.toUInt32.toInt32) = (66 : Int32)
              · --
                obtain rfl : vr80 = some (.ref (u 3)) := hv80.trans (by unfold own_r1; rw [if_neg hc81, if_neg hc86, if_pos hc91])
                have pre92 : ∀ t, Steps p.tables e below (T80.setTop (mkF m 58 #[.val (.int p0), .val (.int p1), .val (.int (p0 &&& (7 : Int32))), .val (.int (p1.toUInt32.toUInt16.toUInt32.toInt32)), .val (.ref (u 3)), .unset] [(.int (p1.toUInt32.toUInt16.toUInt32.toInt32))])) t → Steps p.tables e below (s₁.setTop (entryFrame m #[(.int p0), (.int p1)] maxLocals)) t := fun t kt => pre79 t (by
                  show Steps p.tables e below (s₁.setTop (mkF m 52 #[.val (.int p0), .val (.int p1), .val (.int (p0 &&& (7 : Int32))), .val (.int (p1.toUInt32.toUInt16.toUInt32.toInt32)), .unset, .unset] [(.int (p1.toUInt32.toUInt16.toUInt32.toInt32))])) _
                  refine st80 _ ?_
                  show Steps p.tables e below (T80.setTop (mkF m 55 #[.val (.int p0), .val (.int p1), .val (.int (p0 &&& (7 : Int32))), .val (.int (p1.toUInt32.toUInt16.toUInt32.toInt32)), .unset, .unset] [(.ref (u 3))])) _
                  refine XS.astore X80.here hx rfl (hb hby at_55) rfl rfl (l' := #[.val (.int p0), .val (.int p1), .val (.int (p0 &&& (7 : Int32))), .val (.int (p1.toUInt32.toUInt16.toUInt32.toInt32)), .val (.ref (u 3)), .unset]) rfl ?_
                  show Steps p.tables e below (T80.setTop (mkF m 57 #[.val (.int p0), .val (.int p1), .val (.int (p0 &&& (7 : Int32))), .val (.int (p1.toUInt32.toUInt16.toUInt32.toInt32)), .val (.ref (u 3)), .unset] [])) _
                  refine XS.iloadN X80.here hx rfl (hb hby at_57) rfl ?_
                  exact kt)
                obtain ⟨vr93, _, ⟨T93, L93, k93, n93⟩, -, X93, ⟨Lc93, hQ93, l93, y93, z93⟩, st93⟩ := Jvm.LawKit.callS X80 hx (y := (⟨"com/example/smazzata/smazzata/card/Suit", "fromCode", "(C)Lcom/example/smazzata/smazzata/card/Suit;"⟩ : MethodName)) hown (mvT hZ (hw _ (List.mem_of_getElem? (i := 7) rfl))) (mvT hZ (hw _ (List.mem_of_getElem? (i := 8) rfl))) (mvT hZ (hw _ (List.mem_of_getElem? (i := 5) rfl))) (mvT hZ (hw _ (List.mem_of_getElem? (i := 9) rfl))) (by decide) (backOf (W := 0) (rm2 l Z a0 hw [] u (p1.toUInt32.toUInt16.toUInt32.toInt32) B h0 n0 O ) hZ (hw _ (List.mem_of_getElem? (i := 9) rfl)) (hw _ (List.mem_of_getElem? (i := 5) rfl)) (by decide) (by decide)) (g := (mkF m 58 #[.val (.int p0), .val (.int p1), .val (.int (p0 &&& (7 : Int32))), .val (.int (p1.toUInt32.toUInt16.toUInt32.toInt32)), .val (.ref (u 3)), .unset] [(.int (p1.toUInt32.toUInt16.toUInt32.toInt32))])) rfl (by rw [hml]; rfl) (argsL := [(.int (p1.toUInt32.toUInt16.toUInt32.toInt32))]) (rest := []) (lenOf own_pd1 rfl) rfl (by show 2 * 0 + _ ≤ _; exact Nat.le_of_eq rfl) (hb hby at_58) (fun _ _ => ⟨rfl, e80, (by decide : 0 + 1 ≤ _), (by decide : 0 + 4 ≤ _)⟩)
                dsimp only [Pt.U, Pt.locs, Pt.cells, Pt.slots] at X93 l93 y93 z93 st93 hQ93
                subst l93 y93 z93
                obtain ⟨hv93, N93q, E93⟩ := hQ93
                have N93 := Fr.app N80 N93q
                have O93 := O.ext E93
                have K93 := K0.ext E93
                obtain rfl : vr93 = some (.ref (u 3)) := hv93.trans (by unfold own_r2; rw [if_neg (fun q => hc81 (Eq.symm q)), if_neg (fun q => hc86 (Eq.symm q)), if_pos (Eq.symm hc91)])
                obtain ⟨cq94, kq94, q94a, q94b, q94c⟩ := isOf hZ rfl (B.2.2.2.2.2.2.2.1.ext O93.2)
                obtain ⟨vr94, _, ⟨T94, L94, k94, n94⟩, -, X94, ⟨Lc94, hQ94, l94, y94, z94⟩, st94⟩ := X93.virtualBack hx (y := (⟨"com/example/smazzata/smazzata/card/Suit", "code", "()C"⟩ : MethodName)) (z := (⟨"com/example/smazzata/smazzata/card/Suit", "code", "()C"⟩ : MethodName)) hown (mvT hZ (hw _ (List.mem_of_getElem? (i := 30) rfl))) (mvT hZ (hw _ (List.mem_of_getElem? (i := 31) rfl))) (notFace_of_selects (args := #[]) (mvT hZ (hw _ (List.mem_of_getElem? (i := 33) rfl)))) (mvT hZ (hw _ (List.mem_of_getElem? (i := 33) rfl))) (mvT hZ (hw _ (List.mem_of_getElem? (i := 32) rfl))) (by decide) (backOf (W := 0) (rm4 l Z a0 hw [] u (u 3) (66 : Int32) B T93.heap n0 O93 (B.2.2.2.2.2.2.2.2.2.2.2.2.2.1.ext O93.2)) hZ (hw _ (List.mem_of_getElem? (i := 34) rfl)) (hw _ (List.mem_of_getElem? (i := 5) rfl)) (by decide) (by decide)) q94a q94c (g := (mkF m 79 #[.val (.int p0), .val (.int p1), .val (.int (p0 &&& (7 : Int32))), .val (.int (p1.toUInt32.toUInt16.toUInt32.toInt32)), .val (.ref (u 3)), .val (.ref (u 3))] [(.ref (u 3))])) rfl (by rw [hml]; rfl) (Steps.refl _) (argsL := []) (rest := []) (lenOf own_pd2 rfl) rfl (by show 2 * 0 + _ ≤ _; exact Nat.le_of_eq rfl) (hb hby at_79) (fun _ _ => ⟨rfl, rfl, (by decide : 1 + 0 ≤ _), (by decide : 4 + 0 ≤ _)⟩)
                dsimp only [Pt.U, Pt.locs, Pt.cells, Pt.slots] at X94 l94 y94 z94 st94 hQ94
                subst l94 y94 z94
                obtain ⟨rfl, N94q, e94⟩ := hQ94
                have N94 := Fr.app N93 N94q
                obtain ⟨fs, hr, hrun, hended, hW, hsame⟩ := X94.leave (v := some (.int (1 : Int32))) (fun h => by rw [Bd.returns] at h; cases h)
                refine ⟨_, _, pre92 _ ?_, hrun, hended, _, _, rfl, ?_, ⟨_, rfl⟩, hW, hsame.mono (by decide) (by decide)⟩
                · show Steps p.tables e below (T80.setTop (mkF m 58 #[.val (.int p0), .val (.int p1), .val (.int (p0 &&& (7 : Int32))), .val (.int (p1.toUInt32.toUInt16.toUInt32.toInt32)), .val (.ref (u 3)), .unset] [(.int (p1.toUInt32.toUInt16.toUInt32.toInt32))])) _
                  refine st93 _ ?_
                  show Steps p.tables e below (T93.setTop (mkF m 61 #[.val (.int p0), .val (.int p1), .val (.int (p0 &&& (7 : Int32))), .val (.int (p1.toUInt32.toUInt16.toUInt32.toInt32)), .val (.ref (u 3)), .unset] [(.ref (u 3))])) _
                  refine XS.astore X93.here hx rfl (hb hby at_61) rfl rfl (l' := #[.val (.int p0), .val (.int p1), .val (.int (p0 &&& (7 : Int32))), .val (.int (p1.toUInt32.toUInt16.toUInt32.toInt32)), .val (.ref (u 3)), .val (.ref (u 3))]) rfl ?_
                  show Steps p.tables e below (T93.setTop (mkF m 63 #[.val (.int p0), .val (.int p1), .val (.int (p0 &&& (7 : Int32))), .val (.int (p1.toUInt32.toUInt16.toUInt32.toInt32)), .val (.ref (u 3)), .val (.ref (u 3))] [])) _
                  refine XS.aload X93.here hx rfl (hb hby at_63) rfl rfl ?_
                  show Steps p.tables e below (T93.setTop (mkF m 65 #[.val (.int p0), .val (.int p1), .val (.int (p0 &&& (7 : Int32))), .val (.int (p1.toUInt32.toUInt16.toUInt32.toInt32)), .val (.ref (u 3)), .val (.ref (u 3))] [(.ref (u 3))])) _
                  refine XS.aload X93.here hx rfl (hb hby at_65) rfl rfl ?_
                  show Steps p.tables e below (T93.setTop (mkF m 67 #[.val (.int p0), .val (.int p1), .val (.int (p0 &&& (7 : Int32))), .val (.int (p1.toUInt32.toUInt16.toUInt32.toInt32)), .val (.ref (u 3)), .val (.ref (u 3))] [(.ref (u 3)), (.ref (u 3))])) _
                  refine Jvm.RoadKit.acmp (g := (mkF m 67 #[.val (.int p0), .val (.int p1), .val (.int (p0 &&& (7 : Int32))), .val (.int (p1.toUInt32.toUInt16.toUInt32.toInt32)), .val (.ref (u 3)), .val (.ref (u 3))] [(.ref (u 3)), (.ref (u 3))])) X93 hx rfl rfl rfl (pc0 := 67) (pc' := 72) (same := true) rfl (hb hby at_67) rfl (decide_eq_true rfl) (by decide) (by decide) ?_
                  show Steps p.tables e below (T93.setTop (mkF m 72 #[.val (.int p0), .val (.int p1), .val (.int (p0 &&& (7 : Int32))), .val (.int (p1.toUInt32.toUInt16.toUInt32.toInt32)), .val (.ref (u 3)), .val (.ref (u 3))] [])) _
                  refine XS.aload X93.here hx rfl (hb hby at_72) rfl rfl ?_
                  show Steps p.tables e below (T93.setTop (mkF m 74 #[.val (.int p0), .val (.int p1), .val (.int (p0 &&& (7 : Int32))), .val (.int (p1.toUInt32.toUInt16.toUInt32.toInt32)), .val (.ref (u 3)), .val (.ref (u 3))] [(.ref (u 3))])) _
                  refine XS.ifnullNo X93.here hx rfl (hb hby at_74) rfl ?_
                  show Steps p.tables e below (T93.setTop (mkF m 77 #[.val (.int p0), .val (.int p1), .val (.int (p0 &&& (7 : Int32))), .val (.int (p1.toUInt32.toUInt16.toUInt32.toInt32)), .val (.ref (u 3)), .val (.ref (u 3))] [])) _
                  refine XS.aload X93.here hx rfl (hb hby at_77) rfl rfl ?_
                  show Steps p.tables e below (T93.setTop (mkF m 79 #[.val (.int p0), .val (.int p1), .val (.int (p0 &&& (7 : Int32))), .val (.int (p1.toUInt32.toUInt16.toUInt32.toInt32)), .val (.ref (u 3)), .val (.ref (u 3))] [(.ref (u 3))])) _
                  refine st94.trans ?_
                  show Steps p.tables e below (T94.setTop (mkF m 82 #[.val (.int p0), .val (.int p1), .val (.int (p0 &&& (7 : Int32))), .val (.int (p1.toUInt32.toUInt16.toUInt32.toInt32)), .val (.ref (u 3)), .val (.ref (u 3))] [(.int (66 : Int32))])) _
                  refine XS.iloadN X94.here hx rfl (hb hby at_82) rfl ?_
                  show Steps p.tables e below (T94.setTop (mkF m 83 #[.val (.int p0), .val (.int p1), .val (.int (p0 &&& (7 : Int32))), .val (.int (p1.toUInt32.toUInt16.toUInt32.toInt32)), .val (.ref (u 3)), .val (.ref (u 3))] [(.int (p1.toUInt32.toUInt16.toUInt32.toInt32)), (.int (66 : Int32))])) _
                  refine XS.icmpYes X94.here hx rfl (pc0 := 83) (pc' := 88) rfl (hb hby at_83) rfl (teq (Eq.symm hc91)).1 (by decide) (by decide) ?_
                  show Steps p.tables e below (T94.setTop (mkF m 88 #[.val (.int p0), .val (.int p1), .val (.int (p0 &&& (7 : Int32))), .val (.int (p1.toUInt32.toUInt16.toUInt32.toInt32)), .val (.ref (u 3)), .val (.ref (u 3))] [])) _
                  refine XS.iconst X94.here hx rfl (hb hby at_88) ?_
                  show Steps p.tables e below (T94.setTop (mkF m 89 #[.val (.int p0), .val (.int p1), .val (.int (p0 &&& (7 : Int32))), .val (.int (p1.toUInt32.toUInt16.toUInt32.toInt32)), .val (.ref (u 3)), .val (.ref (u 3))] [(.int (1 : Int32))])) _
                  exact retN X94 hx (t := .boolean) Bd.returns (by simp) (hb hby at_89) hr
                · show own_Q0 Z u p0 p1 h0 n0 _ T94.heap _
                  rw [e94]
                  exact ⟨rfl, N94, trivial⟩
              · --
                by_cases hc96 : (p1.toUInt32.toUInt16.toUInt32.toInt32) = (83 : Int32)
                · --
                  obtain rfl : vr80 = some (.ref (u 4)) := hv80.trans (by unfold own_r1; rw [if_neg hc81, if_neg hc86, if_neg hc91, if_pos hc96])
                  have pre97 : ∀ t, Steps p.tables e below (T80.setTop (mkF m 58 #[.val (.int p0), .val (.int p1), .val (.int (p0 &&& (7 : Int32))), .val (.int (p1.toUInt32.toUInt16.toUInt32.toInt32)), .val (.ref (u 4)), .unset] [(.int (p1.toUInt32.toUInt16.toUInt32.toInt32))])) t → Steps p.tables e below (s₁.setTop (entryFrame m #[(.int p0), (.int p1)] maxLocals)) t := fun t kt => pre79 t (by
                    show Steps p.tables e below (s₁.setTop (mkF m 52 #[.val (.int p0), .val (.int p1), .val (.int (p0 &&& (7 : Int32))), .val (.int (p1.toUInt32.toUInt16.toUInt32.toInt32)), .unset, .unset] [(.int (p1.toUInt32.toUInt16.toUInt32.toInt32))])) _
                    refine st80 _ ?_
                    show Steps p.tables e below (T80.setTop (mkF m 55 #[.val (.int p0), .val (.int p1), .val (.int (p0 &&& (7 : Int32))), .val (.int (p1.toUInt32.toUInt16.toUInt32.toInt32)), .unset, .unset] [(.ref (u 4))])) _
                    refine XS.astore X80.here hx rfl (hb hby at_55) rfl rfl (l' := #[.val (.int p0), .val (.int p1), .val (.int (p0 &&& (7 : Int32))), .val (.int (p1.toUInt32.toUInt16.toUInt32.toInt32)), .val (.ref (u 4)), .unset]) rfl ?_
                    show Steps p.tables e below (T80.setTop (mkF m 57 #[.val (.int p0), .val (.int p1), .val (.int (p0 &&& (7 : Int32))), .val (.int (p1.toUInt32.toUInt16.toUInt32.toInt32)), .val (.ref (u 4)), .unset] [])) _
                    refine XS.iloadN X80.here hx rfl (hb hby at_57) rfl ?_
                    exact kt)
                  obtain ⟨vr98, _, ⟨T98, L98, k98, n98⟩, -, X98, ⟨Lc98, hQ98, l98, y98, z98⟩, st98⟩ := Jvm.LawKit.callS X80 hx (y := (⟨"com/example/smazzata/smazzata/card/Suit", "fromCode", "(C)Lcom/example/smazzata/smazzata/card/Suit;"⟩ : MethodName)) hown (mvT hZ (hw _ (List.mem_of_getElem? (i := 7) rfl))) (mvT hZ (hw _ (List.mem_of_getElem? (i := 8) rfl))) (mvT hZ (hw _ (List.mem_of_getElem? (i := 5) rfl))) (mvT hZ (hw _ (List.mem_of_getElem? (i := 9) rfl))) (by decide) (backOf (W := 0) (rm2 l Z a0 hw [] u (p1.toUInt32.toUInt16.toUInt32.toInt32) B h0 n0 O ) hZ (hw _ (List.mem_of_getElem? (i := 9) rfl)) (hw _ (List.mem_of_getElem? (i := 5) rfl)) (by decide) (by decide)) (g := (mkF m 58 #[.val (.int p0), .val (.int p1), .val (.int (p0 &&& (7 : Int32))), .val (.int (p1.toUInt32.toUInt16.toUInt32.toInt32)), .val (.ref (u 4)), .unset] [(.int (p1.toUInt32.toUInt16.toUInt32.toInt32))])) rfl (by rw [hml]; rfl) (argsL := [(.int (p1.toUInt32.toUInt16.toUInt32.toInt32))]) (rest := []) (lenOf own_pd1 rfl) rfl (by show 2 * 0 + _ ≤ _; exact Nat.le_of_eq rfl) (hb hby at_58) (fun _ _ => ⟨rfl, e80, (by decide : 0 + 1 ≤ _), (by decide : 0 + 4 ≤ _)⟩)
                  dsimp only [Pt.U, Pt.locs, Pt.cells, Pt.slots] at X98 l98 y98 z98 st98 hQ98
                  subst l98 y98 z98
                  obtain ⟨hv98, N98q, E98⟩ := hQ98
                  have N98 := Fr.app N80 N98q
                  have O98 := O.ext E98
                  have K98 := K0.ext E98
                  obtain rfl : vr98 = some (.ref (u 4)) := hv98.trans (by unfold own_r2; rw [if_neg (fun q => hc81 (Eq.symm q)), if_neg (fun q => hc86 (Eq.symm q)), if_neg (fun q => hc91 (Eq.symm q)), if_pos (Eq.symm hc96)])
                  obtain ⟨cq99, kq99, q99a, q99b, q99c⟩ := isOf hZ rfl (B.2.2.2.2.2.2.2.2.2.1.ext O98.2)
                  obtain ⟨vr99, _, ⟨T99, L99, k99, n99⟩, -, X99, ⟨Lc99, hQ99, l99, y99, z99⟩, st99⟩ := X98.virtualBack hx (y := (⟨"com/example/smazzata/smazzata/card/Suit", "code", "()C"⟩ : MethodName)) (z := (⟨"com/example/smazzata/smazzata/card/Suit", "code", "()C"⟩ : MethodName)) hown (mvT hZ (hw _ (List.mem_of_getElem? (i := 30) rfl))) (mvT hZ (hw _ (List.mem_of_getElem? (i := 31) rfl))) (notFace_of_selects (args := #[]) (mvT hZ (hw _ (List.mem_of_getElem? (i := 33) rfl)))) (mvT hZ (hw _ (List.mem_of_getElem? (i := 33) rfl))) (mvT hZ (hw _ (List.mem_of_getElem? (i := 32) rfl))) (by decide) (backOf (W := 0) (rm4 l Z a0 hw [] u (u 4) (83 : Int32) B T98.heap n0 O98 (B.2.2.2.2.2.2.2.2.2.2.2.2.2.2.ext O98.2)) hZ (hw _ (List.mem_of_getElem? (i := 34) rfl)) (hw _ (List.mem_of_getElem? (i := 5) rfl)) (by decide) (by decide)) q99a q99c (g := (mkF m 79 #[.val (.int p0), .val (.int p1), .val (.int (p0 &&& (7 : Int32))), .val (.int (p1.toUInt32.toUInt16.toUInt32.toInt32)), .val (.ref (u 4)), .val (.ref (u 4))] [(.ref (u 4))])) rfl (by rw [hml]; rfl) (Steps.refl _) (argsL := []) (rest := []) (lenOf own_pd2 rfl) rfl (by show 2 * 0 + _ ≤ _; exact Nat.le_of_eq rfl) (hb hby at_79) (fun _ _ => ⟨rfl, rfl, (by decide : 1 + 0 ≤ _), (by decide : 4 + 0 ≤ _)⟩)
                  dsimp only [Pt.U, Pt.locs, Pt.cells, Pt.slots] at X99 l99 y99 z99 st99 hQ99
                  subst l99 y99 z99
                  obtain ⟨rfl, N99q, e99⟩ := hQ99
                  have N99 := Fr.app N98 N99q
                  obtain ⟨fs, hr, hrun, hended, hW, hsame⟩ := X99.leave (v := some (.int (1 : Int32))) (fun h => by rw [Bd.returns] at h; cases h)
                  refine ⟨_, _, pre97 _ ?_, hrun, hended, _, _, rfl, ?_, ⟨_, rfl⟩, hW, hsame.mono (by decide) (by decide)⟩
                  · show Steps p.tables e below (T80.setTop (mkF m 58 #[.val (.int p0), .val (.int p1), .val (.int (p0 &&& (7 : Int32))), .val (.int (p1.toUInt32.toUInt16.toUInt32.toInt32)), .val (.ref (u 4)), .unset] [(.int (p1.toUInt32.toUInt16.toUInt32.toInt32))])) _
                    refine st98 _ ?_
                    show Steps p.tables e below (T98.setTop (mkF m 61 #[.val (.int p0), .val (.int p1), .val (.int (p0 &&& (7 : Int32))), .val (.int (p1.toUInt32.toUInt16.toUInt32.toInt32)), .val (.ref (u 4)), .unset] [(.ref (u 4))])) _
                    refine XS.astore X98.here hx rfl (hb hby at_61) rfl rfl (l' := #[.val (.int p0), .val (.int p1), .val (.int (p0 &&& (7 : Int32))), .val (.int (p1.toUInt32.toUInt16.toUInt32.toInt32)), .val (.ref (u 4)), .val (.ref (u 4))]) rfl ?_
                    show Steps p.tables e below (T98.setTop (mkF m 63 #[.val (.int p0), .val (.int p1), .val (.int (p0 &&& (7 : Int32))), .val (.int (p1.toUInt32.toUInt16.toUInt32.toInt32)), .val (.ref (u 4)), .val (.ref (u 4))] [])) _
                    refine XS.aload X98.here hx rfl (hb hby at_63) rfl rfl ?_
                    show Steps p.tables e below (T98.setTop (mkF m 65 #[.val (.int p0), .val (.int p1), .val (.int (p0 &&& (7 : Int32))), .val (.int (p1.toUInt32.toUInt16.toUInt32.toInt32)), .val (.ref (u 4)), .val (.ref (u 4))] [(.ref (u 4))])) _
                    refine XS.aload X98.here hx rfl (hb hby at_65) rfl rfl ?_
                    show Steps p.tables e below (T98.setTop (mkF m 67 #[.val (.int p0), .val (.int p1), .val (.int (p0 &&& (7 : Int32))), .val (.int (p1.toUInt32.toUInt16.toUInt32.toInt32)), .val (.ref (u 4)), .val (.ref (u 4))] [(.ref (u 4)), (.ref (u 4))])) _
                    refine Jvm.RoadKit.acmp (g := (mkF m 67 #[.val (.int p0), .val (.int p1), .val (.int (p0 &&& (7 : Int32))), .val (.int (p1.toUInt32.toUInt16.toUInt32.toInt32)), .val (.ref (u 4)), .val (.ref (u 4))] [(.ref (u 4)), (.ref (u 4))])) X98 hx rfl rfl rfl (pc0 := 67) (pc' := 72) (same := true) rfl (hb hby at_67) rfl (decide_eq_true rfl) (by decide) (by decide) ?_
                    show Steps p.tables e below (T98.setTop (mkF m 72 #[.val (.int p0), .val (.int p1), .val (.int (p0 &&& (7 : Int32))), .val (.int (p1.toUInt32.toUInt16.toUInt32.toInt32)), .val (.ref (u 4)), .val (.ref (u 4))] [])) _
                    refine XS.aload X98.here hx rfl (hb hby at_72) rfl rfl ?_
                    show Steps p.tables e below (T98.setTop (mkF m 74 #[.val (.int p0), .val (.int p1), .val (.int (p0 &&& (7 : Int32))), .val (.int (p1.toUInt32.toUInt16.toUInt32.toInt32)), .val (.ref (u 4)), .val (.ref (u 4))] [(.ref (u 4))])) _
                    refine XS.ifnullNo X98.here hx rfl (hb hby at_74) rfl ?_
                    show Steps p.tables e below (T98.setTop (mkF m 77 #[.val (.int p0), .val (.int p1), .val (.int (p0 &&& (7 : Int32))), .val (.int (p1.toUInt32.toUInt16.toUInt32.toInt32)), .val (.ref (u 4)), .val (.ref (u 4))] [])) _
                    refine XS.aload X98.here hx rfl (hb hby at_77) rfl rfl ?_
                    show Steps p.tables e below (T98.setTop (mkF m 79 #[.val (.int p0), .val (.int p1), .val (.int (p0 &&& (7 : Int32))), .val (.int (p1.toUInt32.toUInt16.toUInt32.toInt32)), .val (.ref (u 4)), .val (.ref (u 4))] [(.ref (u 4))])) _
                    refine st99.trans ?_
                    show Steps p.tables e below (T99.setTop (mkF m 82 #[.val (.int p0), .val (.int p1), .val (.int (p0 &&& (7 : Int32))), .val (.int (p1.toUInt32.toUInt16.toUInt32.toInt32)), .val (.ref (u 4)), .val (.ref (u 4))] [(.int (83 : Int32))])) _
                    refine XS.iloadN X99.here hx rfl (hb hby at_82) rfl ?_
                    show Steps p.tables e below (T99.setTop (mkF m 83 #[.val (.int p0), .val (.int p1), .val (.int (p0 &&& (7 : Int32))), .val (.int (p1.toUInt32.toUInt16.toUInt32.toInt32)), .val (.ref (u 4)), .val (.ref (u 4))] [(.int (p1.toUInt32.toUInt16.toUInt32.toInt32)), (.int (83 : Int32))])) _
                    refine XS.icmpYes X99.here hx rfl (pc0 := 83) (pc' := 88) rfl (hb hby at_83) rfl (teq (Eq.symm hc96)).1 (by decide) (by decide) ?_
                    show Steps p.tables e below (T99.setTop (mkF m 88 #[.val (.int p0), .val (.int p1), .val (.int (p0 &&& (7 : Int32))), .val (.int (p1.toUInt32.toUInt16.toUInt32.toInt32)), .val (.ref (u 4)), .val (.ref (u 4))] [])) _
                    refine XS.iconst X99.here hx rfl (hb hby at_88) ?_
                    show Steps p.tables e below (T99.setTop (mkF m 89 #[.val (.int p0), .val (.int p1), .val (.int (p0 &&& (7 : Int32))), .val (.int (p1.toUInt32.toUInt16.toUInt32.toInt32)), .val (.ref (u 4)), .val (.ref (u 4))] [(.int (1 : Int32))])) _
                    exact retN X99 hx (t := .boolean) Bd.returns (by simp) (hb hby at_89) hr
                  · show own_Q0 Z u p0 p1 h0 n0 _ T99.heap _
                    rw [e99]
                    exact ⟨rfl, N99, trivial⟩
                · --
                  obtain rfl : vr80 = some .null := hv80.trans (by unfold own_r1; rw [if_neg hc81, if_neg hc86, if_neg hc91, if_neg hc96])
                  have pre101 : ∀ t, Steps p.tables e below (T80.setTop (mkF m 58 #[.val (.int p0), .val (.int p1), .val (.int (p0 &&& (7 : Int32))), .val (.int (p1.toUInt32.toUInt16.toUInt32.toInt32)), .val .null, .unset] [(.int (p1.toUInt32.toUInt16.toUInt32.toInt32))])) t → Steps p.tables e below (s₁.setTop (entryFrame m #[(.int p0), (.int p1)] maxLocals)) t := fun t kt => pre79 t (by
                    show Steps p.tables e below (s₁.setTop (mkF m 52 #[.val (.int p0), .val (.int p1), .val (.int (p0 &&& (7 : Int32))), .val (.int (p1.toUInt32.toUInt16.toUInt32.toInt32)), .unset, .unset] [(.int (p1.toUInt32.toUInt16.toUInt32.toInt32))])) _
                    refine st80 _ ?_
                    show Steps p.tables e below (T80.setTop (mkF m 55 #[.val (.int p0), .val (.int p1), .val (.int (p0 &&& (7 : Int32))), .val (.int (p1.toUInt32.toUInt16.toUInt32.toInt32)), .unset, .unset] [.null])) _
                    refine XS.astore X80.here hx rfl (hb hby at_55) rfl rfl (l' := #[.val (.int p0), .val (.int p1), .val (.int (p0 &&& (7 : Int32))), .val (.int (p1.toUInt32.toUInt16.toUInt32.toInt32)), .val .null, .unset]) rfl ?_
                    show Steps p.tables e below (T80.setTop (mkF m 57 #[.val (.int p0), .val (.int p1), .val (.int (p0 &&& (7 : Int32))), .val (.int (p1.toUInt32.toUInt16.toUInt32.toInt32)), .val .null, .unset] [])) _
                    refine XS.iloadN X80.here hx rfl (hb hby at_57) rfl ?_
                    exact kt)
                  obtain ⟨vr102, _, ⟨T102, L102, k102, n102⟩, -, X102, ⟨Lc102, hQ102, l102, y102, z102⟩, st102⟩ := Jvm.LawKit.callS X80 hx (y := (⟨"com/example/smazzata/smazzata/card/Suit", "fromCode", "(C)Lcom/example/smazzata/smazzata/card/Suit;"⟩ : MethodName)) hown (mvT hZ (hw _ (List.mem_of_getElem? (i := 7) rfl))) (mvT hZ (hw _ (List.mem_of_getElem? (i := 8) rfl))) (mvT hZ (hw _ (List.mem_of_getElem? (i := 5) rfl))) (mvT hZ (hw _ (List.mem_of_getElem? (i := 9) rfl))) (by decide) (backOf (W := 0) (rm2 l Z a0 hw [] u (p1.toUInt32.toUInt16.toUInt32.toInt32) B h0 n0 O ) hZ (hw _ (List.mem_of_getElem? (i := 9) rfl)) (hw _ (List.mem_of_getElem? (i := 5) rfl)) (by decide) (by decide)) (g := (mkF m 58 #[.val (.int p0), .val (.int p1), .val (.int (p0 &&& (7 : Int32))), .val (.int (p1.toUInt32.toUInt16.toUInt32.toInt32)), .val .null, .unset] [(.int (p1.toUInt32.toUInt16.toUInt32.toInt32))])) rfl (by rw [hml]; rfl) (argsL := [(.int (p1.toUInt32.toUInt16.toUInt32.toInt32))]) (rest := []) (lenOf own_pd1 rfl) rfl (by show 2 * 0 + _ ≤ _; exact Nat.le_of_eq rfl) (hb hby at_58) (fun _ _ => ⟨rfl, e80, (by decide : 0 + 1 ≤ _), (by decide : 0 + 4 ≤ _)⟩)
                  dsimp only [Pt.U, Pt.locs, Pt.cells, Pt.slots] at X102 l102 y102 z102 st102 hQ102
                  subst l102 y102 z102
                  obtain ⟨hv102, N102q, E102⟩ := hQ102
                  have N102 := Fr.app N80 N102q
                  have O102 := O.ext E102
                  have K102 := K0.ext E102
                  obtain rfl : vr102 = some .null := hv102.trans (by unfold own_r2; rw [if_neg (fun q => hc81 (Eq.symm q)), if_neg (fun q => hc86 (Eq.symm q)), if_neg (fun q => hc91 (Eq.symm q)), if_neg (fun q => hc96 (Eq.symm q))])
                  obtain ⟨fs, hr, hrun, hended, hW, hsame⟩ := X102.leave (v := some (.int (1 : Int32))) (fun h => by rw [Bd.returns] at h; cases h)
                  refine ⟨_, _, pre101 _ ?_, hrun, hended, _, _, rfl, ?_, ⟨_, rfl⟩, hW, hsame.mono (by decide) (by decide)⟩
                  · show Steps p.tables e below (T80.setTop (mkF m 58 #[.val (.int p0), .val (.int p1), .val (.int (p0 &&& (7 : Int32))), .val (.int (p1.toUInt32.toUInt16.toUInt32.toInt32)), .val .null, .unset] [(.int (p1.toUInt32.toUInt16.toUInt32.toInt32))])) _
                    refine st102 _ ?_
                    show Steps p.tables e below (T102.setTop (mkF m 61 #[.val (.int p0), .val (.int p1), .val (.int (p0 &&& (7 : Int32))), .val (.int (p1.toUInt32.toUInt16.toUInt32.toInt32)), .val .null, .unset] [.null])) _
                    refine XS.astore X102.here hx rfl (hb hby at_61) rfl rfl (l' := #[.val (.int p0), .val (.int p1), .val (.int (p0 &&& (7 : Int32))), .val (.int (p1.toUInt32.toUInt16.toUInt32.toInt32)), .val .null, .val .null]) rfl ?_
                    show Steps p.tables e below (T102.setTop (mkF m 63 #[.val (.int p0), .val (.int p1), .val (.int (p0 &&& (7 : Int32))), .val (.int (p1.toUInt32.toUInt16.toUInt32.toInt32)), .val .null, .val .null] [])) _
                    refine XS.aload X102.here hx rfl (hb hby at_63) rfl rfl ?_
                    show Steps p.tables e below (T102.setTop (mkF m 65 #[.val (.int p0), .val (.int p1), .val (.int (p0 &&& (7 : Int32))), .val (.int (p1.toUInt32.toUInt16.toUInt32.toInt32)), .val .null, .val .null] [.null])) _
                    refine XS.aload X102.here hx rfl (hb hby at_65) rfl rfl ?_
                    show Steps p.tables e below (T102.setTop (mkF m 67 #[.val (.int p0), .val (.int p1), .val (.int (p0 &&& (7 : Int32))), .val (.int (p1.toUInt32.toUInt16.toUInt32.toInt32)), .val .null, .val .null] [.null, .null])) _
                    refine Jvm.RoadKit.acmp (g := (mkF m 67 #[.val (.int p0), .val (.int p1), .val (.int (p0 &&& (7 : Int32))), .val (.int (p1.toUInt32.toUInt16.toUInt32.toInt32)), .val .null, .val .null] [.null, .null])) X102 hx rfl rfl rfl (pc0 := 67) (pc' := 72) (same := true) rfl (hb hby at_67) rfl (decide_eq_true rfl) (by decide) (by decide) ?_
                    show Steps p.tables e below (T102.setTop (mkF m 72 #[.val (.int p0), .val (.int p1), .val (.int (p0 &&& (7 : Int32))), .val (.int (p1.toUInt32.toUInt16.toUInt32.toInt32)), .val .null, .val .null] [])) _
                    refine XS.aload X102.here hx rfl (hb hby at_72) rfl rfl ?_
                    show Steps p.tables e below (T102.setTop (mkF m 74 #[.val (.int p0), .val (.int p1), .val (.int (p0 &&& (7 : Int32))), .val (.int (p1.toUInt32.toUInt16.toUInt32.toInt32)), .val .null, .val .null] [.null])) _
                    refine XS.ifnullYes X102.here hx rfl (pc0 := 74) (pc' := 88) rfl (hb hby at_74) rfl (by decide) (by decide) ?_
                    show Steps p.tables e below (T102.setTop (mkF m 88 #[.val (.int p0), .val (.int p1), .val (.int (p0 &&& (7 : Int32))), .val (.int (p1.toUInt32.toUInt16.toUInt32.toInt32)), .val .null, .val .null] [])) _
                    refine XS.iconst X102.here hx rfl (hb hby at_88) ?_
                    show Steps p.tables e below (T102.setTop (mkF m 89 #[.val (.int p0), .val (.int p1), .val (.int (p0 &&& (7 : Int32))), .val (.int (p1.toUInt32.toUInt16.toUInt32.toInt32)), .val .null, .val .null] [(.int (1 : Int32))])) _
                    exact retN X102 hx (t := .boolean) Bd.returns (by simp) (hb hby at_89) hr
                  · show own_Q0 Z u p0 p1 h0 n0 _ T102.heap _
                    exact ⟨rfl, N102, trivial⟩
set_option maxRecDepth 65536 in
set_option maxHeartbeats 40000000 in
theorem comes_1 {Post : Tables → Env → Array Value → State → Outcome → State → Prop} (hpost : ∀ tb e args s v u, (limb_1_1.after args s (.returned v) u = true ∧ limb_1_2.after args s (.returned v) u = true ∧ True) → FrameEnd s (.returned v) u (Jvm.fieldLocs frame_1_writes args s ++ Jvm.arrayLocs frame_1_arrays args s ++ Jvm.staticLocs frame_1_statics s) 16 128 → Post tb e args s (.returned v) u) :
    ArmFor flags0 classFile x code maxLocals ret World_1 tables_1 room_1 Calls_1 rest_1 Pre_1 Post := by
  intro l hfl _ _ p e ha hc hk s m args below hf hA hF happ hP
  obtain ⟨hcalls, hrest, hpre⟩ := hP
  obtain ⟨-, -, -, hnamed, -, -, -, hat⟩ := (Spec.applies_iff hf).mp happ
  obtain ⟨hg, hn⟩ := and_e (Cond.before_iff.mp (show (Jvm.Cond.and given_1 narrow_1).before args s = true from hpre))
  obtain ⟨g0, gr0⟩ := and_e hg
  obtain ⟨g1, gr1⟩ := and_e gr0
  have g2 := gr1
  obtain ⟨w0, w1, rfl⟩ : ∃ w0 w1 : Value, args = #[w0, w1] := by
    have hs : args.size = 2 := by simpa [Cond.value, given_1] using g0
    obtain ⟨L⟩ := args
    match L, hs with
    | [w0, w1], _ => exact ⟨w0, w1, rfl⟩
  have hw := fun d (hd : d ∈ tables_1) => atoms_spec (ws := Jvm.Cond.code x code maxLocals ret :: tables_1) hat d (List.mem_cons_of_mem _ hd)
  have hfit : Fit s := fun {y c} hc i hi => by
    obtain ⟨ha, rfl⟩ := Array.getElem?_eq_some_iff.mp hc
    have q := List.all_eq_true.mp ((Array.all_eq_true_iff_forall_mem.mp hF) _ (Array.getElem_mem ha)) i (List.mem_range.mpr hi)
    simpa [Array.getElem?_eq_getElem hi] using q
  obtain ⟨i0, ei0⟩ := is_v g1
  obtain rfl : w0 = (.int i0) := Option.some.inj ei0
  obtain ⟨i1, ei1⟩ := is_v g2
  obtain rfl : w1 = (.int i1) := Option.some.inj ei1
  obtain ⟨b0, hn0⟩ := and_e hn
  obtain ⟨b1, hn1⟩ := and_e hn0
  obtain ⟨b2, hn2⟩ := and_e hn1
  obtain ⟨b3, hn3⟩ := and_e hn2
  obtain ⟨b4, hn4⟩ := and_e hn3
  obtain ⟨b5, hn5⟩ := and_e hn4
  obtain ⟨b6, hn6⟩ := and_e hn5
  obtain ⟨b7, hn7⟩ := and_e hn6
  obtain ⟨b8, hn8⟩ := and_e hn7
  obtain ⟨b9, hn9⟩ := and_e hn8
  obtain ⟨b10, hn10⟩ := and_e hn9
  obtain ⟨b11, hn11⟩ := and_e hn10
  obtain ⟨b12, hn12⟩ := and_e hn11
  obtain ⟨b13, hn13⟩ := and_e hn12
  have b14 := hn13
  obtain ⟨x0, v0⟩ := exa_v b0
  obtain ⟨x1, v1⟩ := exa_v b2
  obtain ⟨x2, v2⟩ := exa_v b5
  obtain ⟨x3, v3⟩ := exa_v b7
  obtain ⟨x4, v4⟩ := exa_v b9
  obtain ⟨c1, A1⟩ := Arr.start v1 b1
  obtain ⟨l1, m1⟩ := own_len v1 A1.1 b3
  have B : own_Base s (fun i => ([x0, x1, x2, x3, x4] : List Addr).getD i 0) := ⟨Sta.start v0 (Or.inr ⟨(hw _ (List.mem_of_getElem? (i := 5) rfl)), (hw _ (List.mem_of_getElem? (i := 6) rfl))⟩),
    Exa.start v0 b0,
    Sta.start v1 (Or.inr ⟨(hw _ (List.mem_of_getElem? (i := 5) rfl)), (hw _ (List.mem_of_getElem? (i := 14) rfl))⟩),
    Exa.start v1 b2,
    Sta.start v2 (Or.inr ⟨(hw _ (List.mem_of_getElem? (i := 5) rfl)), (hw _ (List.mem_of_getElem? (i := 22) rfl))⟩),
    Exa.start v2 b5,
    Sta.start v3 (Or.inr ⟨(hw _ (List.mem_of_getElem? (i := 5) rfl)), (hw _ (List.mem_of_getElem? (i := 23) rfl))⟩),
    Exa.start v3 b7,
    Sta.start v4 (Or.inr ⟨(hw _ (List.mem_of_getElem? (i := 5) rfl)), (hw _ (List.mem_of_getElem? (i := 24) rfl))⟩),
    Exa.start v4 b9,
    own_fld v0 b11 rfl,
    ⟨_, Arv.start hfit A1 l1 m1 (by decide) rfl ⟨own_elem v1 A1.1 b4 v0, own_elem v1 A1.1 b6 v2, own_elem v1 A1.1 b8 v3, own_elem v1 A1.1 b10 v4, trivial⟩⟩,
    own_fld v2 b12 rfl,
    own_fld v3 b13 rfl,
    own_fld v4 b14 rfl⟩
  obtain ⟨n, o, h1, h2, h3, _, L, rfl, ⟨rfl, N, -⟩, hq⟩ := rm0 l s _ hw tables_1 (fun i => ([x0, x1, x2, x3, x4] : List Addr).getD i 0) i0 i1 B s.heap s.heap.size (Old.start s)  p e ha hc hk s m _ below hf ((Spec.applies_iff_loose hf).mp happ).1 ⟨rfl, State.Warmed39.refl s, rfl⟩ trivial
  refine ⟨n, _, h1, h2, h3, hpost _ _ _ _ _ _ ⟨Cond.after_iff.mpr rfl, Cond.after_iff.mpr (eq_i res_at (Term.int_eval (1)) rfl), trivial⟩ ⟨hq.1, hq.2.1, (hq.2.2.sift fun y hy => Or.inr (N y hy)).mono (by decide) (by decide)⟩⟩
theorem main_1_1 : Claimed_1_1 := comes_1 fun _ _ _ _ _ _ h hF => ⟨h.1, hF⟩
theorem main_1_2 : Claimed_1_2 := comes_1 fun _ _ _ _ _ _ h hF => ⟨h.2.1, hF⟩
end Jvm.Pilot.@@N@@
namespace Jvm.Pilot.@@N@@
open Jvm Jvm.ClassFile Sem Op Lib Jvm.Free Jvm.Stand Jvm.Pilot.@@N@@.Jvm.D
/-! MADE BY PROGRAM (witnessworld.py) out of the Statement's table words and the real class files: 13 classes; the members and pool entries that the words name. The judged class is class 1, her method 1. -/
namespace start1
open Jvm.ClassFile
def u (s : String) : CpInfo := .utf8 (stringToUtf16 s)
/-- a pool by its gaps: so many unusable entries, then the entry; so many at the end -/
def gap : Nat → List CpInfo → List CpInfo
  | 0, r => r
  | n + 1, r => .unusable :: gap n r
def poolList (es : List (Nat × CpInfo)) (last : Nat) : List CpInfo := es.foldr (fun e r => gap e.1 (e.2 :: r)) (gap last [])
def pool (es : List (Nat × CpInfo)) (last : Nat) : Array CpInfo := ⟨poolList es last⟩
def fileOf (pool : Array CpInfo) (this : Nat) (attrs : Array Attribute := #[]) (ms : Array MethodInfo := #[]) (fl : Nat := 33) (sup : Nat := 0) (ifs : Array Nat := #[]) (fds : Array FieldInfo := #[]) : ClassFile where
  minorVersion := 0
  majorVersion := 65
  constantPool := pool
  accessFlags := fl
  thisClass := this
  superClass := sup
  interfaces := ifs
  fields := fds
  methods := ms
  attributes := attrs
def plain (name : String) (sup : Option ClassId) : Class where
  name := name
  kind := .ordinary
  loader := none
  accessFlags := 33
  super := sup
  interfaces := #[]
  cf := none
  fields := #[]
  methods := #[]
  instanceTypes := #[]
  staticTypes := #[]
  resolved := #[]
  callSites := []
  init := .initialized
  statics := none
  mirror := none

def pool0 : Array CpInfo := pool [(5, u "<init>"), (0, u "()V"), (1, .class_ 10), (1, u "java/lang/Object"), (85, u "clone"), (0, u "()Ljava/lang/Object;")] 26

def k0m0 : Method := { name := "<init>", desc := "()V", sig := { parameters := [], returnType := none }, accessFlags := 1, code := none }
def k0m1 : Method := { name := "clone", desc := "()Ljava/lang/Object;", sig := { parameters := [], returnType := some (.object "java/lang/Object") }, accessFlags := 260, code := none }
/-- java/lang/Object -/
def k0 : Class := { plain "java/lang/Object" none with
  accessFlags := 33
  interfaces := #[]
  cf := some (fileOf pool0 8 #[] #[{ accessFlags := 1, nameIndex := 5, descriptorIndex := 6, attributes := #[] }, { accessFlags := 260, nameIndex := 96, descriptorIndex := 97, attributes := #[] }] 33 0 #[] #[])
  fields := #[]
  methods := #[k0m0, k0m1]
  instanceTypes := #[]
  staticTypes := #[]
  resolved := Array.replicate 124 none
  statics := none }

def pool1 : Array CpInfo := pool [(2, .class_ 4), (1, u "java/lang/Object"), (0, u "<init>"), (0, u "()V"), (0, .methodref 8 9), (0, .class_ 10), (0, .nameAndType 11 12), (0, u "com/example/smazzata/smazzata/card/SuitFromCodePinLaw"), (0, u "reference"), (0, u "(C)Lcom/example/smazzata/smazzata/card/Suit;"), (0, .methodref 14 15), (0, .class_ 16), (0, .nameAndType 17 12), (0, u "com/example/smazzata/smazzata/card/Suit"), (0, u "fromCode"), (0, .methodref 14 19), (0, .nameAndType 20 21), (0, u "code"), (0, u "()C"), (0, .fieldref 14 23), (0, .nameAndType 24 25), (0, u "DENARI"), (0, u "Lcom/example/smazzata/smazzata/card/Suit;"), (0, .fieldref 14 27), (0, .nameAndType 28 25), (0, u "COPPE"), (0, .fieldref 14 30), (0, .nameAndType 31 25), (0, u "BASTONI"), (0, .fieldref 14 33), (0, .nameAndType 34 25), (0, u "SPADE"), (2, u "law"), (0, u "(II)Z")] 3

def k1m0 : Method := { name := "<init>", desc := "()V", sig := { parameters := [], returnType := none }, accessFlags := 1, code := none }
def k1c1 : Code := { maxStack := 2, maxLocals := 6, code := code, exceptionTable := #[], attributes := #[] }
def k1m1 : Method := { name := "law", desc := "(II)Z", sig := { parameters := [.int, .int], returnType := some .boolean }, accessFlags := 9, code := some k1c1 }
def k1c2 : Code := { maxStack := 2, maxLocals := 1, code := method_3_code, exceptionTable := #[], attributes := #[] }
def k1m2 : Method := { name := "reference", desc := "(C)Lcom/example/smazzata/smazzata/card/Suit;", sig := { parameters := [.char], returnType := some (.object "com/example/smazzata/smazzata/card/Suit") }, accessFlags := 10, code := some k1c2 }
/-- com/example/smazzata/smazzata/card/SuitFromCodePinLaw -/
def k1 : Class := { plain "com/example/smazzata/smazzata/card/SuitFromCodePinLaw" (some 0) with
  accessFlags := 49
  interfaces := #[]
  cf := some (fileOf pool1 8 #[] #[{ accessFlags := 1, nameIndex := 5, descriptorIndex := 6, attributes := #[] }, { accessFlags := 9, nameIndex := 37, descriptorIndex := 38, attributes := #[] }, { accessFlags := 10, nameIndex := 11, descriptorIndex := 12, attributes := #[] }] 49 2 #[] #[])
  fields := #[]
  methods := #[k1m0, k1m1, k1m2]
  instanceTypes := #[]
  staticTypes := #[]
  resolved := Array.replicate 42 none
  statics := none }

def pool2 : Array CpInfo := pool [(1, .class_ 2), (0, u "java/lang/constant/Constable"), (0, .class_ 4), (0, u "java/lang/Object")] 6

/-- java/lang/constant/Constable -/
def k2 : Class := { plain "java/lang/constant/Constable" (some 0) with
  accessFlags := 1537
  interfaces := #[]
  cf := some (fileOf pool2 1 #[] #[] 1537 3 #[] #[])
  fields := #[]
  methods := #[]
  instanceTypes := #[]
  staticTypes := #[]
  resolved := Array.replicate 11 none
  statics := none }

def pool3 : Array CpInfo := pool [(1, .class_ 2), (0, u "java/lang/Comparable"), (0, .class_ 4), (0, u "java/lang/Object")] 7

/-- java/lang/Comparable -/
def k3 : Class := { plain "java/lang/Comparable" (some 0) with
  accessFlags := 1537
  interfaces := #[]
  cf := some (fileOf pool3 1 #[] #[] 1537 3 #[] #[])
  fields := #[]
  methods := #[]
  instanceTypes := #[]
  staticTypes := #[]
  resolved := Array.replicate 12 none
  statics := none }

def pool4 : Array CpInfo := pool [(1, .class_ 2), (0, u "java/io/Serializable"), (0, .class_ 4), (0, u "java/lang/Object")] 2

/-- java/io/Serializable -/
def k4 : Class := { plain "java/io/Serializable" (some 0) with
  accessFlags := 1537
  interfaces := #[]
  cf := some (fileOf pool4 1 #[] #[] 1537 3 #[] #[])
  fields := #[]
  methods := #[]
  instanceTypes := #[]
  staticTypes := #[]
  resolved := Array.replicate 7 none
  statics := none }

def pool5 : Array CpInfo := pool [(2, .class_ 4), (1, u "java/lang/Enum"), (0, u "name"), (0, u "Ljava/lang/String;"), (2, u "ordinal"), (0, u "I"), (1, .class_ 14), (1, u "java/lang/Object"), (4, u "hash"), (86, .class_ 108), (1, u "java/lang/Enum$EnumDesc"), (2, .class_ 112), (0, u "java/lang/constant/Constable"), (0, .class_ 114), (0, u "java/lang/Comparable"), (0, .class_ 116), (0, u "java/io/Serializable")] 87

/-- java/lang/Enum -/
def k5 : Class := { plain "java/lang/Enum" (some 0) with
  accessFlags := 1057
  interfaces := #[2, 3, 4]
  cf := some (fileOf pool5 2 #[.nestMembers #[106]] #[] 1057 12 #[111, 113, 115] #[{ accessFlags := 18, nameIndex := 5, descriptorIndex := 6, attributes := #[] }, { accessFlags := 18, nameIndex := 9, descriptorIndex := 10, attributes := #[] }, { accessFlags := 2, nameIndex := 19, descriptorIndex := 10, attributes := #[] }])
  fields := #[{ name := "name", type := (.object "java/lang/String"), accessFlags := 18, slot := 0, constantValue := 0 }, { name := "ordinal", type := .int, accessFlags := 18, slot := 1, constantValue := 0 }, { name := "hash", type := .int, accessFlags := 2, slot := 2, constantValue := 0 }]
  methods := #[]
  instanceTypes := #[(.object "java/lang/String"), .int, .int]
  staticTypes := #[]
  resolved := Array.replicate 204 none
  statics := none }

def pool6 : Array CpInfo := pool [(1, .class_ 2), (0, u "com/example/smazzata/smazzata/card/Suit"), (2, u "DENARI"), (0, u "Lcom/example/smazzata/smazzata/card/Suit;"), (2, u "COPPE"), (2, u "BASTONI"), (2, u "SPADE"), (0, .fieldref 1 17), (0, .nameAndType 18 19), (0, u "$VALUES"), (0, u "[Lcom/example/smazzata/smazzata/card/Suit;"), (0, .methodref 21 22), (0, .class_ 19), (0, .nameAndType 23 24), (0, u "clone"), (0, u "()Ljava/lang/Object;"), (1, .class_ 28), (1, u "java/lang/Enum"), (6, .fieldref 1 36), (0, .nameAndType 37 38), (0, u "code"), (0, u "C"), (0, .methodref 1 40), (0, .nameAndType 41 42), (0, u "values"), (0, u "()[Lcom/example/smazzata/smazzata/card/Suit;"), (16, u "()C"), (0, u "fromCode"), (0, u "(C)Lcom/example/smazzata/smazzata/card/Suit;")] 6

def k6c0 : Code := { maxStack := 1, maxLocals := 0, code := prog_13_method_1_code, exceptionTable := #[], attributes := #[] }
def k6m0 : Method := { name := "values", desc := "()[Lcom/example/smazzata/smazzata/card/Suit;", sig := { parameters := [], returnType := some (.array (.object "com/example/smazzata/smazzata/card/Suit")) }, accessFlags := 9, code := some k6c0 }
def k6c1 : Code := { maxStack := 1, maxLocals := 1, code := prog_13_method_4_code, exceptionTable := #[], attributes := #[] }
def k6m1 : Method := { name := "code", desc := "()C", sig := { parameters := [], returnType := some .char }, accessFlags := 1, code := some k6c1 }
def k6c2 : Code := { maxStack := 2, maxLocals := 5, code := prog_13_method_5_code, exceptionTable := #[], attributes := #[] }
def k6m2 : Method := { name := "fromCode", desc := "(C)Lcom/example/smazzata/smazzata/card/Suit;", sig := { parameters := [.char], returnType := some (.object "com/example/smazzata/smazzata/card/Suit") }, accessFlags := 8, code := some k6c2 }
/-- com/example/smazzata/smazzata/card/Suit -/
def k6 : Class := { plain "com/example/smazzata/smazzata/card/Suit" (some 5) with
  accessFlags := 16433
  interfaces := #[]
  cf := some (fileOf pool6 1 #[] #[{ accessFlags := 9, nameIndex := 41, descriptorIndex := 42, attributes := #[] }, { accessFlags := 1, nameIndex := 37, descriptorIndex := 59, attributes := #[] }, { accessFlags := 8, nameIndex := 60, descriptorIndex := 61, attributes := #[] }] 16433 26 #[] #[{ accessFlags := 16409, nameIndex := 5, descriptorIndex := 6, attributes := #[] }, { accessFlags := 16409, nameIndex := 9, descriptorIndex := 6, attributes := #[] }, { accessFlags := 16409, nameIndex := 12, descriptorIndex := 6, attributes := #[] }, { accessFlags := 16409, nameIndex := 15, descriptorIndex := 6, attributes := #[] }, { accessFlags := 18, nameIndex := 37, descriptorIndex := 38, attributes := #[] }, { accessFlags := 4122, nameIndex := 18, descriptorIndex := 19, attributes := #[] }])
  fields := #[{ name := "DENARI", type := (.object "com/example/smazzata/smazzata/card/Suit"), accessFlags := 16409, slot := 0, constantValue := 0 }, { name := "COPPE", type := (.object "com/example/smazzata/smazzata/card/Suit"), accessFlags := 16409, slot := 1, constantValue := 0 }, { name := "BASTONI", type := (.object "com/example/smazzata/smazzata/card/Suit"), accessFlags := 16409, slot := 2, constantValue := 0 }, { name := "SPADE", type := (.object "com/example/smazzata/smazzata/card/Suit"), accessFlags := 16409, slot := 3, constantValue := 0 }, { name := "code", type := .char, accessFlags := 18, slot := 3, constantValue := 0 }, { name := "$VALUES", type := (.array (.object "com/example/smazzata/smazzata/card/Suit")), accessFlags := 4122, slot := 4, constantValue := 0 }]
  methods := #[k6m0, k6m1, k6m2]
  instanceTypes := #[(.object "java/lang/String"), .int, .int, .char]
  staticTypes := #[(.object "com/example/smazzata/smazzata/card/Suit"), (.object "com/example/smazzata/smazzata/card/Suit"), (.object "com/example/smazzata/smazzata/card/Suit"), (.object "com/example/smazzata/smazzata/card/Suit"), (.array (.object "com/example/smazzata/smazzata/card/Suit"))]
  resolved := Array.replicate 68 none
  statics := some 0 }

def pool7 : Array CpInfo := pool [(1, .class_ 2), (0, u "java/lang/Cloneable"), (0, .class_ 4), (0, u "java/lang/Object")] 2

/-- java/lang/Cloneable -/
def k7 : Class := { plain "java/lang/Cloneable" (some 0) with
  accessFlags := 1537
  interfaces := #[]
  cf := some (fileOf pool7 1 #[] #[] 1537 3 #[] #[])
  fields := #[]
  methods := #[]
  instanceTypes := #[]
  staticTypes := #[]
  resolved := Array.replicate 7 none
  statics := none }

/-- the primitive byte -/
def k8 : Class := { plain "byte" none with kind := .primitive 'B', accessFlags := 0x411 }
/-- [B -/
def k9 : Class := { plain "[B" (some 0) with kind := .array 8 .byte, interfaces := #[7, 4], accessFlags := 1041 }

/-- the primitive int -/
def k10 : Class := { plain "int" none with kind := .primitive 'I', accessFlags := 0x411 }
/-- [I -/
def k11 : Class := { plain "[I" (some 0) with kind := .array 10 .int, interfaces := #[7, 4], accessFlags := 1041 }

/-- [Lcom/example/smazzata/smazzata/card/Suit; -/
def k12 : Class := { plain "[Lcom/example/smazzata/smazzata/card/Suit;" (some 0) with kind := .array 6 (.object "com/example/smazzata/smazzata/card/Suit"), interfaces := #[7, 4], accessFlags := 1041 }

def heap : Heap := #[{ cls := 6, slots := #[.ref 2, .ref 3, .ref 4, .ref 5, .ref 1], vm := .statics 6 },
  { cls := 12, slots := #[.ref 2, .ref 3, .ref 4, .ref 5], vm := .none },
  { cls := 6, slots := #[.null, .int 0, .int 0, .int (68)], vm := .none },
  { cls := 6, slots := #[.null, .int 0, .int 0, .int (67)], vm := .none },
  { cls := 6, slots := #[.null, .int 0, .int 0, .int (66)], vm := .none },
  { cls := 6, slots := #[.null, .int 0, .int 0, .int (83)], vm := .none }]
def classes : Array Class := #[k0, k1, k2, k3, k4, k5, k6, k7, k8, k9, k10, k11, k12]
def interned : List (Array UInt16 × Addr) := []
def slotsUsed : Nat := 25
def theMethod : MethodId := ⟨1, 1⟩
def args0 : Array Value := #[.int 5, .int 6]
def aboutOver (below : List Frame) : State where
  vm := { classes := classes, interned := interned.toArray }
  heap := heap
  slotsUsed := slotsUsed
  threads := #[{ frames := .invoking theMethod args0 :: below }]
def below0 : List Frame := [.native { method := ⟨0, 0⟩, args := #[] }]
def about1 : State := aboutOver below0
def p0 : Program := .bare "" "" ""
def e0 : Env := launch0.env 0 0 0
theorem w_frames : about1.frames = Frame.invoking theMethod args0 :: below0 := rfl
set_option maxRecDepth 65536 in
theorem w_args : argsFit about1.vm theMethod args0 = true := by decide +kernel
set_option maxRecDepth 65536 in
theorem w_heap : heapFits about1 = true := by decide +kernel
set_option maxRecDepth 65536 in
theorem w_runnable : about1.curStatus? = some .runnable := by decide +kernel
set_option maxRecDepth 65536 in
theorem w_alone : about1.alone = true := by decide +kernel
set_option maxRecDepth 65536 in
theorem w_named : about1.methodNamed? x = some theMethod := by decide +kernel
set_option maxRecDepth 65536 in
theorem w_hears : about1.hears theMethod below0 = true := by decide +kernel
set_option maxRecDepth 65536 in
theorem w_ripe : about1.ripe theMethod args0 below0 = true := by decide +kernel
theorem w_running : about1.status = .running := rfl
set_option maxRecDepth 65536 in
theorem w_room : about1.hasRoom e0.platform room_1 = true :=
  launch0.hasRoom_least _ room_1 (by decide +kernel) (by decide +kernel) (by decide +kernel) (by decide +kernel) (by decide +kernel) (by decide +kernel)
theorem allAtoms_all (ts : List Jvm.Cond) (a : Array Jvm.Value) (st : Jvm.State) : (allAtoms ts).before a st = ts.all (fun c => c.before a st) := by
  induction ts with
  | nil => rfl
  | cons c t ih =>
    show (Jvm.Cond.and c (allAtoms t)).before a st = _
    rw [Jvm.Cond.before_and, ih, List.all_cons]
def words1 : List Jvm.Cond := Jvm.Cond.code x code maxLocals ret :: tables_1
/-- a 'code' word, met by the world's own term for the bytes: nothing is compared byte by byte -/
theorem code_word {y : MethodName} {bytes : ByteArray} {mx : Nat} {rt : Option FieldType} {a : Array Value} {s : State} {m : MethodId} {meth : Method} {c : Code} (h1 : s.methodNamed? y = some m) (h2 : s.vm.method? m = some meth) (h3 : meth.code = some c) (h4 : c.code = bytes)
    (h5 : (c.maxLocals == mx && c.exceptionTable.isEmpty && decide (c.maxStack ≤ mostOperands) && decide (meth.sig.returnType = rt) && !meth.locks && decide (parseMethodDescriptor y.desc = some meth.sig)) = true) : (Jvm.Cond.code y bytes mx rt).before a s = true := by
  simp only [Bool.and_eq_true, beq_iff_eq, Bool.not_eq_true', decide_eq_true_eq] at h5
  obtain ⟨⟨⟨⟨⟨g1, g2⟩, g3⟩, g4⟩, g5⟩, g6⟩ := h5
  simp [Cond.before, Cond.holds, Cond.value, h1, h2, h3, h4, g1, g2, g3, g4, g5, g6]
def isCode : Jvm.Cond → Bool
  | .code _ _ _ _ => true
  | _ => false
theorem all_split {L : List Jvm.Cond} {P : Jvm.Cond → Bool} (h1 : L.all (fun c => isCode c || P c) = true) (h2 : ∀ c ∈ L.filter isCode, P c = true) : L.all P = true := by
  refine List.all_eq_true.mpr fun c hc => ?_
  have h := List.all_eq_true.mp h1 c hc
  rcases Bool.eq_false_or_eq_true (isCode c) with hi | hi
  · exact h2 c (List.mem_filter.mpr ⟨hc, hi⟩)
  · simpa [hi] using h
set_option maxRecDepth 65536 in
theorem w_c0 : (Jvm.Cond.code x code maxLocals ret).before args0 about1 = true := code_word (m := ⟨1, 1⟩) (meth := k1m1) (c := k1c1) (by decide +kernel) rfl rfl rfl (by decide +kernel)
set_option maxRecDepth 65536 in
theorem w_c1 : (Jvm.Cond.code ({ cls := "com/example/smazzata/smazzata/card/SuitFromCodePinLaw", name := "reference", desc := "(C)Lcom/example/smazzata/smazzata/card/Suit;" } : Jvm.MethodName) method_3_code (1 : Nat) (Option.some (Jvm.ClassFile.FieldType.object "com/example/smazzata/smazzata/card/Suit"))).before args0 about1 = true := code_word (m := ⟨1, 2⟩) (meth := k1m2) (c := k1c2) (by decide +kernel) rfl rfl rfl (by decide +kernel)
set_option maxRecDepth 65536 in
theorem w_c2 : (Jvm.Cond.code ({ cls := "com/example/smazzata/smazzata/card/Suit", name := "fromCode", desc := "(C)Lcom/example/smazzata/smazzata/card/Suit;" } : Jvm.MethodName) prog_13_method_5_code (5 : Nat) (Option.some (Jvm.ClassFile.FieldType.object "com/example/smazzata/smazzata/card/Suit"))).before args0 about1 = true := code_word (m := ⟨6, 2⟩) (meth := k6m2) (c := k6c2) (by decide +kernel) rfl rfl rfl (by decide +kernel)
set_option maxRecDepth 65536 in
theorem w_c3 : (Jvm.Cond.code ({ cls := "com/example/smazzata/smazzata/card/Suit", name := "values", desc := "()[Lcom/example/smazzata/smazzata/card/Suit;" } : Jvm.MethodName) prog_13_method_1_code (0 : Nat) (Option.some (Jvm.ClassFile.FieldType.array (Jvm.ClassFile.FieldType.object "com/example/smazzata/smazzata/card/Suit")))).before args0 about1 = true := code_word (m := ⟨6, 0⟩) (meth := k6m0) (c := k6c0) (by decide +kernel) rfl rfl rfl (by decide +kernel)
set_option maxRecDepth 65536 in
theorem w_c4 : (Jvm.Cond.code ({ cls := "com/example/smazzata/smazzata/card/Suit", name := "code", desc := "()C" } : Jvm.MethodName) prog_13_method_4_code (1 : Nat) (Option.some Jvm.ClassFile.FieldType.char)).before args0 about1 = true := code_word (m := ⟨6, 1⟩) (meth := k6m1) (c := k6c1) (by decide +kernel) rfl rfl rfl (by decide +kernel)
def codes1 : List Jvm.Cond := [Jvm.Cond.code x code maxLocals ret, Jvm.Cond.code ({ cls := "com/example/smazzata/smazzata/card/SuitFromCodePinLaw", name := "reference", desc := "(C)Lcom/example/smazzata/smazzata/card/Suit;" } : Jvm.MethodName) method_3_code (1 : Nat) (Option.some (Jvm.ClassFile.FieldType.object "com/example/smazzata/smazzata/card/Suit")), Jvm.Cond.code ({ cls := "com/example/smazzata/smazzata/card/Suit", name := "fromCode", desc := "(C)Lcom/example/smazzata/smazzata/card/Suit;" } : Jvm.MethodName) prog_13_method_5_code (5 : Nat) (Option.some (Jvm.ClassFile.FieldType.object "com/example/smazzata/smazzata/card/Suit")), Jvm.Cond.code ({ cls := "com/example/smazzata/smazzata/card/Suit", name := "values", desc := "()[Lcom/example/smazzata/smazzata/card/Suit;" } : Jvm.MethodName) prog_13_method_1_code (0 : Nat) (Option.some (Jvm.ClassFile.FieldType.array (Jvm.ClassFile.FieldType.object "com/example/smazzata/smazzata/card/Suit"))), Jvm.Cond.code ({ cls := "com/example/smazzata/smazzata/card/Suit", name := "code", desc := "()C" } : Jvm.MethodName) prog_13_method_4_code (1 : Nat) (Option.some Jvm.ClassFile.FieldType.char)]
set_option maxRecDepth 65536 in
theorem codes_eq : words1.filter isCode = codes1 := rfl
theorem w_codes : ∀ c ∈ words1.filter isCode, c.before args0 about1 = true := by
  rw [codes_eq]
  intro c hc
  simp only [codes1, List.mem_cons, List.not_mem_nil, or_false] at hc
  rcases hc with rfl | rfl | rfl | rfl | rfl
  · exact w_c0
  · exact w_c1
  · exact w_c2
  · exact w_c3
  · exact w_c4
set_option maxRecDepth 65536 in
theorem w_t1 : (words1.take 24).all (fun c => isCode c || c.before args0 about1) = true := by decide +kernel
set_option maxRecDepth 65536 in
theorem w_t2 : (words1.drop 24).all (fun c => isCode c || c.before args0 about1) = true := by decide +kernel
theorem w_tables : (allAtoms (Jvm.Cond.code x code maxLocals ret :: tables_1)).before args0 about1 = true := by
  rw [allAtoms_all]
  show words1.all (fun c => c.before args0 about1) = true
  refine all_split ?_ w_codes
  rw [← List.take_append_drop 24 words1, List.all_append, w_t1, w_t2]
  rfl
set_option maxRecDepth 65536 in
theorem w_case : (Jvm.Cond.and given_1 narrow_1).before args0 about1 = true := by decide +kernel
theorem w_applies : (headSpec (Jvm.Cond.code x code maxLocals ret :: tables_1) room_1).applies x e0.platform about1 = true :=
  (Spec.applies_iff w_frames).mpr ⟨w_running, w_runnable, w_alone, w_named, w_hears, w_ripe, w_room, w_tables⟩
theorem atStart : AtStart classFile x code maxLocals ret World_1 tables_1 room_1 Calls_1 rest_1 Pre_1 launch0 p0 e0 about1 theMethod args0 below0 :=
  ⟨lists_1, trivial, launch0.admits_env _ _ _, launch0.least_env, fairChoices_fair.cas, fairChoices_fair.clock, w_frames, w_args, w_heap, w_applies, trivial, trivial, w_case⟩
end start1
theorem witness_1 : WitnessClaimed_1 := ⟨start1.p0, start1.e0, start1.about1, start1.theMethod, start1.args0, start1.below0, start1.atStart⟩
end Jvm.Pilot.@@N@@
