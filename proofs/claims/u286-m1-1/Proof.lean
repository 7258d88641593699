import JvmDerived
import JvmDerived.Pilot.@@N@@Statement
import JvmDerived.Pilot.@@N@@Code
set_option linter.unusedVariables false
set_option linter.unusedSimpArgs false
namespace Jvm.RoadKit
open Sem ClassFile Op Lib Jvm.Stand Jvm.Free Jvm.LawKit
section New
variable {p : Program} {l : Launch} {e : Env} {R : Room} {s : State} {m : MethodId} {args : Array Value} {below : List Frame} {meth : Method} {c : Code} {T : State} {locs : List Loc} {cells slots : Nat}
theorem retI (X : Stand p l e R s m args below meth c T locs cells slots) (hx : p.tables.exec = Jvm.exec) {pc : Nat} {Ls : Array Slot} {z : Int32} {rest : List Value} (hret : meth.sig.returnType = some .int) (hd : decode c.code pc = .ok (.ireturn, 1)) {fs : List Frame}
    (hl : ∀ (f : JFrame) (acts : List Action), f.method = m → f.locked = none → f.entered = [] → (doReturn e (T.setTop f) acts (some (.int z))).1 = T.setFrames fs) : Steps p.tables e below (T.setTop (mkF m pc Ls (.int z :: rest))) (T.setFrames fs) :=
  retOut X hx hret rfl (Or.inl ⟨rfl, Or.inl rfl, z, rfl⟩) hd hl
end New
end Jvm.RoadKit
namespace Jvm.Pilot.@@N@@
open Jvm Jvm.ClassFile Sem Op Lib Jvm.Free Jvm.Stand Jvm.LawKit Jvm.RoadKit Bundle Jvm.Pilot.@@N@@.Jvm.D
/-! small laws of this text's own -/
theorem own_eqv {args : Array Value} {first s : State} {o : Option Outcome} {idx : List Nat} {a b : Term} {v : Value} (h : (Jvm.Cond.eq a b).value args first o s idx = some true) (hb : b.eval args first o idx s = some v) : a.eval args first o idx s = some v := by
  cases ha : a.eval args first o idx s with
  | none => simp [Cond.value, ha] at h
  | some x => cases x <;> cases v <;> simp_all [Cond.value]
theorem own_fld {args : Array Value} {s : State} {t b : Term} {x : Addr} {C n d : String} {v : Value} (ht : t.eval args s none [] s = some (.ref x)) (h : (Jvm.Cond.eq (.field t C n d) b).value args s none s [] = some true) (hb : b.eval args s none [] s = some v) : Fld s s.heap x C n d v :=
  Fld.start ((fld_at ht).symm.trans (own_eqv h hb))
theorem own_len {args : Array Value} {s : State} {t : Term} {x : Addr} {c : Cell} {n : Int32} (ht : t.eval args s none [] s = some (.ref x)) (hc : s.heap[x]? = some c) (h : (Jvm.Cond.eq (.length t) (.int n)).value args s none s [] = some true) : c.slots.size < 2 ^ 31 ∧ c.slots.size.toInt32 = n := by
  have e := own_eqv h (v := .int n) rfl
  simp only [Term.eval, ht, Option.bind_eq_bind, Option.bind_some] at e
  cases hq : s.arrayAt? x with
  | none => simp [hq] at e
  | some c' =>
    have h1 := (State.arrayAt?_spec hq).1
    cases hc.symm.trans h1
    simp only [hq, Option.bind_some] at e
    split at e
    · rename_i hl; exact ⟨hl, by simpa using e⟩
    · cases e
theorem own_elem {args : Array Value} {s : State} {t b : Term} {x : Addr} {c : Cell} {j : Int32} {v : Value} (ht : t.eval args s none [] s = some (.ref x)) (hc : s.heap[x]? = some c) (h : (Jvm.Cond.eq (.elem t (.int j)) b).value args s none s [] = some true) (hb : b.eval args s none [] s = some v) : c.slots[j.toNatClampNeg]? = some v :=
  (elem_in (own_eqv h hb) ht rfl hc).2
theorem own_selpriv {y : MethodName} {s : State} {args : Array Value} {n : Nat} (hy : y.cls ≠ "java/lang/invoke/MethodHandle" ∧ y.cls ≠ "java/lang/invoke/VarHandle") (hins : (Jvm.Cond.instantiable y.cls n).before args s = true) (hpriv : (Jvm.Cond.privateMethod y).before args s = true) (hinst : (Jvm.Cond.instanceMethod y).before args s = true) : (Jvm.Cond.selects y.cls y y).before args s = true := by
  obtain ⟨c, k, hc, hk, -, hniab, -, -⟩ := Cond.instantiable_spec hins
  exact Stand.selects_self_of_private hc hk (Bool.or_eq_false_iff.mp hniab).1 (Cond.privateMethod_at hpriv) hinst hy
theorem own_ext {h0 h : Heap} (K : Keep h0 h []) : Ext h0 h := ⟨K.1, fun x c q => K.2.1 x c q (fun z => nomatch z)⟩
theorem own_cat1 {v : Value} (h : v.isRef = true) : v.category = 1 := by cases v <;> first | rfl | simp [Value.isRef] at h
theorem own_narref {t : FieldType} {v : Value} (h : t.isReference = true) (hv : v.isRef = true) : narrow t v = v := by
  cases v <;> first | (simp [Value.isRef] at hv; done) | (cases t <;> first | rfl | simp [FieldType.isReference] at h)
theorem own_store1 {l : Array Slot} {i : Nat} {v : Value} {o : Slot} (hold : l[i]? = some o) (ho : o = .unset ∨ ∃ w, o = .val w ∧ w.category = 1) (hv : v.category = 1) : storeLocals l i v = some (l.setIfInBounds i (.val v)) := XS.store1 hold ho hv
def own_Base (Z : State) (u : Nat → Addr) : Prop :=
  (Sta Z Z.heap "com/example/smazzata/smazzata/card/Rank" "FOUR" "Lcom/example/smazzata/smazzata/card/Rank;" (.ref (u 0))) ∧
  (Exa Z Z.heap (u 0) "com/example/smazzata/smazzata/card/Rank") ∧
  (Sta Z Z.heap "com/example/smazzata/smazzata/card/Rank" "$VALUES" "[Lcom/example/smazzata/smazzata/card/Rank;" (.ref (u 1))) ∧
  (Exa Z Z.heap (u 1) "[Lcom/example/smazzata/smazzata/card/Rank;") ∧
  (Sta Z Z.heap "com/example/smazzata/smazzata/card/Rank" "ACE" "Lcom/example/smazzata/smazzata/card/Rank;" (.ref (u 2))) ∧
  (Exa Z Z.heap (u 2) "com/example/smazzata/smazzata/card/Rank") ∧
  (Sta Z Z.heap "com/example/smazzata/smazzata/card/Rank" "TWO" "Lcom/example/smazzata/smazzata/card/Rank;" (.ref (u 3))) ∧
  (Exa Z Z.heap (u 3) "com/example/smazzata/smazzata/card/Rank") ∧
  (Sta Z Z.heap "com/example/smazzata/smazzata/card/Rank" "THREE" "Lcom/example/smazzata/smazzata/card/Rank;" (.ref (u 4))) ∧
  (Exa Z Z.heap (u 4) "com/example/smazzata/smazzata/card/Rank") ∧
  (Sta Z Z.heap "com/example/smazzata/smazzata/card/Rank" "FIVE" "Lcom/example/smazzata/smazzata/card/Rank;" (.ref (u 5))) ∧
  (Exa Z Z.heap (u 5) "com/example/smazzata/smazzata/card/Rank") ∧
  (Sta Z Z.heap "com/example/smazzata/smazzata/card/Rank" "SIX" "Lcom/example/smazzata/smazzata/card/Rank;" (.ref (u 6))) ∧
  (Exa Z Z.heap (u 6) "com/example/smazzata/smazzata/card/Rank") ∧
  (Sta Z Z.heap "com/example/smazzata/smazzata/card/Rank" "SEVEN" "Lcom/example/smazzata/smazzata/card/Rank;" (.ref (u 7))) ∧
  (Exa Z Z.heap (u 7) "com/example/smazzata/smazzata/card/Rank") ∧
  (Sta Z Z.heap "com/example/smazzata/smazzata/card/Rank" "JACK" "Lcom/example/smazzata/smazzata/card/Rank;" (.ref (u 8))) ∧
  (Exa Z Z.heap (u 8) "com/example/smazzata/smazzata/card/Rank") ∧
  (Sta Z Z.heap "com/example/smazzata/smazzata/card/Rank" "QUEEN" "Lcom/example/smazzata/smazzata/card/Rank;" (.ref (u 9))) ∧
  (Exa Z Z.heap (u 9) "com/example/smazzata/smazzata/card/Rank") ∧
  (Sta Z Z.heap "com/example/smazzata/smazzata/card/Rank" "KING" "Lcom/example/smazzata/smazzata/card/Rank;" (.ref (u 10))) ∧
  (Exa Z Z.heap (u 10) "com/example/smazzata/smazzata/card/Rank") ∧
  (Fld Z Z.heap (u 0) "com/example/smazzata/smazzata/card/Rank" "code" "C" (.int (52 : Int32))) ∧
  (∃ k, Arv Z Z.heap (u 1) k (.object "com/example/smazzata/smazzata/card/Rank") (10 : Int32) [.ref (u 2), .ref (u 3), .ref (u 4), .ref (u 0), .ref (u 5), .ref (u 6), .ref (u 7), .ref (u 8), .ref (u 9), .ref (u 10)] .null) ∧
  (Fld Z Z.heap (u 2) "com/example/smazzata/smazzata/card/Rank" "code" "C" (.int (65 : Int32))) ∧
  (Fld Z Z.heap (u 3) "com/example/smazzata/smazzata/card/Rank" "code" "C" (.int (50 : Int32))) ∧
  (Fld Z Z.heap (u 4) "com/example/smazzata/smazzata/card/Rank" "code" "C" (.int (51 : Int32))) ∧
  (Fld Z Z.heap (u 5) "com/example/smazzata/smazzata/card/Rank" "code" "C" (.int (53 : Int32))) ∧
  (Fld Z Z.heap (u 6) "com/example/smazzata/smazzata/card/Rank" "code" "C" (.int (54 : Int32))) ∧
  (Fld Z Z.heap (u 7) "com/example/smazzata/smazzata/card/Rank" "code" "C" (.int (55 : Int32))) ∧
  (Fld Z Z.heap (u 8) "com/example/smazzata/smazzata/card/Rank" "code" "C" (.int (74 : Int32))) ∧
  (Fld Z Z.heap (u 9) "com/example/smazzata/smazzata/card/Rank" "code" "C" (.int (81 : Int32))) ∧
  (Fld Z Z.heap (u 10) "com/example/smazzata/smazzata/card/Rank" "code" "C" (.int (75 : Int32)))
theorem own_pd0 : parseMethodDescriptor "()[Lcom/example/smazzata/smazzata/card/Rank;" = some ⟨[], some (.array (.object "com/example/smazzata/smazzata/card/Rank"))⟩ := by decide +kernel
theorem own_pd1 : parseMethodDescriptor "(C)Lcom/example/smazzata/smazzata/card/Rank;" = some ⟨[.char], some (.object "com/example/smazzata/smazzata/card/Rank")⟩ := by decide +kernel
theorem d3_0 : decode prog_12_method_1_code 0 = .ok (.getstatic 34, 3) := by decide +kernel
theorem d3_3 : decode prog_12_method_1_code 3 = .ok (.invokevirtual 38, 3) := by decide +kernel
theorem d3_6 : decode prog_12_method_1_code 6 = .ok (.checkcast 39, 3) := by decide +kernel
theorem d3_9 : decode prog_12_method_1_code 9 = .ok (.areturn, 1) := by decide +kernel
theorem own_pn_3 : plainName "com/example/smazzata/smazzata/card/Rank" = true := by first | (simp [plainName, overriddenIn]; done) | decide +kernel
theorem own_ef_3 (m : MethodId)  : entryFrame m #[] 0 = mkF m 0 #[] [] := by first | (simp [entryFrame, mkF, argsToLocals, Value.category]; done) | rfl
def own_Q3 (Z : State) (u : Nat → Addr)  (h0 : Heap) (n0 : Nat) (v : Option Value) (h : Heap) (L : List Loc) : Prop := ∃ b : Addr, v = some (.ref b) ∧ Fr n0 L ∧ Ext h0 h ∧ n0 ≤ b ∧ h0.size ≤ b ∧ ∃ k, Arv Z h b k (.object "com/example/smazzata/smazzata/card/Rank") (10 : Int32) [.ref (u 2), .ref (u 3), .ref (u 4), .ref (u 0), .ref (u 5), .ref (u 6), .ref (u 7), .ref (u 8), .ref (u 9), .ref (u 10)] .null
set_option maxRecDepth 65536 in
set_option maxHeartbeats 40000000 in
theorem rm3 (l : Launch) (Z : State) (a0 : Array Value) (hw : ∀ d ∈ tables_1, d.before a0 Z = true) (ws : List Jvm.Cond) (u : Nat → Addr)  (B : own_Base Z u) (h0 : Heap) (n0 : Nat) (O : Old Z n0 h0) :
    MetFree l (⟨"com/example/smazzata/smazzata/card/Rank", "values", "()[Lcom/example/smazzata/smazzata/card/Rank;"⟩ : MethodName) (head1 (Jvm.Cond.code (⟨"com/example/smazzata/smazzata/card/Rank", "values", "()[Lcom/example/smazzata/smazzata/card/Rank;"⟩ : MethodName) prog_12_method_1_code 0 (some (.array (.object "com/example/smazzata/smazzata/card/Rank"))) :: ws) ({ frames := 1, cells := 1, slots := 10, locals := 14 } : Room)) (fun a U => a = #[] ∧ Z.Warmed39 U.vm ∧ U.heap = h0) (fun _ _ _ _ _ => True) (fun _ U o U' => ∃ v L, o = .returned v ∧ own_Q3 Z u  h0 n0 v U'.heap L ∧ FrameEnd U o U' L ({ frames := 1, cells := 1, slots := 10, locals := 14 } : Room).cells ({ frames := 1, cells := 1, slots := 10, locals := 14 } : Room).slots) := by
  refine MetFree.of_bodySF (plainFor_of_name own_pn_3) hisR ?_
  intro p e s m args below meth c s₁ Bd hml0 hP hK
  obtain ⟨rfl, hZ, hh⟩ := hP
  have hx := Bd.exec
  have hby := Bd.bytes
  have hml : c.maxLocals = 0 := hml0
  have hown : s.vm.findClass "com/example/smazzata/smazzata/card/Rank" = some m.cls := findClass_of_methodNamed Bd.named
  have hnm := (name_of_methodNamed Bd.named Bd.method).1
  have X0 : Stand p l e ({ frames := 1, cells := 1, slots := 10, locals := 14 } : Room) s m #[] below meth c s₁ [] 0 0 := Stand.of_body Bd
  have e0 : s₁.heap = h0 := by rw [← hh, Bd.state]; rfl
  have N0 := Fr.nil n0
  have K0 := Keep.refl h0 []
  have Z0 : n0 ≤ h0.size := O.1 ▸ O.2.1
  have pre0 : ∀ t, Steps p.tables e below (s₁.setTop (mkF m 0 #[] [])) t → Steps p.tables e below (s₁.setTop (entryFrame m #[] 0)) t := fun t k => castTop (own_ef_3 m ) k
  obtain ⟨T1, X1, e1, st1⟩ := getS2 X0 hx hZ hown (host := "") (Or.inl (hw _ (List.mem_of_getElem? (i := 14) rfl))) Via.refl e0 (B.2.2.1.ext O.2) (g := (mkF m 0 #[] [])) rfl (hb hby d3_0)
  obtain ⟨kA1, VA1⟩ := id B.2.2.2.2.2.2.2.2.2.2.2.2.2.2.2.2.2.2.2.2.2.2.2.1
  obtain ⟨T2, h2, X2, e2, E2, A2, G2, st2⟩ := cloneH X1 hx hZ hown (hw _ (List.mem_of_getElem? (i := 16) rfl)) (hw _ (List.mem_of_getElem? (i := 17) rfl)) (hw _ (List.mem_of_getElem? (i := 21) rfl)) (hw _ (List.mem_of_getElem? (i := 19) rfl)) (hw _ (List.mem_of_getElem? (i := 20) rfl)) (hw _ (List.mem_of_getElem? (i := 22) rfl)) e1 (Arv.arh (VA1.ext O.2)) (B.2.2.2.1.ext O.2) (g := (mkF m 3 #[] [(.ref (u 1))])) rfl (by rw [hml]; rfl) rfl (hb hby d3_3) (by decide) (W := 0) (cap := 10) (by show 2 * 0 + _ ≤ _; exact Nat.le_of_eq rfl) (by decide) (by decide) (by decide) (by decide)
  obtain ⟨b2, g2⟩ : ∃ z, z = h0.size := ⟨_, rfl⟩
  rw [← g2] at A2 G2 st2
  have gx_b2 : n0 ≤ b2 := Nat.le_trans (O.1 ▸ O.2.1) (Nat.le_of_eq g2.symm)
  have sz_b2 : h0.size ≤ b2 := Nat.le_trans K0.1 (Nat.le_of_eq g2.symm)
  have O2 := O.ext E2
  have K2 := K0.ext E2
  have V_b2 : Arv Z h2 b2 kA1 (.object "com/example/smazzata/smazzata/card/Rank") (10 : Int32) [.ref (u 2), .ref (u 3), .ref (u 4), .ref (u 0), .ref (u 5), .ref (u 6), .ref (u 7), .ref (u 8), .ref (u 9), .ref (u 10)] .null := A2
  obtain ⟨T3, X3, e3, st3⟩ := castY X2 hx hZ hown (hw _ (List.mem_of_getElem? (i := 33) rfl)) e2 (Ins.self G2) (g := (mkF m 6 #[] [(.ref b2)])) rfl rfl (hb hby d3_6)
  obtain ⟨fs, hr, hrun, hended, hW, hsame⟩ := X3.leave (v := some (.ref b2)) (fun h => by rw [Bd.returns] at h; cases h)
  refine ⟨_, _, pre0 _ ?_, hrun, hended, _, _, rfl, ?_, ⟨_, rfl⟩, hW, hsame.mono (by decide) (by decide)⟩
  · show Steps p.tables e below (s₁.setTop (mkF m 0 #[] [])) _
    refine st1 _ ?_
    show Steps p.tables e below (T1.setTop (mkF m 3 #[] [(.ref (u 1))])) _
    refine st2 _ ?_
    show Steps p.tables e below (T2.setTop (mkF m 6 #[] [(.ref b2)])) _
    refine st3 _ ?_
    show Steps p.tables e below (T3.setTop (mkF m 9 #[] [(.ref b2)])) _
    exact retOut X3 hx Bd.returns (own_narref rfl rfl) (Or.inr (Or.inr (Or.inr (Or.inr ⟨rfl, rfl, rfl⟩)))) (hb hby d3_9) hr
  · show own_Q3 Z u  h0 n0 _ T3.heap _
    rw [e3]
    exact ⟨b2, rfl, N0, own_ext K2, gx_b2, sz_b2, _, V_b2⟩
theorem d2_0 : decode prog_12_method_6_code 0 = .ok (.invokestatic 61, 3) := by decide +kernel
theorem d2_3 : decode prog_12_method_6_code 3 = .ok (.astore_n 1, 1) := by decide +kernel
theorem d2_4 : decode prog_12_method_6_code 4 = .ok (.aload_n 1, 1) := by decide +kernel
theorem d2_5 : decode prog_12_method_6_code 5 = .ok (.arraylength, 1) := by decide +kernel
theorem d2_6 : decode prog_12_method_6_code 6 = .ok (.istore_n 2, 1) := by decide +kernel
theorem d2_7 : decode prog_12_method_6_code 7 = .ok (.iconst 0, 1) := by decide +kernel
theorem d2_8 : decode prog_12_method_6_code 8 = .ok (.istore_n 3, 1) := by decide +kernel
theorem d2_9 : decode prog_12_method_6_code 9 = .ok (.iload_n 3, 1) := by decide +kernel
theorem d2_10 : decode prog_12_method_6_code 10 = .ok (.iload_n 2, 1) := by decide +kernel
theorem d2_11 : decode prog_12_method_6_code 11 = .ok (.if_icmp .ge 26, 3) := by decide +kernel
theorem d2_14 : decode prog_12_method_6_code 14 = .ok (.aload_n 1, 1) := by decide +kernel
theorem d2_15 : decode prog_12_method_6_code 15 = .ok (.iload_n 3, 1) := by decide +kernel
theorem d2_16 : decode prog_12_method_6_code 16 = .ok (.aaload, 1) := by decide +kernel
theorem d2_17 : decode prog_12_method_6_code 17 = .ok (.astore 4, 2) := by decide +kernel
theorem d2_19 : decode prog_12_method_6_code 19 = .ok (.aload 4, 2) := by decide +kernel
theorem d2_21 : decode prog_12_method_6_code 21 = .ok (.getfield 53, 3) := by decide +kernel
theorem d2_24 : decode prog_12_method_6_code 24 = .ok (.iload_n 0, 1) := by decide +kernel
theorem d2_25 : decode prog_12_method_6_code 25 = .ok (.if_icmp .ne 6, 3) := by decide +kernel
theorem d2_28 : decode prog_12_method_6_code 28 = .ok (.aload 4, 2) := by decide +kernel
theorem d2_30 : decode prog_12_method_6_code 30 = .ok (.areturn, 1) := by decide +kernel
theorem d2_31 : decode prog_12_method_6_code 31 = .ok (.iinc 3 1, 3) := by decide +kernel
theorem d2_34 : decode prog_12_method_6_code 34 = .ok (.goto (-25), 3) := by decide +kernel
theorem d2_37 : decode prog_12_method_6_code 37 = .ok (.aconst_null, 1) := by decide +kernel
theorem d2_38 : decode prog_12_method_6_code 38 = .ok (.areturn, 1) := by decide +kernel
theorem own_pn_2 : plainName "com/example/smazzata/smazzata/card/Rank" = true := by first | (simp [plainName, overriddenIn]; done) | decide +kernel
theorem own_ef_2 (m : MethodId) (x0 : Int32) : entryFrame m #[(.int x0)] 5 = mkF m 0 #[.val (.int x0), .unset, .unset, .unset, .unset] [] := by first | (simp [entryFrame, mkF, argsToLocals, Value.category]; done) | rfl
def own_r2 (u : Nat → Addr) (p0 : Int32) : Value :=
  if (65 : Int32) = p0 then
    (.ref (u 2))
  else
    if (50 : Int32) = p0 then
      (.ref (u 3))
    else
      if (51 : Int32) = p0 then
        (.ref (u 4))
      else
        if (52 : Int32) = p0 then
          (.ref (u 0))
        else
          if (53 : Int32) = p0 then
            (.ref (u 5))
          else
            if (54 : Int32) = p0 then
              (.ref (u 6))
            else
              if (55 : Int32) = p0 then
                (.ref (u 7))
              else
                if (74 : Int32) = p0 then
                  (.ref (u 8))
                else
                  if (81 : Int32) = p0 then
                    (.ref (u 9))
                  else
                    if (75 : Int32) = p0 then
                      (.ref (u 10))
                    else
                      .null
theorem own_r2_ref {u : Nat → Addr} {p0 : Int32} : (own_r2 u p0).isRef = true := by
  unfold own_r2
  repeat' split
  all_goals rfl
def own_Q2 (Z : State) (u : Nat → Addr) (p0 : Int32) (h0 : Heap) (n0 : Nat) (v : Option Value) (h : Heap) (L : List Loc) : Prop := v = some (own_r2 u p0) ∧ Fr n0 L ∧ Ext h0 h
set_option maxRecDepth 65536 in
set_option maxHeartbeats 40000000 in
theorem rm2 (l : Launch) (Z : State) (a0 : Array Value) (hw : ∀ d ∈ tables_1, d.before a0 Z = true) (ws : List Jvm.Cond) (u : Nat → Addr) (p0 : Int32) (B : own_Base Z u) (h0 : Heap) (n0 : Nat) (O : Old Z n0 h0) :
    MetFree l (⟨"com/example/smazzata/smazzata/card/Rank", "fromCode", "(C)Lcom/example/smazzata/smazzata/card/Rank;"⟩ : MethodName) (head1 (Jvm.Cond.code (⟨"com/example/smazzata/smazzata/card/Rank", "fromCode", "(C)Lcom/example/smazzata/smazzata/card/Rank;"⟩ : MethodName) prog_12_method_6_code 5 (some (.object "com/example/smazzata/smazzata/card/Rank")) :: ws) ({ frames := 2, cells := 1, slots := 10, locals := 25 } : Room)) (fun a U => a = #[(.int p0)] ∧ Z.Warmed39 U.vm ∧ U.heap = h0) (fun _ _ _ _ _ => True) (fun _ U o U' => ∃ v L, o = .returned v ∧ own_Q2 Z u p0 h0 n0 v U'.heap L ∧ FrameEnd U o U' L ({ frames := 2, cells := 1, slots := 10, locals := 25 } : Room).cells ({ frames := 2, cells := 1, slots := 10, locals := 25 } : Room).slots) := by
  refine MetFree.of_bodySF (plainFor_of_name own_pn_2) hisR ?_
  intro p e s m args below meth c s₁ Bd hml0 hP hK
  obtain ⟨rfl, hZ, hh⟩ := hP
  have hx := Bd.exec
  have hby := Bd.bytes
  have hml : c.maxLocals = 5 := hml0
  have hown : s.vm.findClass "com/example/smazzata/smazzata/card/Rank" = some m.cls := findClass_of_methodNamed Bd.named
  have hnm := (name_of_methodNamed Bd.named Bd.method).1
  have X0 : Stand p l e ({ frames := 2, cells := 1, slots := 10, locals := 25 } : Room) s m #[(.int p0)] below meth c s₁ [] 0 0 := Stand.of_body Bd
  have e0 : s₁.heap = h0 := by rw [← hh, Bd.state]; rfl
  have N0 := Fr.nil n0
  have K0 := Keep.refl h0 []
  have Z0 : n0 ≤ h0.size := O.1 ▸ O.2.1
  have pre0 : ∀ t, Steps p.tables e below (s₁.setTop (mkF m 0 #[.val (.int p0), .unset, .unset, .unset, .unset] [])) t → Steps p.tables e below (s₁.setTop (entryFrame m #[(.int p0)] 5)) t := fun t k => castTop (own_ef_2 m p0) k
  obtain ⟨vr5, _, ⟨T5, L5, k5, n5⟩, -, X5, ⟨Lc5, hQ5, l5, y5, z5⟩, st5⟩ := Jvm.LawKit.callS X0 hx (y := (⟨"com/example/smazzata/smazzata/card/Rank", "values", "()[Lcom/example/smazzata/smazzata/card/Rank;"⟩ : MethodName)) hown (mvT hZ (hw _ (List.mem_of_getElem? (i := 11) rfl))) (mvT hZ (hw _ (List.mem_of_getElem? (i := 12) rfl))) (mvT hZ (hw _ (List.mem_of_getElem? (i := 6) rfl))) (mvT hZ (hw _ (List.mem_of_getElem? (i := 13) rfl))) (by decide) (backOf (W := 0) (rm3 l Z a0 hw [] u  B h0 n0 O ) hZ (hw _ (List.mem_of_getElem? (i := 13) rfl)) (hw _ (List.mem_of_getElem? (i := 6) rfl)) (by decide) (by decide)) (g := (mkF m 0 #[.val (.int p0), .unset, .unset, .unset, .unset] [])) rfl (by rw [hml]; rfl) (argsL := []) (rest := []) (lenOf own_pd0 rfl) rfl (by show 2 * 0 + _ ≤ _; exact Nat.le_of_eq rfl) (hb hby d2_0) (fun _ _ => ⟨rfl, e0, (by decide : 0 + 1 ≤ _), (by decide : 0 + 10 ≤ _)⟩)
  dsimp only [Pt.U, Pt.locs, Pt.cells, Pt.slots] at X5 l5 y5 z5 st5 hQ5
  subst l5 y5 z5
  obtain ⟨b5, rfl, N5q, E5, gx_b5, zz5, k5v, V_b5⟩ := hQ5
  have N5 := Fr.app N0 N5q
  have sz_b5 : h0.size ≤ b5 := Nat.le_trans K0.1 zz5
  have O5 := O.ext E5
  have K5 := K0.ext E5
  obtain ⟨cl6, Ar6, -, S6, N6, -, -⟩ := id V_b5
  obtain ⟨cl7, Ar7, -, S7, N7, H7, -⟩ := id V_b5
  have hin7 : ¬ ((0 : Int32) < 0 ∨ cl7.slots.size ≤ ((0 : Int32)).toNatClampNeg) := inb_of S7 ⟨by decide, by decide⟩
  obtain ⟨T8, X8, e8, st8⟩ := getF X5 hx hZ hown (host := "") (Or.inl (hw _ (List.mem_of_getElem? (i := 35) rfl))) Via.refl rfl (B.2.2.2.2.2.2.2.2.2.2.2.2.2.2.2.2.2.2.2.2.2.2.2.2.1.ext O5.2) (g := (mkF m 21 #[.val (.int p0), .val (.ref b5), .val (.int (10 : Int32)), .val (.int (0 : Int32)), .val (.ref (u 2))] [(.ref (u 2))])) rfl rfl (hb hby d2_21)
  have pre9 : ∀ t, Steps p.tables e below (T8.setTop (mkF m 25 #[.val (.int p0), .val (.ref b5), .val (.int (10 : Int32)), .val (.int (0 : Int32)), .val (.ref (u 2))] [(.int p0), (.int (65 : Int32))])) t → Steps p.tables e below (s₁.setTop (entryFrame m #[(.int p0)] 5)) t := fun t kt => pre0 t (by
    show Steps p.tables e below (s₁.setTop (mkF m 0 #[.val (.int p0), .unset, .unset, .unset, .unset] [])) _
    refine st5 _ ?_
    show Steps p.tables e below (T5.setTop (mkF m 3 #[.val (.int p0), .unset, .unset, .unset, .unset] [(.ref b5)])) _
    refine XS.astoreN X5.here hx rfl (hb hby d2_3) rfl rfl (l' := #[.val (.int p0), .val (.ref b5), .unset, .unset, .unset]) rfl ?_
    show Steps p.tables e below (T5.setTop (mkF m 4 #[.val (.int p0), .val (.ref b5), .unset, .unset, .unset] [])) _
    refine XS.aloadN X5.here hx rfl (hb hby d2_4) rfl rfl ?_
    show Steps p.tables e below (T5.setTop (mkF m 5 #[.val (.int p0), .val (.ref b5), .unset, .unset, .unset] [(.ref b5)])) _
    refine X5.arraylength hx Ar6.1 (State.isArrayOf_alike hZ.alike Ar6.2.1) (g := (mkF m 5 #[.val (.int p0), .val (.ref b5), .unset, .unset, .unset] [(.ref b5)])) rfl rfl (hb hby d2_5) _ ?_
    rw [len_of S6 N6]
    show Steps p.tables e below (T5.setTop (mkF m 6 #[.val (.int p0), .val (.ref b5), .unset, .unset, .unset] [(.int (10 : Int32))])) _
    refine XS.istoreN X5.here hx rfl (hb hby d2_6) rfl (l' := #[.val (.int p0), .val (.ref b5), .val (.int (10 : Int32)), .unset, .unset]) rfl ?_
    show Steps p.tables e below (T5.setTop (mkF m 7 #[.val (.int p0), .val (.ref b5), .val (.int (10 : Int32)), .unset, .unset] [])) _
    refine XS.iconst X5.here hx rfl (hb hby d2_7) ?_
    show Steps p.tables e below (T5.setTop (mkF m 8 #[.val (.int p0), .val (.ref b5), .val (.int (10 : Int32)), .unset, .unset] [(.int (0 : Int32))])) _
    refine XS.istoreN X5.here hx rfl (hb hby d2_8) rfl (l' := #[.val (.int p0), .val (.ref b5), .val (.int (10 : Int32)), .val (.int (0 : Int32)), .unset]) rfl ?_
    show Steps p.tables e below (T5.setTop (mkF m 9 #[.val (.int p0), .val (.ref b5), .val (.int (10 : Int32)), .val (.int (0 : Int32)), .unset] [])) _
    refine XS.iloadN X5.here hx rfl (hb hby d2_9) rfl ?_
    show Steps p.tables e below (T5.setTop (mkF m 10 #[.val (.int p0), .val (.ref b5), .val (.int (10 : Int32)), .val (.int (0 : Int32)), .unset] [(.int (0 : Int32))])) _
    refine XS.iloadN X5.here hx rfl (hb hby d2_10) rfl ?_
    show Steps p.tables e below (T5.setTop (mkF m 11 #[.val (.int p0), .val (.ref b5), .val (.int (10 : Int32)), .val (.int (0 : Int32)), .unset] [(.int (10 : Int32)), (.int (0 : Int32))])) _
    refine XS.icmpNo X5.here hx rfl (hb hby d2_11) rfl (tlt (by decide : (0 : Int32) < (10 : Int32))).2.1 ?_
    show Steps p.tables e below (T5.setTop (mkF m 14 #[.val (.int p0), .val (.ref b5), .val (.int (10 : Int32)), .val (.int (0 : Int32)), .unset] [])) _
    refine XS.aloadN X5.here hx rfl (hb hby d2_14) rfl rfl ?_
    show Steps p.tables e below (T5.setTop (mkF m 15 #[.val (.int p0), .val (.ref b5), .val (.int (10 : Int32)), .val (.int (0 : Int32)), .unset] [(.ref b5)])) _
    refine XS.iloadN X5.here hx rfl (hb hby d2_15) rfl ?_
    show Steps p.tables e below (T5.setTop (mkF m 16 #[.val (.int p0), .val (.ref b5), .val (.int (10 : Int32)), .val (.int (0 : Int32)), .unset] [(.int (0 : Int32)), (.ref b5)])) _
    refine X5.aaload hx (j := (0 : Int32)) (v := (.ref (u 2))) Ar7.1 (State.isArrayOf_alike hZ.alike Ar7.2.1) rfl Ar7.2.2 hin7 (H7.at hin7 rfl) (g := (mkF m 16 #[.val (.int p0), .val (.ref b5), .val (.int (10 : Int32)), .val (.int (0 : Int32)), .unset] [(.int (0 : Int32)), (.ref b5)])) rfl rfl (hb hby d2_16) _ ?_
    show Steps p.tables e below (T5.setTop (mkF m 17 #[.val (.int p0), .val (.ref b5), .val (.int (10 : Int32)), .val (.int (0 : Int32)), .unset] [(.ref (u 2))])) _
    refine XS.astore X5.here hx rfl (hb hby d2_17) rfl rfl (l' := #[.val (.int p0), .val (.ref b5), .val (.int (10 : Int32)), .val (.int (0 : Int32)), .val (.ref (u 2))]) rfl ?_
    show Steps p.tables e below (T5.setTop (mkF m 19 #[.val (.int p0), .val (.ref b5), .val (.int (10 : Int32)), .val (.int (0 : Int32)), .val (.ref (u 2))] [])) _
    refine XS.aload X5.here hx rfl (hb hby d2_19) rfl rfl ?_
    show Steps p.tables e below (T5.setTop (mkF m 21 #[.val (.int p0), .val (.ref b5), .val (.int (10 : Int32)), .val (.int (0 : Int32)), .val (.ref (u 2))] [(.ref (u 2))])) _
    refine st8 _ ?_
    show Steps p.tables e below (T8.setTop (mkF m 24 #[.val (.int p0), .val (.ref b5), .val (.int (10 : Int32)), .val (.int (0 : Int32)), .val (.ref (u 2))] [(.int (65 : Int32))])) _
    refine XS.iloadN X8.here hx rfl (hb hby d2_24) rfl ?_
    exact kt)
  by_cases hc10 : (65 : Int32) = p0
  · --
    obtain ⟨fs, hr, hrun, hended, hW, hsame⟩ := X8.leave (v := some (.ref (u 2))) (fun h => by rw [Bd.returns] at h; cases h)
    refine ⟨_, _, pre9 _ ?_, hrun, hended, _, _, rfl, ?_, ⟨_, rfl⟩, hW, hsame.mono (by decide) (by decide)⟩
    · show Steps p.tables e below (T8.setTop (mkF m 25 #[.val (.int p0), .val (.ref b5), .val (.int (10 : Int32)), .val (.int (0 : Int32)), .val (.ref (u 2))] [(.int p0), (.int (65 : Int32))])) _
      refine XS.icmpNo X8.here hx rfl (hb hby d2_25) rfl (teq hc10).2 ?_
      show Steps p.tables e below (T8.setTop (mkF m 28 #[.val (.int p0), .val (.ref b5), .val (.int (10 : Int32)), .val (.int (0 : Int32)), .val (.ref (u 2))] [])) _
      refine XS.aload X8.here hx rfl (hb hby d2_28) rfl rfl ?_
      show Steps p.tables e below (T8.setTop (mkF m 30 #[.val (.int p0), .val (.ref b5), .val (.int (10 : Int32)), .val (.int (0 : Int32)), .val (.ref (u 2))] [(.ref (u 2))])) _
      exact retOut X8 hx Bd.returns (own_narref rfl rfl) (Or.inr (Or.inr (Or.inr (Or.inr ⟨rfl, rfl, rfl⟩)))) (hb hby d2_30) hr
    · show own_Q2 Z u p0 h0 n0 _ T8.heap _
      rw [e8]
      exact ⟨(by unfold own_r2; rw [if_pos hc10]), N5, own_ext K5⟩
  · --
    obtain ⟨cl12, Ar12, -, S12, N12, H12, -⟩ := id V_b5
    have hin12 : ¬ ((1 : Int32) < 0 ∨ cl12.slots.size ≤ ((1 : Int32)).toNatClampNeg) := inb_of S12 ⟨by decide, by decide⟩
    obtain ⟨T13, X13, e13, st13⟩ := getF X8 hx hZ hown (host := "") (Or.inl (hw _ (List.mem_of_getElem? (i := 35) rfl))) Via.refl e8 (B.2.2.2.2.2.2.2.2.2.2.2.2.2.2.2.2.2.2.2.2.2.2.2.2.2.1.ext O5.2) (g := (mkF m 21 #[.val (.int p0), .val (.ref b5), .val (.int (10 : Int32)), .val (.int (1 : Int32)), .val (.ref (u 3))] [(.ref (u 3))])) rfl rfl (hb hby d2_21)
    have pre14 : ∀ t, Steps p.tables e below (T13.setTop (mkF m 25 #[.val (.int p0), .val (.ref b5), .val (.int (10 : Int32)), .val (.int (1 : Int32)), .val (.ref (u 3))] [(.int p0), (.int (50 : Int32))])) t → Steps p.tables e below (s₁.setTop (entryFrame m #[(.int p0)] 5)) t := fun t kt => pre9 t (by
      show Steps p.tables e below (T8.setTop (mkF m 25 #[.val (.int p0), .val (.ref b5), .val (.int (10 : Int32)), .val (.int (0 : Int32)), .val (.ref (u 2))] [(.int p0), (.int (65 : Int32))])) _
      refine XS.icmpYes X8.here hx rfl (pc0 := 25) (pc' := 31) rfl (hb hby d2_25) rfl (feq hc10).2 (by decide) (by decide) ?_
      show Steps p.tables e below (T8.setTop (mkF m 31 #[.val (.int p0), .val (.ref b5), .val (.int (10 : Int32)), .val (.int (0 : Int32)), .val (.ref (u 2))] [])) _
      refine XS.iinc X8.here hx rfl (hb hby d2_31) rfl (l' := #[.val (.int p0), .val (.ref b5), .val (.int (10 : Int32)), .val (.int (1 : Int32)), .val (.ref (u 2))]) rfl ?_
      show Steps p.tables e below (T8.setTop (mkF m 34 #[.val (.int p0), .val (.ref b5), .val (.int (10 : Int32)), .val (.int (1 : Int32)), .val (.ref (u 2))] [])) _
      refine XS.goto X8.here hx rfl (pc0 := 34) (pc' := 9) rfl (hb hby d2_34) (by decide) (by decide) ?_
      show Steps p.tables e below (T8.setTop (mkF m 9 #[.val (.int p0), .val (.ref b5), .val (.int (10 : Int32)), .val (.int (1 : Int32)), .val (.ref (u 2))] [])) _
      refine XS.iloadN X8.here hx rfl (hb hby d2_9) rfl ?_
      show Steps p.tables e below (T8.setTop (mkF m 10 #[.val (.int p0), .val (.ref b5), .val (.int (10 : Int32)), .val (.int (1 : Int32)), .val (.ref (u 2))] [(.int (1 : Int32))])) _
      refine XS.iloadN X8.here hx rfl (hb hby d2_10) rfl ?_
      show Steps p.tables e below (T8.setTop (mkF m 11 #[.val (.int p0), .val (.ref b5), .val (.int (10 : Int32)), .val (.int (1 : Int32)), .val (.ref (u 2))] [(.int (10 : Int32)), (.int (1 : Int32))])) _
      refine XS.icmpNo X8.here hx rfl (hb hby d2_11) rfl (tlt (by decide : (1 : Int32) < (10 : Int32))).2.1 ?_
      show Steps p.tables e below (T8.setTop (mkF m 14 #[.val (.int p0), .val (.ref b5), .val (.int (10 : Int32)), .val (.int (1 : Int32)), .val (.ref (u 2))] [])) _
      refine XS.aloadN X8.here hx rfl (hb hby d2_14) rfl rfl ?_
      show Steps p.tables e below (T8.setTop (mkF m 15 #[.val (.int p0), .val (.ref b5), .val (.int (10 : Int32)), .val (.int (1 : Int32)), .val (.ref (u 2))] [(.ref b5)])) _
      refine XS.iloadN X8.here hx rfl (hb hby d2_15) rfl ?_
      show Steps p.tables e below (T8.setTop (mkF m 16 #[.val (.int p0), .val (.ref b5), .val (.int (10 : Int32)), .val (.int (1 : Int32)), .val (.ref (u 2))] [(.int (1 : Int32)), (.ref b5)])) _
      refine X8.aaload hx (j := (1 : Int32)) (v := (.ref (u 3))) (by rw [e8]; exact Ar12.1) (State.isArrayOf_alike hZ.alike Ar12.2.1) rfl Ar12.2.2 hin12 (H12.at hin12 rfl) (g := (mkF m 16 #[.val (.int p0), .val (.ref b5), .val (.int (10 : Int32)), .val (.int (1 : Int32)), .val (.ref (u 2))] [(.int (1 : Int32)), (.ref b5)])) rfl rfl (hb hby d2_16) _ ?_
      show Steps p.tables e below (T8.setTop (mkF m 17 #[.val (.int p0), .val (.ref b5), .val (.int (10 : Int32)), .val (.int (1 : Int32)), .val (.ref (u 2))] [(.ref (u 3))])) _
      refine XS.astore X8.here hx rfl (hb hby d2_17) rfl rfl (l' := #[.val (.int p0), .val (.ref b5), .val (.int (10 : Int32)), .val (.int (1 : Int32)), .val (.ref (u 3))]) rfl ?_
      show Steps p.tables e below (T8.setTop (mkF m 19 #[.val (.int p0), .val (.ref b5), .val (.int (10 : Int32)), .val (.int (1 : Int32)), .val (.ref (u 3))] [])) _
      refine XS.aload X8.here hx rfl (hb hby d2_19) rfl rfl ?_
      show Steps p.tables e below (T8.setTop (mkF m 21 #[.val (.int p0), .val (.ref b5), .val (.int (10 : Int32)), .val (.int (1 : Int32)), .val (.ref (u 3))] [(.ref (u 3))])) _
      refine st13 _ ?_
      show Steps p.tables e below (T13.setTop (mkF m 24 #[.val (.int p0), .val (.ref b5), .val (.int (10 : Int32)), .val (.int (1 : Int32)), .val (.ref (u 3))] [(.int (50 : Int32))])) _
      refine XS.iloadN X13.here hx rfl (hb hby d2_24) rfl ?_
      exact kt)
    by_cases hc15 : (50 : Int32) = p0
    · --
      obtain ⟨fs, hr, hrun, hended, hW, hsame⟩ := X13.leave (v := some (.ref (u 3))) (fun h => by rw [Bd.returns] at h; cases h)
      refine ⟨_, _, pre14 _ ?_, hrun, hended, _, _, rfl, ?_, ⟨_, rfl⟩, hW, hsame.mono (by decide) (by decide)⟩
      · show Steps p.tables e below (T13.setTop (mkF m 25 #[.val (.int p0), .val (.ref b5), .val (.int (10 : Int32)), .val (.int (1 : Int32)), .val (.ref (u 3))] [(.int p0), (.int (50 : Int32))])) _
        refine XS.icmpNo X13.here hx rfl (hb hby d2_25) rfl (teq hc15).2 ?_
        show Steps p.tables e below (T13.setTop (mkF m 28 #[.val (.int p0), .val (.ref b5), .val (.int (10 : Int32)), .val (.int (1 : Int32)), .val (.ref (u 3))] [])) _
        refine XS.aload X13.here hx rfl (hb hby d2_28) rfl rfl ?_
        show Steps p.tables e below (T13.setTop (mkF m 30 #[.val (.int p0), .val (.ref b5), .val (.int (10 : Int32)), .val (.int (1 : Int32)), .val (.ref (u 3))] [(.ref (u 3))])) _
        exact retOut X13 hx Bd.returns (own_narref rfl rfl) (Or.inr (Or.inr (Or.inr (Or.inr ⟨rfl, rfl, rfl⟩)))) (hb hby d2_30) hr
      · show own_Q2 Z u p0 h0 n0 _ T13.heap _
        rw [e13]
        exact ⟨(by unfold own_r2; rw [if_neg hc10, if_pos hc15]), N5, own_ext K5⟩
    · --
      obtain ⟨cl17, Ar17, -, S17, N17, H17, -⟩ := id V_b5
      have hin17 : ¬ ((2 : Int32) < 0 ∨ cl17.slots.size ≤ ((2 : Int32)).toNatClampNeg) := inb_of S17 ⟨by decide, by decide⟩
      obtain ⟨T18, X18, e18, st18⟩ := getF X13 hx hZ hown (host := "") (Or.inl (hw _ (List.mem_of_getElem? (i := 35) rfl))) Via.refl e13 (B.2.2.2.2.2.2.2.2.2.2.2.2.2.2.2.2.2.2.2.2.2.2.2.2.2.2.1.ext O5.2) (g := (mkF m 21 #[.val (.int p0), .val (.ref b5), .val (.int (10 : Int32)), .val (.int (2 : Int32)), .val (.ref (u 4))] [(.ref (u 4))])) rfl rfl (hb hby d2_21)
      have pre19 : ∀ t, Steps p.tables e below (T18.setTop (mkF m 25 #[.val (.int p0), .val (.ref b5), .val (.int (10 : Int32)), .val (.int (2 : Int32)), .val (.ref (u 4))] [(.int p0), (.int (51 : Int32))])) t → Steps p.tables e below (s₁.setTop (entryFrame m #[(.int p0)] 5)) t := fun t kt => pre14 t (by
        show Steps p.tables e below (T13.setTop (mkF m 25 #[.val (.int p0), .val (.ref b5), .val (.int (10 : Int32)), .val (.int (1 : Int32)), .val (.ref (u 3))] [(.int p0), (.int (50 : Int32))])) _
        refine XS.icmpYes X13.here hx rfl (pc0 := 25) (pc' := 31) rfl (hb hby d2_25) rfl (feq hc15).2 (by decide) (by decide) ?_
        show Steps p.tables e below (T13.setTop (mkF m 31 #[.val (.int p0), .val (.ref b5), .val (.int (10 : Int32)), .val (.int (1 : Int32)), .val (.ref (u 3))] [])) _
        refine XS.iinc X13.here hx rfl (hb hby d2_31) rfl (l' := #[.val (.int p0), .val (.ref b5), .val (.int (10 : Int32)), .val (.int (2 : Int32)), .val (.ref (u 3))]) rfl ?_
        show Steps p.tables e below (T13.setTop (mkF m 34 #[.val (.int p0), .val (.ref b5), .val (.int (10 : Int32)), .val (.int (2 : Int32)), .val (.ref (u 3))] [])) _
        refine XS.goto X13.here hx rfl (pc0 := 34) (pc' := 9) rfl (hb hby d2_34) (by decide) (by decide) ?_
        show Steps p.tables e below (T13.setTop (mkF m 9 #[.val (.int p0), .val (.ref b5), .val (.int (10 : Int32)), .val (.int (2 : Int32)), .val (.ref (u 3))] [])) _
        refine XS.iloadN X13.here hx rfl (hb hby d2_9) rfl ?_
        show Steps p.tables e below (T13.setTop (mkF m 10 #[.val (.int p0), .val (.ref b5), .val (.int (10 : Int32)), .val (.int (2 : Int32)), .val (.ref (u 3))] [(.int (2 : Int32))])) _
        refine XS.iloadN X13.here hx rfl (hb hby d2_10) rfl ?_
        show Steps p.tables e below (T13.setTop (mkF m 11 #[.val (.int p0), .val (.ref b5), .val (.int (10 : Int32)), .val (.int (2 : Int32)), .val (.ref (u 3))] [(.int (10 : Int32)), (.int (2 : Int32))])) _
        refine XS.icmpNo X13.here hx rfl (hb hby d2_11) rfl (tlt (by decide : (2 : Int32) < (10 : Int32))).2.1 ?_
        show Steps p.tables e below (T13.setTop (mkF m 14 #[.val (.int p0), .val (.ref b5), .val (.int (10 : Int32)), .val (.int (2 : Int32)), .val (.ref (u 3))] [])) _
        refine XS.aloadN X13.here hx rfl (hb hby d2_14) rfl rfl ?_
        show Steps p.tables e below (T13.setTop (mkF m 15 #[.val (.int p0), .val (.ref b5), .val (.int (10 : Int32)), .val (.int (2 : Int32)), .val (.ref (u 3))] [(.ref b5)])) _
        refine XS.iloadN X13.here hx rfl (hb hby d2_15) rfl ?_
        show Steps p.tables e below (T13.setTop (mkF m 16 #[.val (.int p0), .val (.ref b5), .val (.int (10 : Int32)), .val (.int (2 : Int32)), .val (.ref (u 3))] [(.int (2 : Int32)), (.ref b5)])) _
        refine X13.aaload hx (j := (2 : Int32)) (v := (.ref (u 4))) (by rw [e13]; exact Ar17.1) (State.isArrayOf_alike hZ.alike Ar17.2.1) rfl Ar17.2.2 hin17 (H17.at hin17 rfl) (g := (mkF m 16 #[.val (.int p0), .val (.ref b5), .val (.int (10 : Int32)), .val (.int (2 : Int32)), .val (.ref (u 3))] [(.int (2 : Int32)), (.ref b5)])) rfl rfl (hb hby d2_16) _ ?_
        show Steps p.tables e below (T13.setTop (mkF m 17 #[.val (.int p0), .val (.ref b5), .val (.int (10 : Int32)), .val (.int (2 : Int32)), .val (.ref (u 3))] [(.ref (u 4))])) _
        refine XS.astore X13.here hx rfl (hb hby d2_17) rfl rfl (l' := #[.val (.int p0), .val (.ref b5), .val (.int (10 : Int32)), .val (.int (2 : Int32)), .val (.ref (u 4))]) rfl ?_
        show Steps p.tables e below (T13.setTop (mkF m 19 #[.val (.int p0), .val (.ref b5), .val (.int (10 : Int32)), .val (.int (2 : Int32)), .val (.ref (u 4))] [])) _
        refine XS.aload X13.here hx rfl (hb hby d2_19) rfl rfl ?_
        show Steps p.tables e below (T13.setTop (mkF m 21 #[.val (.int p0), .val (.ref b5), .val (.int (10 : Int32)), .val (.int (2 : Int32)), .val (.ref (u 4))] [(.ref (u 4))])) _
        refine st18 _ ?_
        show Steps p.tables e below (T18.setTop (mkF m 24 #[.val (.int p0), .val (.ref b5), .val (.int (10 : Int32)), .val (.int (2 : Int32)), .val (.ref (u 4))] [(.int (51 : Int32))])) _
        refine XS.iloadN X18.here hx rfl (hb hby d2_24) rfl ?_
        exact kt)
      by_cases hc20 : (51 : Int32) = p0
      · --
        obtain ⟨fs, hr, hrun, hended, hW, hsame⟩ := X18.leave (v := some (.ref (u 4))) (fun h => by rw [Bd.returns] at h; cases h)
        refine ⟨_, _, pre19 _ ?_, hrun, hended, _, _, rfl, ?_, ⟨_, rfl⟩, hW, hsame.mono (by decide) (by decide)⟩
        · show Steps p.tables e below (T18.setTop (mkF m 25 #[.val (.int p0), .val (.ref b5), .val (.int (10 : Int32)), .val (.int (2 : Int32)), .val (.ref (u 4))] [(.int p0), (.int (51 : Int32))])) _
          refine XS.icmpNo X18.here hx rfl (hb hby d2_25) rfl (teq hc20).2 ?_
          show Steps p.tables e below (T18.setTop (mkF m 28 #[.val (.int p0), .val (.ref b5), .val (.int (10 : Int32)), .val (.int (2 : Int32)), .val (.ref (u 4))] [])) _
          refine XS.aload X18.here hx rfl (hb hby d2_28) rfl rfl ?_
          show Steps p.tables e below (T18.setTop (mkF m 30 #[.val (.int p0), .val (.ref b5), .val (.int (10 : Int32)), .val (.int (2 : Int32)), .val (.ref (u 4))] [(.ref (u 4))])) _
          exact retOut X18 hx Bd.returns (own_narref rfl rfl) (Or.inr (Or.inr (Or.inr (Or.inr ⟨rfl, rfl, rfl⟩)))) (hb hby d2_30) hr
        · show own_Q2 Z u p0 h0 n0 _ T18.heap _
          rw [e18]
          exact ⟨(by unfold own_r2; rw [if_neg hc10, if_neg hc15, if_pos hc20]), N5, own_ext K5⟩
      · --
        obtain ⟨cl22, Ar22, -, S22, N22, H22, -⟩ := id V_b5
        have hin22 : ¬ ((3 : Int32) < 0 ∨ cl22.slots.size ≤ ((3 : Int32)).toNatClampNeg) := inb_of S22 ⟨by decide, by decide⟩
        obtain ⟨T23, X23, e23, st23⟩ := getF X18 hx hZ hown (host := "") (Or.inl (hw _ (List.mem_of_getElem? (i := 35) rfl))) Via.refl e18 (B.2.2.2.2.2.2.2.2.2.2.2.2.2.2.2.2.2.2.2.2.2.2.1.ext O5.2) (g := (mkF m 21 #[.val (.int p0), .val (.ref b5), .val (.int (10 : Int32)), .val (.int (3 : Int32)), .val (.ref (u 0))] [(.ref (u 0))])) rfl rfl (hb hby d2_21)
        have pre24 : ∀ t, Steps p.tables e below (T23.setTop (mkF m 25 #[.val (.int p0), .val (.ref b5), .val (.int (10 : Int32)), .val (.int (3 : Int32)), .val (.ref (u 0))] [(.int p0), (.int (52 : Int32))])) t → Steps p.tables e below (s₁.setTop (entryFrame m #[(.int p0)] 5)) t := fun t kt => pre19 t (by
          show Steps p.tables e below (T18.setTop (mkF m 25 #[.val (.int p0), .val (.ref b5), .val (.int (10 : Int32)), .val (.int (2 : Int32)), .val (.ref (u 4))] [(.int p0), (.int (51 : Int32))])) _
          refine XS.icmpYes X18.here hx rfl (pc0 := 25) (pc' := 31) rfl (hb hby d2_25) rfl (feq hc20).2 (by decide) (by decide) ?_
          show Steps p.tables e below (T18.setTop (mkF m 31 #[.val (.int p0), .val (.ref b5), .val (.int (10 : Int32)), .val (.int (2 : Int32)), .val (.ref (u 4))] [])) _
          refine XS.iinc X18.here hx rfl (hb hby d2_31) rfl (l' := #[.val (.int p0), .val (.ref b5), .val (.int (10 : Int32)), .val (.int (3 : Int32)), .val (.ref (u 4))]) rfl ?_
          show Steps p.tables e below (T18.setTop (mkF m 34 #[.val (.int p0), .val (.ref b5), .val (.int (10 : Int32)), .val (.int (3 : Int32)), .val (.ref (u 4))] [])) _
          refine XS.goto X18.here hx rfl (pc0 := 34) (pc' := 9) rfl (hb hby d2_34) (by decide) (by decide) ?_
          show Steps p.tables e below (T18.setTop (mkF m 9 #[.val (.int p0), .val (.ref b5), .val (.int (10 : Int32)), .val (.int (3 : Int32)), .val (.ref (u 4))] [])) _
          refine XS.iloadN X18.here hx rfl (hb hby d2_9) rfl ?_
          show Steps p.tables e below (T18.setTop (mkF m 10 #[.val (.int p0), .val (.ref b5), .val (.int (10 : Int32)), .val (.int (3 : Int32)), .val (.ref (u 4))] [(.int (3 : Int32))])) _
          refine XS.iloadN X18.here hx rfl (hb hby d2_10) rfl ?_
          show Steps p.tables e below (T18.setTop (mkF m 11 #[.val (.int p0), .val (.ref b5), .val (.int (10 : Int32)), .val (.int (3 : Int32)), .val (.ref (u 4))] [(.int (10 : Int32)), (.int (3 : Int32))])) _
          refine XS.icmpNo X18.here hx rfl (hb hby d2_11) rfl (tlt (by decide : (3 : Int32) < (10 : Int32))).2.1 ?_
          show Steps p.tables e below (T18.setTop (mkF m 14 #[.val (.int p0), .val (.ref b5), .val (.int (10 : Int32)), .val (.int (3 : Int32)), .val (.ref (u 4))] [])) _
          refine XS.aloadN X18.here hx rfl (hb hby d2_14) rfl rfl ?_
          show Steps p.tables e below (T18.setTop (mkF m 15 #[.val (.int p0), .val (.ref b5), .val (.int (10 : Int32)), .val (.int (3 : Int32)), .val (.ref (u 4))] [(.ref b5)])) _
          refine XS.iloadN X18.here hx rfl (hb hby d2_15) rfl ?_
          show Steps p.tables e below (T18.setTop (mkF m 16 #[.val (.int p0), .val (.ref b5), .val (.int (10 : Int32)), .val (.int (3 : Int32)), .val (.ref (u 4))] [(.int (3 : Int32)), (.ref b5)])) _
          refine X18.aaload hx (j := (3 : Int32)) (v := (.ref (u 0))) (by rw [e18]; exact Ar22.1) (State.isArrayOf_alike hZ.alike Ar22.2.1) rfl Ar22.2.2 hin22 (H22.at hin22 rfl) (g := (mkF m 16 #[.val (.int p0), .val (.ref b5), .val (.int (10 : Int32)), .val (.int (3 : Int32)), .val (.ref (u 4))] [(.int (3 : Int32)), (.ref b5)])) rfl rfl (hb hby d2_16) _ ?_
          show Steps p.tables e below (T18.setTop (mkF m 17 #[.val (.int p0), .val (.ref b5), .val (.int (10 : Int32)), .val (.int (3 : Int32)), .val (.ref (u 4))] [(.ref (u 0))])) _
          refine XS.astore X18.here hx rfl (hb hby d2_17) rfl rfl (l' := #[.val (.int p0), .val (.ref b5), .val (.int (10 : Int32)), .val (.int (3 : Int32)), .val (.ref (u 0))]) rfl ?_
          show Steps p.tables e below (T18.setTop (mkF m 19 #[.val (.int p0), .val (.ref b5), .val (.int (10 : Int32)), .val (.int (3 : Int32)), .val (.ref (u 0))] [])) _
          refine XS.aload X18.here hx rfl (hb hby d2_19) rfl rfl ?_
          show Steps p.tables e below (T18.setTop (mkF m 21 #[.val (.int p0), .val (.ref b5), .val (.int (10 : Int32)), .val (.int (3 : Int32)), .val (.ref (u 0))] [(.ref (u 0))])) _
          refine st23 _ ?_
          show Steps p.tables e below (T23.setTop (mkF m 24 #[.val (.int p0), .val (.ref b5), .val (.int (10 : Int32)), .val (.int (3 : Int32)), .val (.ref (u 0))] [(.int (52 : Int32))])) _
          refine XS.iloadN X23.here hx rfl (hb hby d2_24) rfl ?_
          exact kt)
        by_cases hc25 : (52 : Int32) = p0
        · --
          obtain ⟨fs, hr, hrun, hended, hW, hsame⟩ := X23.leave (v := some (.ref (u 0))) (fun h => by rw [Bd.returns] at h; cases h)
          refine ⟨_, _, pre24 _ ?_, hrun, hended, _, _, rfl, ?_, ⟨_, rfl⟩, hW, hsame.mono (by decide) (by decide)⟩
          · show Steps p.tables e below (T23.setTop (mkF m 25 #[.val (.int p0), .val (.ref b5), .val (.int (10 : Int32)), .val (.int (3 : Int32)), .val (.ref (u 0))] [(.int p0), (.int (52 : Int32))])) _
            refine XS.icmpNo X23.here hx rfl (hb hby d2_25) rfl (teq hc25).2 ?_
            show Steps p.tables e below (T23.setTop (mkF m 28 #[.val (.int p0), .val (.ref b5), .val (.int (10 : Int32)), .val (.int (3 : Int32)), .val (.ref (u 0))] [])) _
            refine XS.aload X23.here hx rfl (hb hby d2_28) rfl rfl ?_
            show Steps p.tables e below (T23.setTop (mkF m 30 #[.val (.int p0), .val (.ref b5), .val (.int (10 : Int32)), .val (.int (3 : Int32)), .val (.ref (u 0))] [(.ref (u 0))])) _
            exact retOut X23 hx Bd.returns (own_narref rfl rfl) (Or.inr (Or.inr (Or.inr (Or.inr ⟨rfl, rfl, rfl⟩)))) (hb hby d2_30) hr
          · show own_Q2 Z u p0 h0 n0 _ T23.heap _
            rw [e23]
            exact ⟨(by unfold own_r2; rw [if_neg hc10, if_neg hc15, if_neg hc20, if_pos hc25]), N5, own_ext K5⟩
        · --
          obtain ⟨cl27, Ar27, -, S27, N27, H27, -⟩ := id V_b5
          have hin27 : ¬ ((4 : Int32) < 0 ∨ cl27.slots.size ≤ ((4 : Int32)).toNatClampNeg) := inb_of S27 ⟨by decide, by decide⟩
          obtain ⟨T28, X28, e28, st28⟩ := getF X23 hx hZ hown (host := "") (Or.inl (hw _ (List.mem_of_getElem? (i := 35) rfl))) Via.refl e23 (B.2.2.2.2.2.2.2.2.2.2.2.2.2.2.2.2.2.2.2.2.2.2.2.2.2.2.2.1.ext O5.2) (g := (mkF m 21 #[.val (.int p0), .val (.ref b5), .val (.int (10 : Int32)), .val (.int (4 : Int32)), .val (.ref (u 5))] [(.ref (u 5))])) rfl rfl (hb hby d2_21)
          have pre29 : ∀ t, Steps p.tables e below (T28.setTop (mkF m 25 #[.val (.int p0), .val (.ref b5), .val (.int (10 : Int32)), .val (.int (4 : Int32)), .val (.ref (u 5))] [(.int p0), (.int (53 : Int32))])) t → Steps p.tables e below (s₁.setTop (entryFrame m #[(.int p0)] 5)) t := fun t kt => pre24 t (by
            show Steps p.tables e below (T23.setTop (mkF m 25 #[.val (.int p0), .val (.ref b5), .val (.int (10 : Int32)), .val (.int (3 : Int32)), .val (.ref (u 0))] [(.int p0), (.int (52 : Int32))])) _
            refine XS.icmpYes X23.here hx rfl (pc0 := 25) (pc' := 31) rfl (hb hby d2_25) rfl (feq hc25).2 (by decide) (by decide) ?_
            show Steps p.tables e below (T23.setTop (mkF m 31 #[.val (.int p0), .val (.ref b5), .val (.int (10 : Int32)), .val (.int (3 : Int32)), .val (.ref (u 0))] [])) _
            refine XS.iinc X23.here hx rfl (hb hby d2_31) rfl (l' := #[.val (.int p0), .val (.ref b5), .val (.int (10 : Int32)), .val (.int (4 : Int32)), .val (.ref (u 0))]) rfl ?_
            show Steps p.tables e below (T23.setTop (mkF m 34 #[.val (.int p0), .val (.ref b5), .val (.int (10 : Int32)), .val (.int (4 : Int32)), .val (.ref (u 0))] [])) _
            refine XS.goto X23.here hx rfl (pc0 := 34) (pc' := 9) rfl (hb hby d2_34) (by decide) (by decide) ?_
            show Steps p.tables e below (T23.setTop (mkF m 9 #[.val (.int p0), .val (.ref b5), .val (.int (10 : Int32)), .val (.int (4 : Int32)), .val (.ref (u 0))] [])) _
            refine XS.iloadN X23.here hx rfl (hb hby d2_9) rfl ?_
            show Steps p.tables e below (T23.setTop (mkF m 10 #[.val (.int p0), .val (.ref b5), .val (.int (10 : Int32)), .val (.int (4 : Int32)), .val (.ref (u 0))] [(.int (4 : Int32))])) _
            refine XS.iloadN X23.here hx rfl (hb hby d2_10) rfl ?_
            show Steps p.tables e below (T23.setTop (mkF m 11 #[.val (.int p0), .val (.ref b5), .val (.int (10 : Int32)), .val (.int (4 : Int32)), .val (.ref (u 0))] [(.int (10 : Int32)), (.int (4 : Int32))])) _
            refine XS.icmpNo X23.here hx rfl (hb hby d2_11) rfl (tlt (by decide : (4 : Int32) < (10 : Int32))).2.1 ?_
            show Steps p.tables e below (T23.setTop (mkF m 14 #[.val (.int p0), .val (.ref b5), .val (.int (10 : Int32)), .val (.int (4 : Int32)), .val (.ref (u 0))] [])) _
            refine XS.aloadN X23.here hx rfl (hb hby d2_14) rfl rfl ?_
            show Steps p.tables e below (T23.setTop (mkF m 15 #[.val (.int p0), .val (.ref b5), .val (.int (10 : Int32)), .val (.int (4 : Int32)), .val (.ref (u 0))] [(.ref b5)])) _
            refine XS.iloadN X23.here hx rfl (hb hby d2_15) rfl ?_
            show Steps p.tables e below (T23.setTop (mkF m 16 #[.val (.int p0), .val (.ref b5), .val (.int (10 : Int32)), .val (.int (4 : Int32)), .val (.ref (u 0))] [(.int (4 : Int32)), (.ref b5)])) _
            refine X23.aaload hx (j := (4 : Int32)) (v := (.ref (u 5))) (by rw [e23]; exact Ar27.1) (State.isArrayOf_alike hZ.alike Ar27.2.1) rfl Ar27.2.2 hin27 (H27.at hin27 rfl) (g := (mkF m 16 #[.val (.int p0), .val (.ref b5), .val (.int (10 : Int32)), .val (.int (4 : Int32)), .val (.ref (u 0))] [(.int (4 : Int32)), (.ref b5)])) rfl rfl (hb hby d2_16) _ ?_
            show Steps p.tables e below (T23.setTop (mkF m 17 #[.val (.int p0), .val (.ref b5), .val (.int (10 : Int32)), .val (.int (4 : Int32)), .val (.ref (u 0))] [(.ref (u 5))])) _
            refine XS.astore X23.here hx rfl (hb hby d2_17) rfl rfl (l' := #[.val (.int p0), .val (.ref b5), .val (.int (10 : Int32)), .val (.int (4 : Int32)), .val (.ref (u 5))]) rfl ?_
            show Steps p.tables e below (T23.setTop (mkF m 19 #[.val (.int p0), .val (.ref b5), .val (.int (10 : Int32)), .val (.int (4 : Int32)), .val (.ref (u 5))] [])) _
            refine XS.aload X23.here hx rfl (hb hby d2_19) rfl rfl ?_
            show Steps p.tables e below (T23.setTop (mkF m 21 #[.val (.int p0), .val (.ref b5), .val (.int (10 : Int32)), .val (.int (4 : Int32)), .val (.ref (u 5))] [(.ref (u 5))])) _
            refine st28 _ ?_
            show Steps p.tables e below (T28.setTop (mkF m 24 #[.val (.int p0), .val (.ref b5), .val (.int (10 : Int32)), .val (.int (4 : Int32)), .val (.ref (u 5))] [(.int (53 : Int32))])) _
            refine XS.iloadN X28.here hx rfl (hb hby d2_24) rfl ?_
            exact kt)
          by_cases hc30 : (53 : Int32) = p0
          · --
            obtain ⟨fs, hr, hrun, hended, hW, hsame⟩ := X28.leave (v := some (.ref (u 5))) (fun h => by rw [Bd.returns] at h; cases h)
            refine ⟨_, _, pre29 _ ?_, hrun, hended, _, _, rfl, ?_, ⟨_, rfl⟩, hW, hsame.mono (by decide) (by decide)⟩
            · show Steps p.tables e below (T28.setTop (mkF m 25 #[.val (.int p0), .val (.ref b5), .val (.int (10 : Int32)), .val (.int (4 : Int32)), .val (.ref (u 5))] [(.int p0), (.int (53 : Int32))])) _
              refine XS.icmpNo X28.here hx rfl (hb hby d2_25) rfl (teq hc30).2 ?_
              show Steps p.tables e below (T28.setTop (mkF m 28 #[.val (.int p0), .val (.ref b5), .val (.int (10 : Int32)), .val (.int (4 : Int32)), .val (.ref (u 5))] [])) _
              refine XS.aload X28.here hx rfl (hb hby d2_28) rfl rfl ?_
              show Steps p.tables e below (T28.setTop (mkF m 30 #[.val (.int p0), .val (.ref b5), .val (.int (10 : Int32)), .val (.int (4 : Int32)), .val (.ref (u 5))] [(.ref (u 5))])) _
              exact retOut X28 hx Bd.returns (own_narref rfl rfl) (Or.inr (Or.inr (Or.inr (Or.inr ⟨rfl, rfl, rfl⟩)))) (hb hby d2_30) hr
            · show own_Q2 Z u p0 h0 n0 _ T28.heap _
              rw [e28]
              exact ⟨(by unfold own_r2; rw [if_neg hc10, if_neg hc15, if_neg hc20, if_neg hc25, if_pos hc30]), N5, own_ext K5⟩
          · --
            obtain ⟨cl32, Ar32, -, S32, N32, H32, -⟩ := id V_b5
            have hin32 : ¬ ((5 : Int32) < 0 ∨ cl32.slots.size ≤ ((5 : Int32)).toNatClampNeg) := inb_of S32 ⟨by decide, by decide⟩
            obtain ⟨T33, X33, e33, st33⟩ := getF X28 hx hZ hown (host := "") (Or.inl (hw _ (List.mem_of_getElem? (i := 35) rfl))) Via.refl e28 (B.2.2.2.2.2.2.2.2.2.2.2.2.2.2.2.2.2.2.2.2.2.2.2.2.2.2.2.2.1.ext O5.2) (g := (mkF m 21 #[.val (.int p0), .val (.ref b5), .val (.int (10 : Int32)), .val (.int (5 : Int32)), .val (.ref (u 6))] [(.ref (u 6))])) rfl rfl (hb hby d2_21)
            have pre34 : ∀ t, Steps p.tables e below (T33.setTop (mkF m 25 #[.val (.int p0), .val (.ref b5), .val (.int (10 : Int32)), .val (.int (5 : Int32)), .val (.ref (u 6))] [(.int p0), (.int (54 : Int32))])) t → Steps p.tables e below (s₁.setTop (entryFrame m #[(.int p0)] 5)) t := fun t kt => pre29 t (by
              show Steps p.tables e below (T28.setTop (mkF m 25 #[.val (.int p0), .val (.ref b5), .val (.int (10 : Int32)), .val (.int (4 : Int32)), .val (.ref (u 5))] [(.int p0), (.int (53 : Int32))])) _
              refine XS.icmpYes X28.here hx rfl (pc0 := 25) (pc' := 31) rfl (hb hby d2_25) rfl (feq hc30).2 (by decide) (by decide) ?_
              show Steps p.tables e below (T28.setTop (mkF m 31 #[.val (.int p0), .val (.ref b5), .val (.int (10 : Int32)), .val (.int (4 : Int32)), .val (.ref (u 5))] [])) _
              refine XS.iinc X28.here hx rfl (hb hby d2_31) rfl (l' := #[.val (.int p0), .val (.ref b5), .val (.int (10 : Int32)), .val (.int (5 : Int32)), .val (.ref (u 5))]) rfl ?_
              show Steps p.tables e below (T28.setTop (mkF m 34 #[.val (.int p0), .val (.ref b5), .val (.int (10 : Int32)), .val (.int (5 : Int32)), .val (.ref (u 5))] [])) _
              refine XS.goto X28.here hx rfl (pc0 := 34) (pc' := 9) rfl (hb hby d2_34) (by decide) (by decide) ?_
              show Steps p.tables e below (T28.setTop (mkF m 9 #[.val (.int p0), .val (.ref b5), .val (.int (10 : Int32)), .val (.int (5 : Int32)), .val (.ref (u 5))] [])) _
              refine XS.iloadN X28.here hx rfl (hb hby d2_9) rfl ?_
              show Steps p.tables e below (T28.setTop (mkF m 10 #[.val (.int p0), .val (.ref b5), .val (.int (10 : Int32)), .val (.int (5 : Int32)), .val (.ref (u 5))] [(.int (5 : Int32))])) _
              refine XS.iloadN X28.here hx rfl (hb hby d2_10) rfl ?_
              show Steps p.tables e below (T28.setTop (mkF m 11 #[.val (.int p0), .val (.ref b5), .val (.int (10 : Int32)), .val (.int (5 : Int32)), .val (.ref (u 5))] [(.int (10 : Int32)), (.int (5 : Int32))])) _
              refine XS.icmpNo X28.here hx rfl (hb hby d2_11) rfl (tlt (by decide : (5 : Int32) < (10 : Int32))).2.1 ?_
              show Steps p.tables e below (T28.setTop (mkF m 14 #[.val (.int p0), .val (.ref b5), .val (.int (10 : Int32)), .val (.int (5 : Int32)), .val (.ref (u 5))] [])) _
              refine XS.aloadN X28.here hx rfl (hb hby d2_14) rfl rfl ?_
              show Steps p.tables e below (T28.setTop (mkF m 15 #[.val (.int p0), .val (.ref b5), .val (.int (10 : Int32)), .val (.int (5 : Int32)), .val (.ref (u 5))] [(.ref b5)])) _
              refine XS.iloadN X28.here hx rfl (hb hby d2_15) rfl ?_
              show Steps p.tables e below (T28.setTop (mkF m 16 #[.val (.int p0), .val (.ref b5), .val (.int (10 : Int32)), .val (.int (5 : Int32)), .val (.ref (u 5))] [(.int (5 : Int32)), (.ref b5)])) _
              refine X28.aaload hx (j := (5 : Int32)) (v := (.ref (u 6))) (by rw [e28]; exact Ar32.1) (State.isArrayOf_alike hZ.alike Ar32.2.1) rfl Ar32.2.2 hin32 (H32.at hin32 rfl) (g := (mkF m 16 #[.val (.int p0), .val (.ref b5), .val (.int (10 : Int32)), .val (.int (5 : Int32)), .val (.ref (u 5))] [(.int (5 : Int32)), (.ref b5)])) rfl rfl (hb hby d2_16) _ ?_
              show Steps p.tables e below (T28.setTop (mkF m 17 #[.val (.int p0), .val (.ref b5), .val (.int (10 : Int32)), .val (.int (5 : Int32)), .val (.ref (u 5))] [(.ref (u 6))])) _
              refine XS.astore X28.here hx rfl (hb hby d2_17) rfl rfl (l' := #[.val (.int p0), .val (.ref b5), .val (.int (10 : Int32)), .val (.int (5 : Int32)), .val (.ref (u 6))]) rfl ?_
              show Steps p.tables e below (T28.setTop (mkF m 19 #[.val (.int p0), .val (.ref b5), .val (.int (10 : Int32)), .val (.int (5 : Int32)), .val (.ref (u 6))] [])) _
              refine XS.aload X28.here hx rfl (hb hby d2_19) rfl rfl ?_
              show Steps p.tables e below (T28.setTop (mkF m 21 #[.val (.int p0), .val (.ref b5), .val (.int (10 : Int32)), .val (.int (5 : Int32)), .val (.ref (u 6))] [(.ref (u 6))])) _
              refine st33 _ ?_
              show Steps p.tables e below (T33.setTop (mkF m 24 #[.val (.int p0), .val (.ref b5), .val (.int (10 : Int32)), .val (.int (5 : Int32)), .val (.ref (u 6))] [(.int (54 : Int32))])) _
              refine XS.iloadN X33.here hx rfl (hb hby d2_24) rfl ?_
              exact kt)
            by_cases hc35 : (54 : Int32) = p0
            · --
              obtain ⟨fs, hr, hrun, hended, hW, hsame⟩ := X33.leave (v := some (.ref (u 6))) (fun h => by rw [Bd.returns] at h; cases h)
              refine ⟨_, _, pre34 _ ?_, hrun, hended, _, _, rfl, ?_, ⟨_, rfl⟩, hW, hsame.mono (by decide) (by decide)⟩
              · show Steps p.tables e below (T33.setTop (mkF m 25 #[.val (.int p0), .val (.ref b5), .val (.int (10 : Int32)), .val (.int (5 : Int32)), .val (.ref (u 6))] [(.int p0), (.int (54 : Int32))])) _
                refine XS.icmpNo X33.here hx rfl (hb hby d2_25) rfl (teq hc35).2 ?_
                show Steps p.tables e below (T33.setTop (mkF m 28 #[.val (.int p0), .val (.ref b5), .val (.int (10 : Int32)), .val (.int (5 : Int32)), .val (.ref (u 6))] [])) _
                refine XS.aload X33.here hx rfl (hb hby d2_28) rfl rfl ?_
                show Steps p.tables e below (T33.setTop (mkF m 30 #[.val (.int p0), .val (.ref b5), .val (.int (10 : Int32)), .val (.int (5 : Int32)), .val (.ref (u 6))] [(.ref (u 6))])) _
                exact retOut X33 hx Bd.returns (own_narref rfl rfl) (Or.inr (Or.inr (Or.inr (Or.inr ⟨rfl, rfl, rfl⟩)))) (hb hby d2_30) hr
              · show own_Q2 Z u p0 h0 n0 _ T33.heap _
                rw [e33]
                exact ⟨(by unfold own_r2; rw [if_neg hc10, if_neg hc15, if_neg hc20, if_neg hc25, if_neg hc30, if_pos hc35]), N5, own_ext K5⟩
            · --
              obtain ⟨cl37, Ar37, -, S37, N37, H37, -⟩ := id V_b5
              have hin37 : ¬ ((6 : Int32) < 0 ∨ cl37.slots.size ≤ ((6 : Int32)).toNatClampNeg) := inb_of S37 ⟨by decide, by decide⟩
              obtain ⟨T38, X38, e38, st38⟩ := getF X33 hx hZ hown (host := "") (Or.inl (hw _ (List.mem_of_getElem? (i := 35) rfl))) Via.refl e33 (B.2.2.2.2.2.2.2.2.2.2.2.2.2.2.2.2.2.2.2.2.2.2.2.2.2.2.2.2.2.1.ext O5.2) (g := (mkF m 21 #[.val (.int p0), .val (.ref b5), .val (.int (10 : Int32)), .val (.int (6 : Int32)), .val (.ref (u 7))] [(.ref (u 7))])) rfl rfl (hb hby d2_21)
              have pre39 : ∀ t, Steps p.tables e below (T38.setTop (mkF m 25 #[.val (.int p0), .val (.ref b5), .val (.int (10 : Int32)), .val (.int (6 : Int32)), .val (.ref (u 7))] [(.int p0), (.int (55 : Int32))])) t → Steps p.tables e below (s₁.setTop (entryFrame m #[(.int p0)] 5)) t := fun t kt => pre34 t (by
                show Steps p.tables e below (T33.setTop (mkF m 25 #[.val (.int p0), .val (.ref b5), .val (.int (10 : Int32)), .val (.int (5 : Int32)), .val (.ref (u 6))] [(.int p0), (.int (54 : Int32))])) _
                refine XS.icmpYes X33.here hx rfl (pc0 := 25) (pc' := 31) rfl (hb hby d2_25) rfl (feq hc35).2 (by decide) (by decide) ?_
                show Steps p.tables e below (T33.setTop (mkF m 31 #[.val (.int p0), .val (.ref b5), .val (.int (10 : Int32)), .val (.int (5 : Int32)), .val (.ref (u 6))] [])) _
                refine XS.iinc X33.here hx rfl (hb hby d2_31) rfl (l' := #[.val (.int p0), .val (.ref b5), .val (.int (10 : Int32)), .val (.int (6 : Int32)), .val (.ref (u 6))]) rfl ?_
                show Steps p.tables e below (T33.setTop (mkF m 34 #[.val (.int p0), .val (.ref b5), .val (.int (10 : Int32)), .val (.int (6 : Int32)), .val (.ref (u 6))] [])) _
                refine XS.goto X33.here hx rfl (pc0 := 34) (pc' := 9) rfl (hb hby d2_34) (by decide) (by decide) ?_
                show Steps p.tables e below (T33.setTop (mkF m 9 #[.val (.int p0), .val (.ref b5), .val (.int (10 : Int32)), .val (.int (6 : Int32)), .val (.ref (u 6))] [])) _
                refine XS.iloadN X33.here hx rfl (hb hby d2_9) rfl ?_
                show Steps p.tables e below (T33.setTop (mkF m 10 #[.val (.int p0), .val (.ref b5), .val (.int (10 : Int32)), .val (.int (6 : Int32)), .val (.ref (u 6))] [(.int (6 : Int32))])) _
                refine XS.iloadN X33.here hx rfl (hb hby d2_10) rfl ?_
                show Steps p.tables e below (T33.setTop (mkF m 11 #[.val (.int p0), .val (.ref b5), .val (.int (10 : Int32)), .val (.int (6 : Int32)), .val (.ref (u 6))] [(.int (10 : Int32)), (.int (6 : Int32))])) _
                refine XS.icmpNo X33.here hx rfl (hb hby d2_11) rfl (tlt (by decide : (6 : Int32) < (10 : Int32))).2.1 ?_
                show Steps p.tables e below (T33.setTop (mkF m 14 #[.val (.int p0), .val (.ref b5), .val (.int (10 : Int32)), .val (.int (6 : Int32)), .val (.ref (u 6))] [])) _
                refine XS.aloadN X33.here hx rfl (hb hby d2_14) rfl rfl ?_
                show Steps p.tables e below (T33.setTop (mkF m 15 #[.val (.int p0), .val (.ref b5), .val (.int (10 : Int32)), .val (.int (6 : Int32)), .val (.ref (u 6))] [(.ref b5)])) _
                refine XS.iloadN X33.here hx rfl (hb hby d2_15) rfl ?_
                show Steps p.tables e below (T33.setTop (mkF m 16 #[.val (.int p0), .val (.ref b5), .val (.int (10 : Int32)), .val (.int (6 : Int32)), .val (.ref (u 6))] [(.int (6 : Int32)), (.ref b5)])) _
                refine X33.aaload hx (j := (6 : Int32)) (v := (.ref (u 7))) (by rw [e33]; exact Ar37.1) (State.isArrayOf_alike hZ.alike Ar37.2.1) rfl Ar37.2.2 hin37 (H37.at hin37 rfl) (g := (mkF m 16 #[.val (.int p0), .val (.ref b5), .val (.int (10 : Int32)), .val (.int (6 : Int32)), .val (.ref (u 6))] [(.int (6 : Int32)), (.ref b5)])) rfl rfl (hb hby d2_16) _ ?_
                show Steps p.tables e below (T33.setTop (mkF m 17 #[.val (.int p0), .val (.ref b5), .val (.int (10 : Int32)), .val (.int (6 : Int32)), .val (.ref (u 6))] [(.ref (u 7))])) _
                refine XS.astore X33.here hx rfl (hb hby d2_17) rfl rfl (l' := #[.val (.int p0), .val (.ref b5), .val (.int (10 : Int32)), .val (.int (6 : Int32)), .val (.ref (u 7))]) rfl ?_
                show Steps p.tables e below (T33.setTop (mkF m 19 #[.val (.int p0), .val (.ref b5), .val (.int (10 : Int32)), .val (.int (6 : Int32)), .val (.ref (u 7))] [])) _
                refine XS.aload X33.here hx rfl (hb hby d2_19) rfl rfl ?_
                show Steps p.tables e below (T33.setTop (mkF m 21 #[.val (.int p0), .val (.ref b5), .val (.int (10 : Int32)), .val (.int (6 : Int32)), .val (.ref (u 7))] [(.ref (u 7))])) _
                refine st38 _ ?_
                show Steps p.tables e below (T38.setTop (mkF m 24 #[.val (.int p0), .val (.ref b5), .val (.int (10 : Int32)), .val (.int (6 : Int32)), .val (.ref (u 7))] [(.int (55 : Int32))])) _
                refine XS.iloadN X38.here hx rfl (hb hby d2_24) rfl ?_
                exact kt)
              by_cases hc40 : (55 : Int32) = p0
              · --
                obtain ⟨fs, hr, hrun, hended, hW, hsame⟩ := X38.leave (v := some (.ref (u 7))) (fun h => by rw [Bd.returns] at h; cases h)
                refine ⟨_, _, pre39 _ ?_, hrun, hended, _, _, rfl, ?_, ⟨_, rfl⟩, hW, hsame.mono (by decide) (by decide)⟩
                · show Steps p.tables e below (T38.setTop (mkF m 25 #[.val (.int p0), .val (.ref b5), .val (.int (10 : Int32)), .val (.int (6 : Int32)), .val (.ref (u 7))] [(.int p0), (.int (55 : Int32))])) _
                  refine XS.icmpNo X38.here hx rfl (hb hby d2_25) rfl (teq hc40).2 ?_
                  show Steps p.tables e below (T38.setTop (mkF m 28 #[.val (.int p0), .val (.ref b5), .val (.int (10 : Int32)), .val (.int (6 : Int32)), .val (.ref (u 7))] [])) _
                  refine XS.aload X38.here hx rfl (hb hby d2_28) rfl rfl ?_
                  show Steps p.tables e below (T38.setTop (mkF m 30 #[.val (.int p0), .val (.ref b5), .val (.int (10 : Int32)), .val (.int (6 : Int32)), .val (.ref (u 7))] [(.ref (u 7))])) _
                  exact retOut X38 hx Bd.returns (own_narref rfl rfl) (Or.inr (Or.inr (Or.inr (Or.inr ⟨rfl, rfl, rfl⟩)))) (hb hby d2_30) hr
                · show own_Q2 Z u p0 h0 n0 _ T38.heap _
                  rw [e38]
                  exact ⟨(by unfold own_r2; rw [if_neg hc10, if_neg hc15, if_neg hc20, if_neg hc25, if_neg hc30, if_neg hc35, if_pos hc40]), N5, own_ext K5⟩
              · --
                obtain ⟨cl42, Ar42, -, S42, N42, H42, -⟩ := id V_b5
                have hin42 : ¬ ((7 : Int32) < 0 ∨ cl42.slots.size ≤ ((7 : Int32)).toNatClampNeg) := inb_of S42 ⟨by decide, by decide⟩
                obtain ⟨T43, X43, e43, st43⟩ := getF X38 hx hZ hown (host := "") (Or.inl (hw _ (List.mem_of_getElem? (i := 35) rfl))) Via.refl e38 (B.2.2.2.2.2.2.2.2.2.2.2.2.2.2.2.2.2.2.2.2.2.2.2.2.2.2.2.2.2.2.1.ext O5.2) (g := (mkF m 21 #[.val (.int p0), .val (.ref b5), .val (.int (10 : Int32)), .val (.int (7 : Int32)), .val (.ref (u 8))] [(.ref (u 8))])) rfl rfl (hb hby d2_21)
                have pre44 : ∀ t, Steps p.tables e below (T43.setTop (mkF m 25 #[.val (.int p0), .val (.ref b5), .val (.int (10 : Int32)), .val (.int (7 : Int32)), .val (.ref (u 8))] [(.int p0), (.int (74 : Int32))])) t → Steps p.tables e below (s₁.setTop (entryFrame m #[(.int p0)] 5)) t := fun t kt => pre39 t (by
                  show Steps p.tables e below (T38.setTop (mkF m 25 #[.val (.int p0), .val (.ref b5), .val (.int (10 : Int32)), .val (.int (6 : Int32)), .val (.ref (u 7))] [(.int p0), (.int (55 : Int32))])) _
                  refine XS.icmpYes X38.here hx rfl (pc0 := 25) (pc' := 31) rfl (hb hby d2_25) rfl (feq hc40).2 (by decide) (by decide) ?_
                  show Steps p.tables e below (T38.setTop (mkF m 31 #[.val (.int p0), .val (.ref b5), .val (.int (10 : Int32)), .val (.int (6 : Int32)), .val (.ref (u 7))] [])) _
                  refine XS.iinc X38.here hx rfl (hb hby d2_31) rfl (l' := #[.val (.int p0), .val (.ref b5), .val (.int (10 : Int32)), .val (.int (7 : Int32)), .val (.ref (u 7))]) rfl ?_
                  show Steps p.tables e below (T38.setTop (mkF m 34 #[.val (.int p0), .val (.ref b5), .val (.int (10 : Int32)), .val (.int (7 : Int32)), .val (.ref (u 7))] [])) _
                  refine XS.goto X38.here hx rfl (pc0 := 34) (pc' := 9) rfl (hb hby d2_34) (by decide) (by decide) ?_
                  show Steps p.tables e below (T38.setTop (mkF m 9 #[.val (.int p0), .val (.ref b5), .val (.int (10 : Int32)), .val (.int (7 : Int32)), .val (.ref (u 7))] [])) _
                  refine XS.iloadN X38.here hx rfl (hb hby d2_9) rfl ?_
                  show Steps p.tables e below (T38.setTop (mkF m 10 #[.val (.int p0), .val (.ref b5), .val (.int (10 : Int32)), .val (.int (7 : Int32)), .val (.ref (u 7))] [(.int (7 : Int32))])) _
                  refine XS.iloadN X38.here hx rfl (hb hby d2_10) rfl ?_
                  show Steps p.tables e below (T38.setTop (mkF m 11 #[.val (.int p0), .val (.ref b5), .val (.int (10 : Int32)), .val (.int (7 : Int32)), .val (.ref (u 7))] [(.int (10 : Int32)), (.int (7 : Int32))])) _
                  refine XS.icmpNo X38.here hx rfl (hb hby d2_11) rfl (tlt (by decide : (7 : Int32) < (10 : Int32))).2.1 ?_
                  show Steps p.tables e below (T38.setTop (mkF m 14 #[.val (.int p0), .val (.ref b5), .val (.int (10 : Int32)), .val (.int (7 : Int32)), .val (.ref (u 7))] [])) _
                  refine XS.aloadN X38.here hx rfl (hb hby d2_14) rfl rfl ?_
                  show Steps p.tables e below (T38.setTop (mkF m 15 #[.val (.int p0), .val (.ref b5), .val (.int (10 : Int32)), .val (.int (7 : Int32)), .val (.ref (u 7))] [(.ref b5)])) _
                  refine XS.iloadN X38.here hx rfl (hb hby d2_15) rfl ?_
                  show Steps p.tables e below (T38.setTop (mkF m 16 #[.val (.int p0), .val (.ref b5), .val (.int (10 : Int32)), .val (.int (7 : Int32)), .val (.ref (u 7))] [(.int (7 : Int32)), (.ref b5)])) _
                  refine X38.aaload hx (j := (7 : Int32)) (v := (.ref (u 8))) (by rw [e38]; exact Ar42.1) (State.isArrayOf_alike hZ.alike Ar42.2.1) rfl Ar42.2.2 hin42 (H42.at hin42 rfl) (g := (mkF m 16 #[.val (.int p0), .val (.ref b5), .val (.int (10 : Int32)), .val (.int (7 : Int32)), .val (.ref (u 7))] [(.int (7 : Int32)), (.ref b5)])) rfl rfl (hb hby d2_16) _ ?_
                  show Steps p.tables e below (T38.setTop (mkF m 17 #[.val (.int p0), .val (.ref b5), .val (.int (10 : Int32)), .val (.int (7 : Int32)), .val (.ref (u 7))] [(.ref (u 8))])) _
                  refine XS.astore X38.here hx rfl (hb hby d2_17) rfl rfl (l' := #[.val (.int p0), .val (.ref b5), .val (.int (10 : Int32)), .val (.int (7 : Int32)), .val (.ref (u 8))]) rfl ?_
                  show Steps p.tables e below (T38.setTop (mkF m 19 #[.val (.int p0), .val (.ref b5), .val (.int (10 : Int32)), .val (.int (7 : Int32)), .val (.ref (u 8))] [])) _
                  refine XS.aload X38.here hx rfl (hb hby d2_19) rfl rfl ?_
                  show Steps p.tables e below (T38.setTop (mkF m 21 #[.val (.int p0), .val (.ref b5), .val (.int (10 : Int32)), .val (.int (7 : Int32)), .val (.ref (u 8))] [(.ref (u 8))])) _
                  refine st43 _ ?_
                  show Steps p.tables e below (T43.setTop (mkF m 24 #[.val (.int p0), .val (.ref b5), .val (.int (10 : Int32)), .val (.int (7 : Int32)), .val (.ref (u 8))] [(.int (74 : Int32))])) _
                  refine XS.iloadN X43.here hx rfl (hb hby d2_24) rfl ?_
                  exact kt)
                by_cases hc45 : (74 : Int32) = p0
                · --
                  obtain ⟨fs, hr, hrun, hended, hW, hsame⟩ := X43.leave (v := some (.ref (u 8))) (fun h => by rw [Bd.returns] at h; cases h)
                  refine ⟨_, _, pre44 _ ?_, hrun, hended, _, _, rfl, ?_, ⟨_, rfl⟩, hW, hsame.mono (by decide) (by decide)⟩
                  · show Steps p.tables e below (T43.setTop (mkF m 25 #[.val (.int p0), .val (.ref b5), .val (.int (10 : Int32)), .val (.int (7 : Int32)), .val (.ref (u 8))] [(.int p0), (.int (74 : Int32))])) _
                    refine XS.icmpNo X43.here hx rfl (hb hby d2_25) rfl (teq hc45).2 ?_
                    show Steps p.tables e below (T43.setTop (mkF m 28 #[.val (.int p0), .val (.ref b5), .val (.int (10 : Int32)), .val (.int (7 : Int32)), .val (.ref (u 8))] [])) _
                    refine XS.aload X43.here hx rfl (hb hby d2_28) rfl rfl ?_
                    show Steps p.tables e below (T43.setTop (mkF m 30 #[.val (.int p0), .val (.ref b5), .val (.int (10 : Int32)), .val (.int (7 : Int32)), .val (.ref (u 8))] [(.ref (u 8))])) _
                    exact retOut X43 hx Bd.returns (own_narref rfl rfl) (Or.inr (Or.inr (Or.inr (Or.inr ⟨rfl, rfl, rfl⟩)))) (hb hby d2_30) hr
                  · show own_Q2 Z u p0 h0 n0 _ T43.heap _
                    rw [e43]
                    exact ⟨(by unfold own_r2; rw [if_neg hc10, if_neg hc15, if_neg hc20, if_neg hc25, if_neg hc30, if_neg hc35, if_neg hc40, if_pos hc45]), N5, own_ext K5⟩
                · --
                  obtain ⟨cl47, Ar47, -, S47, N47, H47, -⟩ := id V_b5
                  have hin47 : ¬ ((8 : Int32) < 0 ∨ cl47.slots.size ≤ ((8 : Int32)).toNatClampNeg) := inb_of S47 ⟨by decide, by decide⟩
                  obtain ⟨T48, X48, e48, st48⟩ := getF X43 hx hZ hown (host := "") (Or.inl (hw _ (List.mem_of_getElem? (i := 35) rfl))) Via.refl e43 (B.2.2.2.2.2.2.2.2.2.2.2.2.2.2.2.2.2.2.2.2.2.2.2.2.2.2.2.2.2.2.2.1.ext O5.2) (g := (mkF m 21 #[.val (.int p0), .val (.ref b5), .val (.int (10 : Int32)), .val (.int (8 : Int32)), .val (.ref (u 9))] [(.ref (u 9))])) rfl rfl (hb hby d2_21)
                  have pre49 : ∀ t, Steps p.tables e below (T48.setTop (mkF m 25 #[.val (.int p0), .val (.ref b5), .val (.int (10 : Int32)), .val (.int (8 : Int32)), .val (.ref (u 9))] [(.int p0), (.int (81 : Int32))])) t → Steps p.tables e below (s₁.setTop (entryFrame m #[(.int p0)] 5)) t := fun t kt => pre44 t (by
                    show Steps p.tables e below (T43.setTop (mkF m 25 #[.val (.int p0), .val (.ref b5), .val (.int (10 : Int32)), .val (.int (7 : Int32)), .val (.ref (u 8))] [(.int p0), (.int (74 : Int32))])) _
                    refine XS.icmpYes X43.here hx rfl (pc0 := 25) (pc' := 31) rfl (hb hby d2_25) rfl (feq hc45).2 (by decide) (by decide) ?_
                    show Steps p.tables e below (T43.setTop (mkF m 31 #[.val (.int p0), .val (.ref b5), .val (.int (10 : Int32)), .val (.int (7 : Int32)), .val (.ref (u 8))] [])) _
                    refine XS.iinc X43.here hx rfl (hb hby d2_31) rfl (l' := #[.val (.int p0), .val (.ref b5), .val (.int (10 : Int32)), .val (.int (8 : Int32)), .val (.ref (u 8))]) rfl ?_
                    show Steps p.tables e below (T43.setTop (mkF m 34 #[.val (.int p0), .val (.ref b5), .val (.int (10 : Int32)), .val (.int (8 : Int32)), .val (.ref (u 8))] [])) _
                    refine XS.goto X43.here hx rfl (pc0 := 34) (pc' := 9) rfl (hb hby d2_34) (by decide) (by decide) ?_
                    show Steps p.tables e below (T43.setTop (mkF m 9 #[.val (.int p0), .val (.ref b5), .val (.int (10 : Int32)), .val (.int (8 : Int32)), .val (.ref (u 8))] [])) _
                    refine XS.iloadN X43.here hx rfl (hb hby d2_9) rfl ?_
                    show Steps p.tables e below (T43.setTop (mkF m 10 #[.val (.int p0), .val (.ref b5), .val (.int (10 : Int32)), .val (.int (8 : Int32)), .val (.ref (u 8))] [(.int (8 : Int32))])) _
                    refine XS.iloadN X43.here hx rfl (hb hby d2_10) rfl ?_
                    show Steps p.tables e below (T43.setTop (mkF m 11 #[.val (.int p0), .val (.ref b5), .val (.int (10 : Int32)), .val (.int (8 : Int32)), .val (.ref (u 8))] [(.int (10 : Int32)), (.int (8 : Int32))])) _
                    refine XS.icmpNo X43.here hx rfl (hb hby d2_11) rfl (tlt (by decide : (8 : Int32) < (10 : Int32))).2.1 ?_
                    show Steps p.tables e below (T43.setTop (mkF m 14 #[.val (.int p0), .val (.ref b5), .val (.int (10 : Int32)), .val (.int (8 : Int32)), .val (.ref (u 8))] [])) _
                    refine XS.aloadN X43.here hx rfl (hb hby d2_14) rfl rfl ?_
                    show Steps p.tables e below (T43.setTop (mkF m 15 #[.val (.int p0), .val (.ref b5), .val (.int (10 : Int32)), .val (.int (8 : Int32)), .val (.ref (u 8))] [(.ref b5)])) _
                    refine XS.iloadN X43.here hx rfl (hb hby d2_15) rfl ?_
                    show Steps p.tables e below (T43.setTop (mkF m 16 #[.val (.int p0), .val (.ref b5), .val (.int (10 : Int32)), .val (.int (8 : Int32)), .val (.ref (u 8))] [(.int (8 : Int32)), (.ref b5)])) _
                    refine X43.aaload hx (j := (8 : Int32)) (v := (.ref (u 9))) (by rw [e43]; exact Ar47.1) (State.isArrayOf_alike hZ.alike Ar47.2.1) rfl Ar47.2.2 hin47 (H47.at hin47 rfl) (g := (mkF m 16 #[.val (.int p0), .val (.ref b5), .val (.int (10 : Int32)), .val (.int (8 : Int32)), .val (.ref (u 8))] [(.int (8 : Int32)), (.ref b5)])) rfl rfl (hb hby d2_16) _ ?_
                    show Steps p.tables e below (T43.setTop (mkF m 17 #[.val (.int p0), .val (.ref b5), .val (.int (10 : Int32)), .val (.int (8 : Int32)), .val (.ref (u 8))] [(.ref (u 9))])) _
                    refine XS.astore X43.here hx rfl (hb hby d2_17) rfl rfl (l' := #[.val (.int p0), .val (.ref b5), .val (.int (10 : Int32)), .val (.int (8 : Int32)), .val (.ref (u 9))]) rfl ?_
                    show Steps p.tables e below (T43.setTop (mkF m 19 #[.val (.int p0), .val (.ref b5), .val (.int (10 : Int32)), .val (.int (8 : Int32)), .val (.ref (u 9))] [])) _
                    refine XS.aload X43.here hx rfl (hb hby d2_19) rfl rfl ?_
                    show Steps p.tables e below (T43.setTop (mkF m 21 #[.val (.int p0), .val (.ref b5), .val (.int (10 : Int32)), .val (.int (8 : Int32)), .val (.ref (u 9))] [(.ref (u 9))])) _
                    refine st48 _ ?_
                    show Steps p.tables e below (T48.setTop (mkF m 24 #[.val (.int p0), .val (.ref b5), .val (.int (10 : Int32)), .val (.int (8 : Int32)), .val (.ref (u 9))] [(.int (81 : Int32))])) _
                    refine XS.iloadN X48.here hx rfl (hb hby d2_24) rfl ?_
                    exact kt)
                  by_cases hc50 : (81 : Int32) = p0
                  · --
                    obtain ⟨fs, hr, hrun, hended, hW, hsame⟩ := X48.leave (v := some (.ref (u 9))) (fun h => by rw [Bd.returns] at h; cases h)
                    refine ⟨_, _, pre49 _ ?_, hrun, hended, _, _, rfl, ?_, ⟨_, rfl⟩, hW, hsame.mono (by decide) (by decide)⟩
                    · show Steps p.tables e below (T48.setTop (mkF m 25 #[.val (.int p0), .val (.ref b5), .val (.int (10 : Int32)), .val (.int (8 : Int32)), .val (.ref (u 9))] [(.int p0), (.int (81 : Int32))])) _
                      refine XS.icmpNo X48.here hx rfl (hb hby d2_25) rfl (teq hc50).2 ?_
                      show Steps p.tables e below (T48.setTop (mkF m 28 #[.val (.int p0), .val (.ref b5), .val (.int (10 : Int32)), .val (.int (8 : Int32)), .val (.ref (u 9))] [])) _
                      refine XS.aload X48.here hx rfl (hb hby d2_28) rfl rfl ?_
                      show Steps p.tables e below (T48.setTop (mkF m 30 #[.val (.int p0), .val (.ref b5), .val (.int (10 : Int32)), .val (.int (8 : Int32)), .val (.ref (u 9))] [(.ref (u 9))])) _
                      exact retOut X48 hx Bd.returns (own_narref rfl rfl) (Or.inr (Or.inr (Or.inr (Or.inr ⟨rfl, rfl, rfl⟩)))) (hb hby d2_30) hr
                    · show own_Q2 Z u p0 h0 n0 _ T48.heap _
                      rw [e48]
                      exact ⟨(by unfold own_r2; rw [if_neg hc10, if_neg hc15, if_neg hc20, if_neg hc25, if_neg hc30, if_neg hc35, if_neg hc40, if_neg hc45, if_pos hc50]), N5, own_ext K5⟩
                  · --
                    obtain ⟨cl52, Ar52, -, S52, N52, H52, -⟩ := id V_b5
                    have hin52 : ¬ ((9 : Int32) < 0 ∨ cl52.slots.size ≤ ((9 : Int32)).toNatClampNeg) := inb_of S52 ⟨by decide, by decide⟩
                    obtain ⟨T53, X53, e53, st53⟩ := getF X48 hx hZ hown (host := "") (Or.inl (hw _ (List.mem_of_getElem? (i := 35) rfl))) Via.refl e48 (B.2.2.2.2.2.2.2.2.2.2.2.2.2.2.2.2.2.2.2.2.2.2.2.2.2.2.2.2.2.2.2.2.ext O5.2) (g := (mkF m 21 #[.val (.int p0), .val (.ref b5), .val (.int (10 : Int32)), .val (.int (9 : Int32)), .val (.ref (u 10))] [(.ref (u 10))])) rfl rfl (hb hby d2_21)
                    have pre54 : ∀ t, Steps p.tables e below (T53.setTop (mkF m 25 #[.val (.int p0), .val (.ref b5), .val (.int (10 : Int32)), .val (.int (9 : Int32)), .val (.ref (u 10))] [(.int p0), (.int (75 : Int32))])) t → Steps p.tables e below (s₁.setTop (entryFrame m #[(.int p0)] 5)) t := fun t kt => pre49 t (by
                      show Steps p.tables e below (T48.setTop (mkF m 25 #[.val (.int p0), .val (.ref b5), .val (.int (10 : Int32)), .val (.int (8 : Int32)), .val (.ref (u 9))] [(.int p0), (.int (81 : Int32))])) _
                      refine XS.icmpYes X48.here hx rfl (pc0 := 25) (pc' := 31) rfl (hb hby d2_25) rfl (feq hc50).2 (by decide) (by decide) ?_
                      show Steps p.tables e below (T48.setTop (mkF m 31 #[.val (.int p0), .val (.ref b5), .val (.int (10 : Int32)), .val (.int (8 : Int32)), .val (.ref (u 9))] [])) _
                      refine XS.iinc X48.here hx rfl (hb hby d2_31) rfl (l' := #[.val (.int p0), .val (.ref b5), .val (.int (10 : Int32)), .val (.int (9 : Int32)), .val (.ref (u 9))]) rfl ?_
                      show Steps p.tables e below (T48.setTop (mkF m 34 #[.val (.int p0), .val (.ref b5), .val (.int (10 : Int32)), .val (.int (9 : Int32)), .val (.ref (u 9))] [])) _
                      refine XS.goto X48.here hx rfl (pc0 := 34) (pc' := 9) rfl (hb hby d2_34) (by decide) (by decide) ?_
                      show Steps p.tables e below (T48.setTop (mkF m 9 #[.val (.int p0), .val (.ref b5), .val (.int (10 : Int32)), .val (.int (9 : Int32)), .val (.ref (u 9))] [])) _
                      refine XS.iloadN X48.here hx rfl (hb hby d2_9) rfl ?_
                      show Steps p.tables e below (T48.setTop (mkF m 10 #[.val (.int p0), .val (.ref b5), .val (.int (10 : Int32)), .val (.int (9 : Int32)), .val (.ref (u 9))] [(.int (9 : Int32))])) _
                      refine XS.iloadN X48.here hx rfl (hb hby d2_10) rfl ?_
                      show Steps p.tables e below (T48.setTop (mkF m 11 #[.val (.int p0), .val (.ref b5), .val (.int (10 : Int32)), .val (.int (9 : Int32)), .val (.ref (u 9))] [(.int (10 : Int32)), (.int (9 : Int32))])) _
                      refine XS.icmpNo X48.here hx rfl (hb hby d2_11) rfl (tlt (by decide : (9 : Int32) < (10 : Int32))).2.1 ?_
                      show Steps p.tables e below (T48.setTop (mkF m 14 #[.val (.int p0), .val (.ref b5), .val (.int (10 : Int32)), .val (.int (9 : Int32)), .val (.ref (u 9))] [])) _
                      refine XS.aloadN X48.here hx rfl (hb hby d2_14) rfl rfl ?_
                      show Steps p.tables e below (T48.setTop (mkF m 15 #[.val (.int p0), .val (.ref b5), .val (.int (10 : Int32)), .val (.int (9 : Int32)), .val (.ref (u 9))] [(.ref b5)])) _
                      refine XS.iloadN X48.here hx rfl (hb hby d2_15) rfl ?_
                      show Steps p.tables e below (T48.setTop (mkF m 16 #[.val (.int p0), .val (.ref b5), .val (.int (10 : Int32)), .val (.int (9 : Int32)), .val (.ref (u 9))] [(.int (9 : Int32)), (.ref b5)])) _
                      refine X48.aaload hx (j := (9 : Int32)) (v := (.ref (u 10))) (by rw [e48]; exact Ar52.1) (State.isArrayOf_alike hZ.alike Ar52.2.1) rfl Ar52.2.2 hin52 (H52.at hin52 rfl) (g := (mkF m 16 #[.val (.int p0), .val (.ref b5), .val (.int (10 : Int32)), .val (.int (9 : Int32)), .val (.ref (u 9))] [(.int (9 : Int32)), (.ref b5)])) rfl rfl (hb hby d2_16) _ ?_
                      show Steps p.tables e below (T48.setTop (mkF m 17 #[.val (.int p0), .val (.ref b5), .val (.int (10 : Int32)), .val (.int (9 : Int32)), .val (.ref (u 9))] [(.ref (u 10))])) _
                      refine XS.astore X48.here hx rfl (hb hby d2_17) rfl rfl (l' := #[.val (.int p0), .val (.ref b5), .val (.int (10 : Int32)), .val (.int (9 : Int32)), .val (.ref (u 10))]) rfl ?_
                      show Steps p.tables e below (T48.setTop (mkF m 19 #[.val (.int p0), .val (.ref b5), .val (.int (10 : Int32)), .val (.int (9 : Int32)), .val (.ref (u 10))] [])) _
                      refine XS.aload X48.here hx rfl (hb hby d2_19) rfl rfl ?_
                      show Steps p.tables e below (T48.setTop (mkF m 21 #[.val (.int p0), .val (.ref b5), .val (.int (10 : Int32)), .val (.int (9 : Int32)), .val (.ref (u 10))] [(.ref (u 10))])) _
                      refine st53 _ ?_
                      show Steps p.tables e below (T53.setTop (mkF m 24 #[.val (.int p0), .val (.ref b5), .val (.int (10 : Int32)), .val (.int (9 : Int32)), .val (.ref (u 10))] [(.int (75 : Int32))])) _
                      refine XS.iloadN X53.here hx rfl (hb hby d2_24) rfl ?_
                      exact kt)
                    by_cases hc55 : (75 : Int32) = p0
                    · --
                      obtain ⟨fs, hr, hrun, hended, hW, hsame⟩ := X53.leave (v := some (.ref (u 10))) (fun h => by rw [Bd.returns] at h; cases h)
                      refine ⟨_, _, pre54 _ ?_, hrun, hended, _, _, rfl, ?_, ⟨_, rfl⟩, hW, hsame.mono (by decide) (by decide)⟩
                      · show Steps p.tables e below (T53.setTop (mkF m 25 #[.val (.int p0), .val (.ref b5), .val (.int (10 : Int32)), .val (.int (9 : Int32)), .val (.ref (u 10))] [(.int p0), (.int (75 : Int32))])) _
                        refine XS.icmpNo X53.here hx rfl (hb hby d2_25) rfl (teq hc55).2 ?_
                        show Steps p.tables e below (T53.setTop (mkF m 28 #[.val (.int p0), .val (.ref b5), .val (.int (10 : Int32)), .val (.int (9 : Int32)), .val (.ref (u 10))] [])) _
                        refine XS.aload X53.here hx rfl (hb hby d2_28) rfl rfl ?_
                        show Steps p.tables e below (T53.setTop (mkF m 30 #[.val (.int p0), .val (.ref b5), .val (.int (10 : Int32)), .val (.int (9 : Int32)), .val (.ref (u 10))] [(.ref (u 10))])) _
                        exact retOut X53 hx Bd.returns (own_narref rfl rfl) (Or.inr (Or.inr (Or.inr (Or.inr ⟨rfl, rfl, rfl⟩)))) (hb hby d2_30) hr
                      · show own_Q2 Z u p0 h0 n0 _ T53.heap _
                        rw [e53]
                        exact ⟨(by unfold own_r2; rw [if_neg hc10, if_neg hc15, if_neg hc20, if_neg hc25, if_neg hc30, if_neg hc35, if_neg hc40, if_neg hc45, if_neg hc50, if_pos hc55]), N5, own_ext K5⟩
                    · --
                      obtain ⟨fs, hr, hrun, hended, hW, hsame⟩ := X53.leave (v := some .null) (fun h => by rw [Bd.returns] at h; cases h)
                      refine ⟨_, _, pre54 _ ?_, hrun, hended, _, _, rfl, ?_, ⟨_, rfl⟩, hW, hsame.mono (by decide) (by decide)⟩
                      · show Steps p.tables e below (T53.setTop (mkF m 25 #[.val (.int p0), .val (.ref b5), .val (.int (10 : Int32)), .val (.int (9 : Int32)), .val (.ref (u 10))] [(.int p0), (.int (75 : Int32))])) _
                        refine XS.icmpYes X53.here hx rfl (pc0 := 25) (pc' := 31) rfl (hb hby d2_25) rfl (feq hc55).2 (by decide) (by decide) ?_
                        show Steps p.tables e below (T53.setTop (mkF m 31 #[.val (.int p0), .val (.ref b5), .val (.int (10 : Int32)), .val (.int (9 : Int32)), .val (.ref (u 10))] [])) _
                        refine XS.iinc X53.here hx rfl (hb hby d2_31) rfl (l' := #[.val (.int p0), .val (.ref b5), .val (.int (10 : Int32)), .val (.int (10 : Int32)), .val (.ref (u 10))]) rfl ?_
                        show Steps p.tables e below (T53.setTop (mkF m 34 #[.val (.int p0), .val (.ref b5), .val (.int (10 : Int32)), .val (.int (10 : Int32)), .val (.ref (u 10))] [])) _
                        refine XS.goto X53.here hx rfl (pc0 := 34) (pc' := 9) rfl (hb hby d2_34) (by decide) (by decide) ?_
                        show Steps p.tables e below (T53.setTop (mkF m 9 #[.val (.int p0), .val (.ref b5), .val (.int (10 : Int32)), .val (.int (10 : Int32)), .val (.ref (u 10))] [])) _
                        refine XS.iloadN X53.here hx rfl (hb hby d2_9) rfl ?_
                        show Steps p.tables e below (T53.setTop (mkF m 10 #[.val (.int p0), .val (.ref b5), .val (.int (10 : Int32)), .val (.int (10 : Int32)), .val (.ref (u 10))] [(.int (10 : Int32))])) _
                        refine XS.iloadN X53.here hx rfl (hb hby d2_10) rfl ?_
                        show Steps p.tables e below (T53.setTop (mkF m 11 #[.val (.int p0), .val (.ref b5), .val (.int (10 : Int32)), .val (.int (10 : Int32)), .val (.ref (u 10))] [(.int (10 : Int32)), (.int (10 : Int32))])) _
                        refine XS.icmpYes X53.here hx rfl (pc0 := 11) (pc' := 37) rfl (hb hby d2_11) rfl (flt (by decide : ¬ ((10 : Int32) < (10 : Int32)))).2.1 (by decide) (by decide) ?_
                        show Steps p.tables e below (T53.setTop (mkF m 37 #[.val (.int p0), .val (.ref b5), .val (.int (10 : Int32)), .val (.int (10 : Int32)), .val (.ref (u 10))] [])) _
                        refine XS.aconstNull X53.here hx rfl (hb hby d2_37) ?_
                        show Steps p.tables e below (T53.setTop (mkF m 38 #[.val (.int p0), .val (.ref b5), .val (.int (10 : Int32)), .val (.int (10 : Int32)), .val (.ref (u 10))] [.null])) _
                        exact retOut X53 hx Bd.returns (own_narref rfl rfl) (Or.inr (Or.inr (Or.inr (Or.inr ⟨rfl, rfl, rfl⟩)))) (hb hby d2_38) hr
                      · show own_Q2 Z u p0 h0 n0 _ T53.heap _
                        rw [e53]
                        exact ⟨(by unfold own_r2; rw [if_neg hc10, if_neg hc15, if_neg hc20, if_neg hc25, if_neg hc30, if_neg hc35, if_neg hc40, if_neg hc45, if_neg hc50, if_neg hc55]), N5, own_ext K5⟩
theorem d1_0 : decode method_3_code 0 = .ok (.iload_n 0, 1) := by decide +kernel
theorem d1_1 : decode method_3_code 1 = .ok (.bipush 65, 2) := by decide +kernel
theorem d1_3 : decode method_3_code 3 = .ok (.if_icmp .ne 7, 3) := by decide +kernel
theorem d1_6 : decode method_3_code 6 = .ok (.getstatic 19, 3) := by decide +kernel
theorem d1_9 : decode method_3_code 9 = .ok (.areturn, 1) := by decide +kernel
theorem d1_10 : decode method_3_code 10 = .ok (.iload_n 0, 1) := by decide +kernel
theorem d1_11 : decode method_3_code 11 = .ok (.bipush 50, 2) := by decide +kernel
theorem d1_13 : decode method_3_code 13 = .ok (.if_icmp .ne 7, 3) := by decide +kernel
theorem d1_16 : decode method_3_code 16 = .ok (.getstatic 23, 3) := by decide +kernel
theorem d1_19 : decode method_3_code 19 = .ok (.areturn, 1) := by decide +kernel
theorem d1_20 : decode method_3_code 20 = .ok (.iload_n 0, 1) := by decide +kernel
theorem d1_21 : decode method_3_code 21 = .ok (.bipush 51, 2) := by decide +kernel
theorem d1_23 : decode method_3_code 23 = .ok (.if_icmp .ne 7, 3) := by decide +kernel
theorem d1_26 : decode method_3_code 26 = .ok (.getstatic 26, 3) := by decide +kernel
theorem d1_29 : decode method_3_code 29 = .ok (.areturn, 1) := by decide +kernel
theorem d1_30 : decode method_3_code 30 = .ok (.iload_n 0, 1) := by decide +kernel
theorem d1_31 : decode method_3_code 31 = .ok (.bipush 52, 2) := by decide +kernel
theorem d1_33 : decode method_3_code 33 = .ok (.if_icmp .ne 7, 3) := by decide +kernel
theorem d1_36 : decode method_3_code 36 = .ok (.getstatic 29, 3) := by decide +kernel
theorem d1_39 : decode method_3_code 39 = .ok (.areturn, 1) := by decide +kernel
theorem d1_40 : decode method_3_code 40 = .ok (.iload_n 0, 1) := by decide +kernel
theorem d1_41 : decode method_3_code 41 = .ok (.bipush 53, 2) := by decide +kernel
theorem d1_43 : decode method_3_code 43 = .ok (.if_icmp .ne 7, 3) := by decide +kernel
theorem d1_46 : decode method_3_code 46 = .ok (.getstatic 32, 3) := by decide +kernel
theorem d1_49 : decode method_3_code 49 = .ok (.areturn, 1) := by decide +kernel
theorem d1_50 : decode method_3_code 50 = .ok (.iload_n 0, 1) := by decide +kernel
theorem d1_51 : decode method_3_code 51 = .ok (.bipush 54, 2) := by decide +kernel
theorem d1_53 : decode method_3_code 53 = .ok (.if_icmp .ne 7, 3) := by decide +kernel
theorem d1_56 : decode method_3_code 56 = .ok (.getstatic 35, 3) := by decide +kernel
theorem d1_59 : decode method_3_code 59 = .ok (.areturn, 1) := by decide +kernel
theorem d1_60 : decode method_3_code 60 = .ok (.iload_n 0, 1) := by decide +kernel
theorem d1_61 : decode method_3_code 61 = .ok (.bipush 55, 2) := by decide +kernel
theorem d1_63 : decode method_3_code 63 = .ok (.if_icmp .ne 7, 3) := by decide +kernel
theorem d1_66 : decode method_3_code 66 = .ok (.getstatic 38, 3) := by decide +kernel
theorem d1_69 : decode method_3_code 69 = .ok (.areturn, 1) := by decide +kernel
theorem d1_70 : decode method_3_code 70 = .ok (.iload_n 0, 1) := by decide +kernel
theorem d1_71 : decode method_3_code 71 = .ok (.bipush 74, 2) := by decide +kernel
theorem d1_73 : decode method_3_code 73 = .ok (.if_icmp .ne 7, 3) := by decide +kernel
theorem d1_76 : decode method_3_code 76 = .ok (.getstatic 41, 3) := by decide +kernel
theorem d1_79 : decode method_3_code 79 = .ok (.areturn, 1) := by decide +kernel
theorem d1_80 : decode method_3_code 80 = .ok (.iload_n 0, 1) := by decide +kernel
theorem d1_81 : decode method_3_code 81 = .ok (.bipush 81, 2) := by decide +kernel
theorem d1_83 : decode method_3_code 83 = .ok (.if_icmp .ne 7, 3) := by decide +kernel
theorem d1_86 : decode method_3_code 86 = .ok (.getstatic 44, 3) := by decide +kernel
theorem d1_89 : decode method_3_code 89 = .ok (.areturn, 1) := by decide +kernel
theorem d1_90 : decode method_3_code 90 = .ok (.iload_n 0, 1) := by decide +kernel
theorem d1_91 : decode method_3_code 91 = .ok (.bipush 75, 2) := by decide +kernel
theorem d1_93 : decode method_3_code 93 = .ok (.if_icmp .ne 7, 3) := by decide +kernel
theorem d1_96 : decode method_3_code 96 = .ok (.getstatic 47, 3) := by decide +kernel
theorem d1_99 : decode method_3_code 99 = .ok (.areturn, 1) := by decide +kernel
theorem d1_100 : decode method_3_code 100 = .ok (.aconst_null, 1) := by decide +kernel
theorem d1_101 : decode method_3_code 101 = .ok (.areturn, 1) := by decide +kernel
theorem own_pn_1 : plainName "com/example/smazzata/smazzata/card/RankFromCodePinLaw" = true := by first | (simp [plainName, overriddenIn]; done) | decide +kernel
theorem own_ef_1 (m : MethodId) (x0 : Int32) : entryFrame m #[(.int x0)] 1 = mkF m 0 #[.val (.int x0)] [] := by first | (simp [entryFrame, mkF, argsToLocals, Value.category]; done) | rfl
def own_r1 (u : Nat → Addr) (p0 : Int32) : Value :=
  if p0 = (65 : Int32) then
    (.ref (u 2))
  else
    if p0 = (50 : Int32) then
      (.ref (u 3))
    else
      if p0 = (51 : Int32) then
        (.ref (u 4))
      else
        if p0 = (52 : Int32) then
          (.ref (u 0))
        else
          if p0 = (53 : Int32) then
            (.ref (u 5))
          else
            if p0 = (54 : Int32) then
              (.ref (u 6))
            else
              if p0 = (55 : Int32) then
                (.ref (u 7))
              else
                if p0 = (74 : Int32) then
                  (.ref (u 8))
                else
                  if p0 = (81 : Int32) then
                    (.ref (u 9))
                  else
                    if p0 = (75 : Int32) then
                      (.ref (u 10))
                    else
                      .null
theorem own_r1_ref {u : Nat → Addr} {p0 : Int32} : (own_r1 u p0).isRef = true := by
  unfold own_r1
  repeat' split
  all_goals rfl
def own_Q1 (Z : State) (u : Nat → Addr) (p0 : Int32) (h0 : Heap) (n0 : Nat) (v : Option Value) (h : Heap) (L : List Loc) : Prop := v = some (own_r1 u p0) ∧ Fr n0 L ∧ h = h0
set_option maxRecDepth 65536 in
set_option maxHeartbeats 40000000 in
theorem rm1 (l : Launch) (Z : State) (a0 : Array Value) (hw : ∀ d ∈ tables_1, d.before a0 Z = true) (ws : List Jvm.Cond) (u : Nat → Addr) (p0 : Int32) (B : own_Base Z u) (h0 : Heap) (n0 : Nat) (O : Old Z n0 h0) :
    MetFree l (⟨"com/example/smazzata/smazzata/card/RankFromCodePinLaw", "expectedRank", "(C)Lcom/example/smazzata/smazzata/card/Rank;"⟩ : MethodName) (head1 (Jvm.Cond.code (⟨"com/example/smazzata/smazzata/card/RankFromCodePinLaw", "expectedRank", "(C)Lcom/example/smazzata/smazzata/card/Rank;"⟩ : MethodName) method_3_code 1 (some (.object "com/example/smazzata/smazzata/card/Rank")) :: ws) ({ frames := 0, cells := 0, slots := 0, locals := 0 } : Room)) (fun a U => a = #[(.int p0)] ∧ Z.Warmed39 U.vm ∧ U.heap = h0) (fun _ _ _ _ _ => True) (fun _ U o U' => ∃ v L, o = .returned v ∧ own_Q1 Z u p0 h0 n0 v U'.heap L ∧ FrameEnd U o U' L ({ frames := 0, cells := 0, slots := 0, locals := 0 } : Room).cells ({ frames := 0, cells := 0, slots := 0, locals := 0 } : Room).slots) := by
  refine MetFree.of_bodySF (plainFor_of_name own_pn_1) hisR ?_
  intro p e s m args below meth c s₁ Bd hml0 hP hK
  obtain ⟨rfl, hZ, hh⟩ := hP
  have hx := Bd.exec
  have hby := Bd.bytes
  have hml : c.maxLocals = 1 := hml0
  have hown : s.vm.findClass "com/example/smazzata/smazzata/card/RankFromCodePinLaw" = some m.cls := findClass_of_methodNamed Bd.named
  have hnm := (name_of_methodNamed Bd.named Bd.method).1
  have X0 : Stand p l e ({ frames := 0, cells := 0, slots := 0, locals := 0 } : Room) s m #[(.int p0)] below meth c s₁ [] 0 0 := Stand.of_body Bd
  have e0 : s₁.heap = h0 := by rw [← hh, Bd.state]; rfl
  have N0 := Fr.nil n0
  have K0 := Keep.refl h0 []
  have Z0 : n0 ≤ h0.size := O.1 ▸ O.2.1
  have pre0 : ∀ t, Steps p.tables e below (s₁.setTop (mkF m 0 #[.val (.int p0)] [])) t → Steps p.tables e below (s₁.setTop (entryFrame m #[(.int p0)] 1)) t := fun t k => castTop (own_ef_1 m p0) k
  have pre58 : ∀ t, Steps p.tables e below (s₁.setTop (mkF m 3 #[.val (.int p0)] [(.int (65 : Int32)), (.int p0)])) t → Steps p.tables e below (s₁.setTop (entryFrame m #[(.int p0)] 1)) t := fun t kt => pre0 t (by
    show Steps p.tables e below (s₁.setTop (mkF m 0 #[.val (.int p0)] [])) _
    refine XS.iloadN X0.here hx rfl (hb hby d1_0) rfl ?_
    show Steps p.tables e below (s₁.setTop (mkF m 1 #[.val (.int p0)] [(.int p0)])) _
    refine XS.bipush X0.here hx rfl (hb hby d1_1) ?_
    exact kt)
  by_cases hc59 : p0 = (65 : Int32)
  · --
    obtain ⟨T60, X60, e60, st60⟩ := getS2 X0 hx hZ hown (host := "") (Or.inl (hw _ (List.mem_of_getElem? (i := 39) rfl))) Via.refl e0 (B.2.2.2.2.1.ext O.2) (g := (mkF m 6 #[.val (.int p0)] [])) rfl (hb hby d1_6)
    obtain ⟨fs, hr, hrun, hended, hW, hsame⟩ := X60.leave (v := some (.ref (u 2))) (fun h => by rw [Bd.returns] at h; cases h)
    refine ⟨_, _, pre58 _ ?_, hrun, hended, _, _, rfl, ?_, ⟨_, rfl⟩, hW, hsame.mono (by decide) (by decide)⟩
    · show Steps p.tables e below (s₁.setTop (mkF m 3 #[.val (.int p0)] [(.int (65 : Int32)), (.int p0)])) _
      refine XS.icmpNo X0.here hx rfl (hb hby d1_3) rfl (teq hc59).2 ?_
      show Steps p.tables e below (s₁.setTop (mkF m 6 #[.val (.int p0)] [])) _
      refine st60 _ ?_
      show Steps p.tables e below (T60.setTop (mkF m 9 #[.val (.int p0)] [(.ref (u 2))])) _
      exact retOut X60 hx Bd.returns (own_narref rfl rfl) (Or.inr (Or.inr (Or.inr (Or.inr ⟨rfl, rfl, rfl⟩)))) (hb hby d1_9) hr
    · show own_Q1 Z u p0 h0 n0 _ T60.heap _
      rw [e60]
      exact ⟨(by unfold own_r1; rw [if_pos hc59]), N0, rfl⟩
  · --
    have pre62 : ∀ t, Steps p.tables e below (s₁.setTop (mkF m 13 #[.val (.int p0)] [(.int (50 : Int32)), (.int p0)])) t → Steps p.tables e below (s₁.setTop (entryFrame m #[(.int p0)] 1)) t := fun t kt => pre58 t (by
      show Steps p.tables e below (s₁.setTop (mkF m 3 #[.val (.int p0)] [(.int (65 : Int32)), (.int p0)])) _
      refine XS.icmpYes X0.here hx rfl (pc0 := 3) (pc' := 10) rfl (hb hby d1_3) rfl (feq hc59).2 (by decide) (by decide) ?_
      show Steps p.tables e below (s₁.setTop (mkF m 10 #[.val (.int p0)] [])) _
      refine XS.iloadN X0.here hx rfl (hb hby d1_10) rfl ?_
      show Steps p.tables e below (s₁.setTop (mkF m 11 #[.val (.int p0)] [(.int p0)])) _
      refine XS.bipush X0.here hx rfl (hb hby d1_11) ?_
      exact kt)
    by_cases hc63 : p0 = (50 : Int32)
    · --
      obtain ⟨T64, X64, e64, st64⟩ := getS2 X0 hx hZ hown (host := "") (Or.inl (hw _ (List.mem_of_getElem? (i := 37) rfl))) Via.refl e0 (B.2.2.2.2.2.2.1.ext O.2) (g := (mkF m 16 #[.val (.int p0)] [])) rfl (hb hby d1_16)
      obtain ⟨fs, hr, hrun, hended, hW, hsame⟩ := X64.leave (v := some (.ref (u 3))) (fun h => by rw [Bd.returns] at h; cases h)
      refine ⟨_, _, pre62 _ ?_, hrun, hended, _, _, rfl, ?_, ⟨_, rfl⟩, hW, hsame.mono (by decide) (by decide)⟩
      · show Steps p.tables e below (s₁.setTop (mkF m 13 #[.val (.int p0)] [(.int (50 : Int32)), (.int p0)])) _
        refine XS.icmpNo X0.here hx rfl (hb hby d1_13) rfl (teq hc63).2 ?_
        show Steps p.tables e below (s₁.setTop (mkF m 16 #[.val (.int p0)] [])) _
        refine st64 _ ?_
        show Steps p.tables e below (T64.setTop (mkF m 19 #[.val (.int p0)] [(.ref (u 3))])) _
        exact retOut X64 hx Bd.returns (own_narref rfl rfl) (Or.inr (Or.inr (Or.inr (Or.inr ⟨rfl, rfl, rfl⟩)))) (hb hby d1_19) hr
      · show own_Q1 Z u p0 h0 n0 _ T64.heap _
        rw [e64]
        exact ⟨(by unfold own_r1; rw [if_neg hc59, if_pos hc63]), N0, rfl⟩
    · --
      have pre66 : ∀ t, Steps p.tables e below (s₁.setTop (mkF m 23 #[.val (.int p0)] [(.int (51 : Int32)), (.int p0)])) t → Steps p.tables e below (s₁.setTop (entryFrame m #[(.int p0)] 1)) t := fun t kt => pre62 t (by
        show Steps p.tables e below (s₁.setTop (mkF m 13 #[.val (.int p0)] [(.int (50 : Int32)), (.int p0)])) _
        refine XS.icmpYes X0.here hx rfl (pc0 := 13) (pc' := 20) rfl (hb hby d1_13) rfl (feq hc63).2 (by decide) (by decide) ?_
        show Steps p.tables e below (s₁.setTop (mkF m 20 #[.val (.int p0)] [])) _
        refine XS.iloadN X0.here hx rfl (hb hby d1_20) rfl ?_
        show Steps p.tables e below (s₁.setTop (mkF m 21 #[.val (.int p0)] [(.int p0)])) _
        refine XS.bipush X0.here hx rfl (hb hby d1_21) ?_
        exact kt)
      by_cases hc67 : p0 = (51 : Int32)
      · --
        obtain ⟨T68, X68, e68, st68⟩ := getS2 X0 hx hZ hown (host := "") (Or.inl (hw _ (List.mem_of_getElem? (i := 43) rfl))) Via.refl e0 (B.2.2.2.2.2.2.2.2.1.ext O.2) (g := (mkF m 26 #[.val (.int p0)] [])) rfl (hb hby d1_26)
        obtain ⟨fs, hr, hrun, hended, hW, hsame⟩ := X68.leave (v := some (.ref (u 4))) (fun h => by rw [Bd.returns] at h; cases h)
        refine ⟨_, _, pre66 _ ?_, hrun, hended, _, _, rfl, ?_, ⟨_, rfl⟩, hW, hsame.mono (by decide) (by decide)⟩
        · show Steps p.tables e below (s₁.setTop (mkF m 23 #[.val (.int p0)] [(.int (51 : Int32)), (.int p0)])) _
          refine XS.icmpNo X0.here hx rfl (hb hby d1_23) rfl (teq hc67).2 ?_
          show Steps p.tables e below (s₁.setTop (mkF m 26 #[.val (.int p0)] [])) _
          refine st68 _ ?_
          show Steps p.tables e below (T68.setTop (mkF m 29 #[.val (.int p0)] [(.ref (u 4))])) _
          exact retOut X68 hx Bd.returns (own_narref rfl rfl) (Or.inr (Or.inr (Or.inr (Or.inr ⟨rfl, rfl, rfl⟩)))) (hb hby d1_29) hr
        · show own_Q1 Z u p0 h0 n0 _ T68.heap _
          rw [e68]
          exact ⟨(by unfold own_r1; rw [if_neg hc59, if_neg hc63, if_pos hc67]), N0, rfl⟩
      · --
        have pre70 : ∀ t, Steps p.tables e below (s₁.setTop (mkF m 33 #[.val (.int p0)] [(.int (52 : Int32)), (.int p0)])) t → Steps p.tables e below (s₁.setTop (entryFrame m #[(.int p0)] 1)) t := fun t kt => pre66 t (by
          show Steps p.tables e below (s₁.setTop (mkF m 23 #[.val (.int p0)] [(.int (51 : Int32)), (.int p0)])) _
          refine XS.icmpYes X0.here hx rfl (pc0 := 23) (pc' := 30) rfl (hb hby d1_23) rfl (feq hc67).2 (by decide) (by decide) ?_
          show Steps p.tables e below (s₁.setTop (mkF m 30 #[.val (.int p0)] [])) _
          refine XS.iloadN X0.here hx rfl (hb hby d1_30) rfl ?_
          show Steps p.tables e below (s₁.setTop (mkF m 31 #[.val (.int p0)] [(.int p0)])) _
          refine XS.bipush X0.here hx rfl (hb hby d1_31) ?_
          exact kt)
        by_cases hc71 : p0 = (52 : Int32)
        · --
          obtain ⟨T72, X72, e72, st72⟩ := getS2 X0 hx hZ hown (host := "") (Or.inl (hw _ (List.mem_of_getElem? (i := 5) rfl))) Via.refl e0 (B.1.ext O.2) (g := (mkF m 36 #[.val (.int p0)] [])) rfl (hb hby d1_36)
          obtain ⟨fs, hr, hrun, hended, hW, hsame⟩ := X72.leave (v := some (.ref (u 0))) (fun h => by rw [Bd.returns] at h; cases h)
          refine ⟨_, _, pre70 _ ?_, hrun, hended, _, _, rfl, ?_, ⟨_, rfl⟩, hW, hsame.mono (by decide) (by decide)⟩
          · show Steps p.tables e below (s₁.setTop (mkF m 33 #[.val (.int p0)] [(.int (52 : Int32)), (.int p0)])) _
            refine XS.icmpNo X0.here hx rfl (hb hby d1_33) rfl (teq hc71).2 ?_
            show Steps p.tables e below (s₁.setTop (mkF m 36 #[.val (.int p0)] [])) _
            refine st72 _ ?_
            show Steps p.tables e below (T72.setTop (mkF m 39 #[.val (.int p0)] [(.ref (u 0))])) _
            exact retOut X72 hx Bd.returns (own_narref rfl rfl) (Or.inr (Or.inr (Or.inr (Or.inr ⟨rfl, rfl, rfl⟩)))) (hb hby d1_39) hr
          · show own_Q1 Z u p0 h0 n0 _ T72.heap _
            rw [e72]
            exact ⟨(by unfold own_r1; rw [if_neg hc59, if_neg hc63, if_neg hc67, if_pos hc71]), N0, rfl⟩
        · --
          have pre74 : ∀ t, Steps p.tables e below (s₁.setTop (mkF m 43 #[.val (.int p0)] [(.int (53 : Int32)), (.int p0)])) t → Steps p.tables e below (s₁.setTop (entryFrame m #[(.int p0)] 1)) t := fun t kt => pre70 t (by
            show Steps p.tables e below (s₁.setTop (mkF m 33 #[.val (.int p0)] [(.int (52 : Int32)), (.int p0)])) _
            refine XS.icmpYes X0.here hx rfl (pc0 := 33) (pc' := 40) rfl (hb hby d1_33) rfl (feq hc71).2 (by decide) (by decide) ?_
            show Steps p.tables e below (s₁.setTop (mkF m 40 #[.val (.int p0)] [])) _
            refine XS.iloadN X0.here hx rfl (hb hby d1_40) rfl ?_
            show Steps p.tables e below (s₁.setTop (mkF m 41 #[.val (.int p0)] [(.int p0)])) _
            refine XS.bipush X0.here hx rfl (hb hby d1_41) ?_
            exact kt)
          by_cases hc75 : p0 = (53 : Int32)
          · --
            obtain ⟨T76, X76, e76, st76⟩ := getS2 X0 hx hZ hown (host := "") (Or.inl (hw _ (List.mem_of_getElem? (i := 38) rfl))) Via.refl e0 (B.2.2.2.2.2.2.2.2.2.2.1.ext O.2) (g := (mkF m 46 #[.val (.int p0)] [])) rfl (hb hby d1_46)
            obtain ⟨fs, hr, hrun, hended, hW, hsame⟩ := X76.leave (v := some (.ref (u 5))) (fun h => by rw [Bd.returns] at h; cases h)
            refine ⟨_, _, pre74 _ ?_, hrun, hended, _, _, rfl, ?_, ⟨_, rfl⟩, hW, hsame.mono (by decide) (by decide)⟩
            · show Steps p.tables e below (s₁.setTop (mkF m 43 #[.val (.int p0)] [(.int (53 : Int32)), (.int p0)])) _
              refine XS.icmpNo X0.here hx rfl (hb hby d1_43) rfl (teq hc75).2 ?_
              show Steps p.tables e below (s₁.setTop (mkF m 46 #[.val (.int p0)] [])) _
              refine st76 _ ?_
              show Steps p.tables e below (T76.setTop (mkF m 49 #[.val (.int p0)] [(.ref (u 5))])) _
              exact retOut X76 hx Bd.returns (own_narref rfl rfl) (Or.inr (Or.inr (Or.inr (Or.inr ⟨rfl, rfl, rfl⟩)))) (hb hby d1_49) hr
            · show own_Q1 Z u p0 h0 n0 _ T76.heap _
              rw [e76]
              exact ⟨(by unfold own_r1; rw [if_neg hc59, if_neg hc63, if_neg hc67, if_neg hc71, if_pos hc75]), N0, rfl⟩
          · --
            have pre78 : ∀ t, Steps p.tables e below (s₁.setTop (mkF m 53 #[.val (.int p0)] [(.int (54 : Int32)), (.int p0)])) t → Steps p.tables e below (s₁.setTop (entryFrame m #[(.int p0)] 1)) t := fun t kt => pre74 t (by
              show Steps p.tables e below (s₁.setTop (mkF m 43 #[.val (.int p0)] [(.int (53 : Int32)), (.int p0)])) _
              refine XS.icmpYes X0.here hx rfl (pc0 := 43) (pc' := 50) rfl (hb hby d1_43) rfl (feq hc75).2 (by decide) (by decide) ?_
              show Steps p.tables e below (s₁.setTop (mkF m 50 #[.val (.int p0)] [])) _
              refine XS.iloadN X0.here hx rfl (hb hby d1_50) rfl ?_
              show Steps p.tables e below (s₁.setTop (mkF m 51 #[.val (.int p0)] [(.int p0)])) _
              refine XS.bipush X0.here hx rfl (hb hby d1_51) ?_
              exact kt)
            by_cases hc79 : p0 = (54 : Int32)
            · --
              obtain ⟨T80, X80, e80, st80⟩ := getS2 X0 hx hZ hown (host := "") (Or.inl (hw _ (List.mem_of_getElem? (i := 41) rfl))) Via.refl e0 (B.2.2.2.2.2.2.2.2.2.2.2.2.1.ext O.2) (g := (mkF m 56 #[.val (.int p0)] [])) rfl (hb hby d1_56)
              obtain ⟨fs, hr, hrun, hended, hW, hsame⟩ := X80.leave (v := some (.ref (u 6))) (fun h => by rw [Bd.returns] at h; cases h)
              refine ⟨_, _, pre78 _ ?_, hrun, hended, _, _, rfl, ?_, ⟨_, rfl⟩, hW, hsame.mono (by decide) (by decide)⟩
              · show Steps p.tables e below (s₁.setTop (mkF m 53 #[.val (.int p0)] [(.int (54 : Int32)), (.int p0)])) _
                refine XS.icmpNo X0.here hx rfl (hb hby d1_53) rfl (teq hc79).2 ?_
                show Steps p.tables e below (s₁.setTop (mkF m 56 #[.val (.int p0)] [])) _
                refine st80 _ ?_
                show Steps p.tables e below (T80.setTop (mkF m 59 #[.val (.int p0)] [(.ref (u 6))])) _
                exact retOut X80 hx Bd.returns (own_narref rfl rfl) (Or.inr (Or.inr (Or.inr (Or.inr ⟨rfl, rfl, rfl⟩)))) (hb hby d1_59) hr
              · show own_Q1 Z u p0 h0 n0 _ T80.heap _
                rw [e80]
                exact ⟨(by unfold own_r1; rw [if_neg hc59, if_neg hc63, if_neg hc67, if_neg hc71, if_neg hc75, if_pos hc79]), N0, rfl⟩
            · --
              have pre82 : ∀ t, Steps p.tables e below (s₁.setTop (mkF m 63 #[.val (.int p0)] [(.int (55 : Int32)), (.int p0)])) t → Steps p.tables e below (s₁.setTop (entryFrame m #[(.int p0)] 1)) t := fun t kt => pre78 t (by
                show Steps p.tables e below (s₁.setTop (mkF m 53 #[.val (.int p0)] [(.int (54 : Int32)), (.int p0)])) _
                refine XS.icmpYes X0.here hx rfl (pc0 := 53) (pc' := 60) rfl (hb hby d1_53) rfl (feq hc79).2 (by decide) (by decide) ?_
                show Steps p.tables e below (s₁.setTop (mkF m 60 #[.val (.int p0)] [])) _
                refine XS.iloadN X0.here hx rfl (hb hby d1_60) rfl ?_
                show Steps p.tables e below (s₁.setTop (mkF m 61 #[.val (.int p0)] [(.int p0)])) _
                refine XS.bipush X0.here hx rfl (hb hby d1_61) ?_
                exact kt)
              by_cases hc83 : p0 = (55 : Int32)
              · --
                obtain ⟨T84, X84, e84, st84⟩ := getS2 X0 hx hZ hown (host := "") (Or.inl (hw _ (List.mem_of_getElem? (i := 46) rfl))) Via.refl e0 (B.2.2.2.2.2.2.2.2.2.2.2.2.2.2.1.ext O.2) (g := (mkF m 66 #[.val (.int p0)] [])) rfl (hb hby d1_66)
                obtain ⟨fs, hr, hrun, hended, hW, hsame⟩ := X84.leave (v := some (.ref (u 7))) (fun h => by rw [Bd.returns] at h; cases h)
                refine ⟨_, _, pre82 _ ?_, hrun, hended, _, _, rfl, ?_, ⟨_, rfl⟩, hW, hsame.mono (by decide) (by decide)⟩
                · show Steps p.tables e below (s₁.setTop (mkF m 63 #[.val (.int p0)] [(.int (55 : Int32)), (.int p0)])) _
                  refine XS.icmpNo X0.here hx rfl (hb hby d1_63) rfl (teq hc83).2 ?_
                  show Steps p.tables e below (s₁.setTop (mkF m 66 #[.val (.int p0)] [])) _
                  refine st84 _ ?_
                  show Steps p.tables e below (T84.setTop (mkF m 69 #[.val (.int p0)] [(.ref (u 7))])) _
                  exact retOut X84 hx Bd.returns (own_narref rfl rfl) (Or.inr (Or.inr (Or.inr (Or.inr ⟨rfl, rfl, rfl⟩)))) (hb hby d1_69) hr
                · show own_Q1 Z u p0 h0 n0 _ T84.heap _
                  rw [e84]
                  exact ⟨(by unfold own_r1; rw [if_neg hc59, if_neg hc63, if_neg hc67, if_neg hc71, if_neg hc75, if_neg hc79, if_pos hc83]), N0, rfl⟩
              · --
                have pre86 : ∀ t, Steps p.tables e below (s₁.setTop (mkF m 73 #[.val (.int p0)] [(.int (74 : Int32)), (.int p0)])) t → Steps p.tables e below (s₁.setTop (entryFrame m #[(.int p0)] 1)) t := fun t kt => pre82 t (by
                  show Steps p.tables e below (s₁.setTop (mkF m 63 #[.val (.int p0)] [(.int (55 : Int32)), (.int p0)])) _
                  refine XS.icmpYes X0.here hx rfl (pc0 := 63) (pc' := 70) rfl (hb hby d1_63) rfl (feq hc83).2 (by decide) (by decide) ?_
                  show Steps p.tables e below (s₁.setTop (mkF m 70 #[.val (.int p0)] [])) _
                  refine XS.iloadN X0.here hx rfl (hb hby d1_70) rfl ?_
                  show Steps p.tables e below (s₁.setTop (mkF m 71 #[.val (.int p0)] [(.int p0)])) _
                  refine XS.bipush X0.here hx rfl (hb hby d1_71) ?_
                  exact kt)
                by_cases hc87 : p0 = (74 : Int32)
                · --
                  obtain ⟨T88, X88, e88, st88⟩ := getS2 X0 hx hZ hown (host := "") (Or.inl (hw _ (List.mem_of_getElem? (i := 42) rfl))) Via.refl e0 (B.2.2.2.2.2.2.2.2.2.2.2.2.2.2.2.2.1.ext O.2) (g := (mkF m 76 #[.val (.int p0)] [])) rfl (hb hby d1_76)
                  obtain ⟨fs, hr, hrun, hended, hW, hsame⟩ := X88.leave (v := some (.ref (u 8))) (fun h => by rw [Bd.returns] at h; cases h)
                  refine ⟨_, _, pre86 _ ?_, hrun, hended, _, _, rfl, ?_, ⟨_, rfl⟩, hW, hsame.mono (by decide) (by decide)⟩
                  · show Steps p.tables e below (s₁.setTop (mkF m 73 #[.val (.int p0)] [(.int (74 : Int32)), (.int p0)])) _
                    refine XS.icmpNo X0.here hx rfl (hb hby d1_73) rfl (teq hc87).2 ?_
                    show Steps p.tables e below (s₁.setTop (mkF m 76 #[.val (.int p0)] [])) _
                    refine st88 _ ?_
                    show Steps p.tables e below (T88.setTop (mkF m 79 #[.val (.int p0)] [(.ref (u 8))])) _
                    exact retOut X88 hx Bd.returns (own_narref rfl rfl) (Or.inr (Or.inr (Or.inr (Or.inr ⟨rfl, rfl, rfl⟩)))) (hb hby d1_79) hr
                  · show own_Q1 Z u p0 h0 n0 _ T88.heap _
                    rw [e88]
                    exact ⟨(by unfold own_r1; rw [if_neg hc59, if_neg hc63, if_neg hc67, if_neg hc71, if_neg hc75, if_neg hc79, if_neg hc83, if_pos hc87]), N0, rfl⟩
                · --
                  have pre90 : ∀ t, Steps p.tables e below (s₁.setTop (mkF m 83 #[.val (.int p0)] [(.int (81 : Int32)), (.int p0)])) t → Steps p.tables e below (s₁.setTop (entryFrame m #[(.int p0)] 1)) t := fun t kt => pre86 t (by
                    show Steps p.tables e below (s₁.setTop (mkF m 73 #[.val (.int p0)] [(.int (74 : Int32)), (.int p0)])) _
                    refine XS.icmpYes X0.here hx rfl (pc0 := 73) (pc' := 80) rfl (hb hby d1_73) rfl (feq hc87).2 (by decide) (by decide) ?_
                    show Steps p.tables e below (s₁.setTop (mkF m 80 #[.val (.int p0)] [])) _
                    refine XS.iloadN X0.here hx rfl (hb hby d1_80) rfl ?_
                    show Steps p.tables e below (s₁.setTop (mkF m 81 #[.val (.int p0)] [(.int p0)])) _
                    refine XS.bipush X0.here hx rfl (hb hby d1_81) ?_
                    exact kt)
                  by_cases hc91 : p0 = (81 : Int32)
                  · --
                    obtain ⟨T92, X92, e92, st92⟩ := getS2 X0 hx hZ hown (host := "") (Or.inl (hw _ (List.mem_of_getElem? (i := 45) rfl))) Via.refl e0 (B.2.2.2.2.2.2.2.2.2.2.2.2.2.2.2.2.2.2.1.ext O.2) (g := (mkF m 86 #[.val (.int p0)] [])) rfl (hb hby d1_86)
                    obtain ⟨fs, hr, hrun, hended, hW, hsame⟩ := X92.leave (v := some (.ref (u 9))) (fun h => by rw [Bd.returns] at h; cases h)
                    refine ⟨_, _, pre90 _ ?_, hrun, hended, _, _, rfl, ?_, ⟨_, rfl⟩, hW, hsame.mono (by decide) (by decide)⟩
                    · show Steps p.tables e below (s₁.setTop (mkF m 83 #[.val (.int p0)] [(.int (81 : Int32)), (.int p0)])) _
                      refine XS.icmpNo X0.here hx rfl (hb hby d1_83) rfl (teq hc91).2 ?_
                      show Steps p.tables e below (s₁.setTop (mkF m 86 #[.val (.int p0)] [])) _
                      refine st92 _ ?_
                      show Steps p.tables e below (T92.setTop (mkF m 89 #[.val (.int p0)] [(.ref (u 9))])) _
                      exact retOut X92 hx Bd.returns (own_narref rfl rfl) (Or.inr (Or.inr (Or.inr (Or.inr ⟨rfl, rfl, rfl⟩)))) (hb hby d1_89) hr
                    · show own_Q1 Z u p0 h0 n0 _ T92.heap _
                      rw [e92]
                      exact ⟨(by unfold own_r1; rw [if_neg hc59, if_neg hc63, if_neg hc67, if_neg hc71, if_neg hc75, if_neg hc79, if_neg hc83, if_neg hc87, if_pos hc91]), N0, rfl⟩
                  · --
                    have pre94 : ∀ t, Steps p.tables e below (s₁.setTop (mkF m 93 #[.val (.int p0)] [(.int (75 : Int32)), (.int p0)])) t → Steps p.tables e below (s₁.setTop (entryFrame m #[(.int p0)] 1)) t := fun t kt => pre90 t (by
                      show Steps p.tables e below (s₁.setTop (mkF m 83 #[.val (.int p0)] [(.int (81 : Int32)), (.int p0)])) _
                      refine XS.icmpYes X0.here hx rfl (pc0 := 83) (pc' := 90) rfl (hb hby d1_83) rfl (feq hc91).2 (by decide) (by decide) ?_
                      show Steps p.tables e below (s₁.setTop (mkF m 90 #[.val (.int p0)] [])) _
                      refine XS.iloadN X0.here hx rfl (hb hby d1_90) rfl ?_
                      show Steps p.tables e below (s₁.setTop (mkF m 91 #[.val (.int p0)] [(.int p0)])) _
                      refine XS.bipush X0.here hx rfl (hb hby d1_91) ?_
                      exact kt)
                    by_cases hc95 : p0 = (75 : Int32)
                    · --
                      obtain ⟨T96, X96, e96, st96⟩ := getS2 X0 hx hZ hown (host := "") (Or.inl (hw _ (List.mem_of_getElem? (i := 44) rfl))) Via.refl e0 (B.2.2.2.2.2.2.2.2.2.2.2.2.2.2.2.2.2.2.2.2.1.ext O.2) (g := (mkF m 96 #[.val (.int p0)] [])) rfl (hb hby d1_96)
                      obtain ⟨fs, hr, hrun, hended, hW, hsame⟩ := X96.leave (v := some (.ref (u 10))) (fun h => by rw [Bd.returns] at h; cases h)
                      refine ⟨_, _, pre94 _ ?_, hrun, hended, _, _, rfl, ?_, ⟨_, rfl⟩, hW, hsame.mono (by decide) (by decide)⟩
                      · show Steps p.tables e below (s₁.setTop (mkF m 93 #[.val (.int p0)] [(.int (75 : Int32)), (.int p0)])) _
                        refine XS.icmpNo X0.here hx rfl (hb hby d1_93) rfl (teq hc95).2 ?_
                        show Steps p.tables e below (s₁.setTop (mkF m 96 #[.val (.int p0)] [])) _
                        refine st96 _ ?_
                        show Steps p.tables e below (T96.setTop (mkF m 99 #[.val (.int p0)] [(.ref (u 10))])) _
                        exact retOut X96 hx Bd.returns (own_narref rfl rfl) (Or.inr (Or.inr (Or.inr (Or.inr ⟨rfl, rfl, rfl⟩)))) (hb hby d1_99) hr
                      · show own_Q1 Z u p0 h0 n0 _ T96.heap _
                        rw [e96]
                        exact ⟨(by unfold own_r1; rw [if_neg hc59, if_neg hc63, if_neg hc67, if_neg hc71, if_neg hc75, if_neg hc79, if_neg hc83, if_neg hc87, if_neg hc91, if_pos hc95]), N0, rfl⟩
                    · --
                      obtain ⟨fs, hr, hrun, hended, hW, hsame⟩ := X0.leave (v := some .null) (fun h => by rw [Bd.returns] at h; cases h)
                      refine ⟨_, _, pre94 _ ?_, hrun, hended, _, _, rfl, ?_, ⟨_, rfl⟩, hW, hsame.mono (by decide) (by decide)⟩
                      · show Steps p.tables e below (s₁.setTop (mkF m 93 #[.val (.int p0)] [(.int (75 : Int32)), (.int p0)])) _
                        refine XS.icmpYes X0.here hx rfl (pc0 := 93) (pc' := 100) rfl (hb hby d1_93) rfl (feq hc95).2 (by decide) (by decide) ?_
                        show Steps p.tables e below (s₁.setTop (mkF m 100 #[.val (.int p0)] [])) _
                        refine XS.aconstNull X0.here hx rfl (hb hby d1_100) ?_
                        show Steps p.tables e below (s₁.setTop (mkF m 101 #[.val (.int p0)] [.null])) _
                        exact retOut X0 hx Bd.returns (own_narref rfl rfl) (Or.inr (Or.inr (Or.inr (Or.inr ⟨rfl, rfl, rfl⟩)))) (hb hby d1_101) hr
                      · show own_Q1 Z u p0 h0 n0 _ s₁.heap _
                        rw [e0]
                        exact ⟨(by unfold own_r1; rw [if_neg hc59, if_neg hc63, if_neg hc67, if_neg hc71, if_neg hc75, if_neg hc79, if_neg hc83, if_neg hc87, if_neg hc91, if_neg hc95]), N0, rfl⟩
theorem own_exh10 {j : Int32} (h0 : 0 ≤ j.toInt) (h1 : j.toInt < 10) (n0 : ¬ j = (0 : Int32)) (n1 : ¬ j = (1 : Int32)) (n2 : ¬ j = (2 : Int32)) (n3 : ¬ j = (3 : Int32)) (n4 : ¬ j = (4 : Int32)) (n5 : ¬ j = (5 : Int32)) (n6 : ¬ j = (6 : Int32)) (n7 : ¬ j = (7 : Int32)) (n8 : ¬ j = (8 : Int32)) (n9 : ¬ j = (9 : Int32)) : False := by
  have e0 : j.toInt ≠ 0 := fun q => n0 (Int32.toInt_inj.mp (q.trans rfl))
  have e1 : j.toInt ≠ 1 := fun q => n1 (Int32.toInt_inj.mp (q.trans rfl))
  have e2 : j.toInt ≠ 2 := fun q => n2 (Int32.toInt_inj.mp (q.trans rfl))
  have e3 : j.toInt ≠ 3 := fun q => n3 (Int32.toInt_inj.mp (q.trans rfl))
  have e4 : j.toInt ≠ 4 := fun q => n4 (Int32.toInt_inj.mp (q.trans rfl))
  have e5 : j.toInt ≠ 5 := fun q => n5 (Int32.toInt_inj.mp (q.trans rfl))
  have e6 : j.toInt ≠ 6 := fun q => n6 (Int32.toInt_inj.mp (q.trans rfl))
  have e7 : j.toInt ≠ 7 := fun q => n7 (Int32.toInt_inj.mp (q.trans rfl))
  have e8 : j.toInt ≠ 8 := fun q => n8 (Int32.toInt_inj.mp (q.trans rfl))
  have e9 : j.toInt ≠ 9 := fun q => n9 (Int32.toInt_inj.mp (q.trans rfl))
  omega
theorem own_and15 (x : Int32) : 0 ≤ (x &&& (15 : Int32)).toInt ∧ (x &&& (15 : Int32)).toInt < 16 := by
  have h := c_mask x 15 4 (by decide) (by decide)
  rw [h]; omega
theorem own_pn_0 : plainName "com/example/smazzata/smazzata/card/RankFromCodePinLaw" = true := by first | (simp [plainName, overriddenIn]; done) | decide +kernel
theorem own_ef_0 (m : MethodId) (x0 : Int32) (x1 : Int32) : entryFrame m #[(.int x0), (.int x1)] maxLocals = mkF m 0 #[.val (.int x0), .val (.int x1), .unset, .unset, .unset, .unset, .unset] [] := by first | (simp [entryFrame, mkF, argsToLocals, Value.category, maxLocals]; done) | rfl
def own_Q0 (Z : State) (u : Nat → Addr) (p0 : Int32) (p1 : Int32) (h0 : Heap) (n0 : Nat) (v : Option Value) (h : Heap) (L : List Loc) : Prop := v = some (.int (1 : Int32)) ∧ Fr n0 L ∧ True
set_option maxRecDepth 65536 in
set_option maxHeartbeats 40000000 in
theorem rm0 (l : Launch) (Z : State) (a0 : Array Value) (hw : ∀ d ∈ tables_1, d.before a0 Z = true) (ws : List Jvm.Cond) (u : Nat → Addr) (p0 : Int32) (p1 : Int32) (B : own_Base Z u) (h0 : Heap) (n0 : Nat) (O : Old Z n0 h0) :
    MetFree l x (head1 (Jvm.Cond.code x code maxLocals ret :: ws) room_1) (fun a U => a = #[(.int p0), (.int p1)] ∧ Z.Warmed39 U.vm ∧ U.heap = h0) (fun _ _ _ _ _ => True) (fun _ U o U' => ∃ v L, o = .returned v ∧ own_Q0 Z u p0 p1 h0 n0 v U'.heap L ∧ FrameEnd U o U' L room_1.cells room_1.slots) := by
  refine MetFree.of_bodySF (plainFor_of_name own_pn_0) hisR ?_
  intro p e s m args below meth c s₁ Bd hml0 hP hK
  obtain ⟨rfl, hZ, hh⟩ := hP
  have hx := Bd.exec
  have hby := Bd.bytes
  have hml : c.maxLocals = 7 := hml0
  have hown : s.vm.findClass "com/example/smazzata/smazzata/card/RankFromCodePinLaw" = some m.cls := findClass_of_methodNamed Bd.named
  have hnm := (name_of_methodNamed Bd.named Bd.method).1
  have X0 : Stand p l e room_1 s m #[(.int p0), (.int p1)] below meth c s₁ [] 0 0 := Stand.of_body Bd
  have e0 : s₁.heap = h0 := by rw [← hh, Bd.state]; rfl
  have N0 := Fr.nil n0
  have K0 := Keep.refl h0 []
  have Z0 : n0 ≤ h0.size := O.1 ▸ O.2.1
  have pre0 : ∀ t, Steps p.tables e below (s₁.setTop (mkF m 0 #[.val (.int p0), .val (.int p1), .unset, .unset, .unset, .unset, .unset] [])) t → Steps p.tables e below (s₁.setTop (entryFrame m #[(.int p0), (.int p1)] maxLocals)) t := fun t k => castTop (own_ef_0 m p0 p1) k
  obtain ⟨T99, h99, k99, X99, e99, E99, A99, st99⟩ := newP X0 hx hZ (hw _ (List.mem_of_getElem? (i := 0) rfl)) e0 (g := (mkF m 7 #[.val (.int p0), .val (.int p1), .val (.int (p1 &&& (15 : Int32))), .unset, .unset, .unset, .unset] [(.int (10 : Int32))])) rfl (hb hby at_7) rfl (by decide) (cap := 10) (by decide) (by decide) (by decide) (by decide)
  obtain ⟨b99, g99⟩ : ∃ z, z = h0.size := ⟨_, rfl⟩
  rw [← g99] at A99 st99
  have gx_b99 : n0 ≤ b99 := Nat.le_trans (O.1 ▸ O.2.1) (Nat.le_of_eq g99.symm)
  have sz_b99 : h0.size ≤ b99 := Nat.le_trans K0.1 (Nat.le_of_eq g99.symm)
  have O99 := O.ext E99
  have K99 := K0.ext E99
  have V_b99 : Arv Z h99 b99 k99 .char (10 : Int32) [.int (0 : Int32), .int (0 : Int32), .int (0 : Int32), .int (0 : Int32), .int (0 : Int32), .int (0 : Int32), .int (0 : Int32), .int (0 : Int32), .int (0 : Int32), .int (0 : Int32)] (.int (0 : Int32)) := (Arv.new A99 (by decide)).pad (pad_rep [] (.int (0 : Int32)) 10)
  obtain ⟨cl100, Ar100, q100, S100, N100, H100, G100⟩ := id V_b99
  have hin100 : ¬ ((0 : Int32) < 0 ∨ cl100.slots.size ≤ ((0 : Int32)).toNatClampNeg) := inb_of S100 ⟨by decide, by decide⟩
  obtain ⟨T101, h101, X101, e101, W101, st101⟩ := stC X99 hx hZ e99 Ar100 (j := (0 : Int32)) hin100 (g := (mkF m 13 #[.val (.int p0), .val (.int p1), .val (.int (p1 &&& (15 : Int32))), .unset, .unset, .unset, .unset] [(.int (65 : Int32)), (.int (0 : Int32)), (.ref b99), (.ref b99)])) rfl rfl (hb hby at_13)
  have Nf101 := Fr.snoc X101 N0 gx_b99
  have V101 : Arv Z h101 b99 k99 .char (10 : Int32) [.int (65 : Int32), .int (0 : Int32), .int (0 : Int32), .int (0 : Int32), .int (0 : Int32), .int (0 : Int32), .int (0 : Int32), .int (0 : Int32), .int (0 : Int32), .int (0 : Int32)] (.int (0 : Int32)) := Arv.set Ar100 q100 S100 N100 H100 G100 (fits_nar_char _) W101 0 rfl (Nat.le_of_ble_eq_true rfl)
  have O101 := O99.wr W101 gx_b99
  have K101 := K99.wr W101 (Or.inr sz_b99)
  obtain ⟨cl104, Ar104, q104, S104, N104, H104, G104⟩ := id V101
  have hin104 : ¬ ((1 : Int32) < 0 ∨ cl104.slots.size ≤ ((1 : Int32)).toNatClampNeg) := inb_of S104 ⟨by decide, by decide⟩
  obtain ⟨T105, h105, X105, e105, W105, st105⟩ := stC X101 hx hZ e101 Ar104 (j := (1 : Int32)) hin104 (g := (mkF m 18 #[.val (.int p0), .val (.int p1), .val (.int (p1 &&& (15 : Int32))), .unset, .unset, .unset, .unset] [(.int (50 : Int32)), (.int (1 : Int32)), (.ref b99), (.ref b99)])) rfl rfl (hb hby at_18)
  have Nf105 := Fr.snoc X105 Nf101 gx_b99
  have V105 : Arv Z h105 b99 k99 .char (10 : Int32) [.int (65 : Int32), .int (50 : Int32), .int (0 : Int32), .int (0 : Int32), .int (0 : Int32), .int (0 : Int32), .int (0 : Int32), .int (0 : Int32), .int (0 : Int32), .int (0 : Int32)] (.int (0 : Int32)) := Arv.set Ar104 q104 S104 N104 H104 G104 (fits_nar_char _) W105 1 rfl (Nat.le_of_ble_eq_true rfl)
  have O105 := O101.wr W105 gx_b99
  have K105 := K101.wr W105 (Or.inr sz_b99)
  obtain ⟨cl108, Ar108, q108, S108, N108, H108, G108⟩ := id V105
  have hin108 : ¬ ((2 : Int32) < 0 ∨ cl108.slots.size ≤ ((2 : Int32)).toNatClampNeg) := inb_of S108 ⟨by decide, by decide⟩
  obtain ⟨T109, h109, X109, e109, W109, st109⟩ := stC X105 hx hZ e105 Ar108 (j := (2 : Int32)) hin108 (g := (mkF m 23 #[.val (.int p0), .val (.int p1), .val (.int (p1 &&& (15 : Int32))), .unset, .unset, .unset, .unset] [(.int (51 : Int32)), (.int (2 : Int32)), (.ref b99), (.ref b99)])) rfl rfl (hb hby at_23)
  have Nf109 := Fr.snoc X109 Nf105 gx_b99
  have V109 : Arv Z h109 b99 k99 .char (10 : Int32) [.int (65 : Int32), .int (50 : Int32), .int (51 : Int32), .int (0 : Int32), .int (0 : Int32), .int (0 : Int32), .int (0 : Int32), .int (0 : Int32), .int (0 : Int32), .int (0 : Int32)] (.int (0 : Int32)) := Arv.set Ar108 q108 S108 N108 H108 G108 (fits_nar_char _) W109 2 rfl (Nat.le_of_ble_eq_true rfl)
  have O109 := O105.wr W109 gx_b99
  have K109 := K105.wr W109 (Or.inr sz_b99)
  obtain ⟨cl112, Ar112, q112, S112, N112, H112, G112⟩ := id V109
  have hin112 : ¬ ((3 : Int32) < 0 ∨ cl112.slots.size ≤ ((3 : Int32)).toNatClampNeg) := inb_of S112 ⟨by decide, by decide⟩
  obtain ⟨T113, h113, X113, e113, W113, st113⟩ := stC X109 hx hZ e109 Ar112 (j := (3 : Int32)) hin112 (g := (mkF m 28 #[.val (.int p0), .val (.int p1), .val (.int (p1 &&& (15 : Int32))), .unset, .unset, .unset, .unset] [(.int (52 : Int32)), (.int (3 : Int32)), (.ref b99), (.ref b99)])) rfl rfl (hb hby at_28)
  have Nf113 := Fr.snoc X113 Nf109 gx_b99
  have V113 : Arv Z h113 b99 k99 .char (10 : Int32) [.int (65 : Int32), .int (50 : Int32), .int (51 : Int32), .int (52 : Int32), .int (0 : Int32), .int (0 : Int32), .int (0 : Int32), .int (0 : Int32), .int (0 : Int32), .int (0 : Int32)] (.int (0 : Int32)) := Arv.set Ar112 q112 S112 N112 H112 G112 (fits_nar_char _) W113 3 rfl (Nat.le_of_ble_eq_true rfl)
  have O113 := O109.wr W113 gx_b99
  have K113 := K109.wr W113 (Or.inr sz_b99)
  obtain ⟨cl116, Ar116, q116, S116, N116, H116, G116⟩ := id V113
  have hin116 : ¬ ((4 : Int32) < 0 ∨ cl116.slots.size ≤ ((4 : Int32)).toNatClampNeg) := inb_of S116 ⟨by decide, by decide⟩
  obtain ⟨T117, h117, X117, e117, W117, st117⟩ := stC X113 hx hZ e113 Ar116 (j := (4 : Int32)) hin116 (g := (mkF m 33 #[.val (.int p0), .val (.int p1), .val (.int (p1 &&& (15 : Int32))), .unset, .unset, .unset, .unset] [(.int (53 : Int32)), (.int (4 : Int32)), (.ref b99), (.ref b99)])) rfl rfl (hb hby at_33)
  have Nf117 := Fr.snoc X117 Nf113 gx_b99
  have V117 : Arv Z h117 b99 k99 .char (10 : Int32) [.int (65 : Int32), .int (50 : Int32), .int (51 : Int32), .int (52 : Int32), .int (53 : Int32), .int (0 : Int32), .int (0 : Int32), .int (0 : Int32), .int (0 : Int32), .int (0 : Int32)] (.int (0 : Int32)) := Arv.set Ar116 q116 S116 N116 H116 G116 (fits_nar_char _) W117 4 rfl (Nat.le_of_ble_eq_true rfl)
  have O117 := O113.wr W117 gx_b99
  have K117 := K113.wr W117 (Or.inr sz_b99)
  obtain ⟨cl120, Ar120, q120, S120, N120, H120, G120⟩ := id V117
  have hin120 : ¬ ((5 : Int32) < 0 ∨ cl120.slots.size ≤ ((5 : Int32)).toNatClampNeg) := inb_of S120 ⟨by decide, by decide⟩
  obtain ⟨T121, h121, X121, e121, W121, st121⟩ := stC X117 hx hZ e117 Ar120 (j := (5 : Int32)) hin120 (g := (mkF m 38 #[.val (.int p0), .val (.int p1), .val (.int (p1 &&& (15 : Int32))), .unset, .unset, .unset, .unset] [(.int (54 : Int32)), (.int (5 : Int32)), (.ref b99), (.ref b99)])) rfl rfl (hb hby at_38)
  have Nf121 := Fr.snoc X121 Nf117 gx_b99
  have V121 : Arv Z h121 b99 k99 .char (10 : Int32) [.int (65 : Int32), .int (50 : Int32), .int (51 : Int32), .int (52 : Int32), .int (53 : Int32), .int (54 : Int32), .int (0 : Int32), .int (0 : Int32), .int (0 : Int32), .int (0 : Int32)] (.int (0 : Int32)) := Arv.set Ar120 q120 S120 N120 H120 G120 (fits_nar_char _) W121 5 rfl (Nat.le_of_ble_eq_true rfl)
  have O121 := O117.wr W121 gx_b99
  have K121 := K117.wr W121 (Or.inr sz_b99)
  obtain ⟨cl124, Ar124, q124, S124, N124, H124, G124⟩ := id V121
  have hin124 : ¬ ((6 : Int32) < 0 ∨ cl124.slots.size ≤ ((6 : Int32)).toNatClampNeg) := inb_of S124 ⟨by decide, by decide⟩
  obtain ⟨T125, h125, X125, e125, W125, st125⟩ := stC X121 hx hZ e121 Ar124 (j := (6 : Int32)) hin124 (g := (mkF m 44 #[.val (.int p0), .val (.int p1), .val (.int (p1 &&& (15 : Int32))), .unset, .unset, .unset, .unset] [(.int (55 : Int32)), (.int (6 : Int32)), (.ref b99), (.ref b99)])) rfl rfl (hb hby at_44)
  have Nf125 := Fr.snoc X125 Nf121 gx_b99
  have V125 : Arv Z h125 b99 k99 .char (10 : Int32) [.int (65 : Int32), .int (50 : Int32), .int (51 : Int32), .int (52 : Int32), .int (53 : Int32), .int (54 : Int32), .int (55 : Int32), .int (0 : Int32), .int (0 : Int32), .int (0 : Int32)] (.int (0 : Int32)) := Arv.set Ar124 q124 S124 N124 H124 G124 (fits_nar_char _) W125 6 rfl (Nat.le_of_ble_eq_true rfl)
  have O125 := O121.wr W125 gx_b99
  have K125 := K121.wr W125 (Or.inr sz_b99)
  obtain ⟨cl128, Ar128, q128, S128, N128, H128, G128⟩ := id V125
  have hin128 : ¬ ((7 : Int32) < 0 ∨ cl128.slots.size ≤ ((7 : Int32)).toNatClampNeg) := inb_of S128 ⟨by decide, by decide⟩
  obtain ⟨T129, h129, X129, e129, W129, st129⟩ := stC X125 hx hZ e125 Ar128 (j := (7 : Int32)) hin128 (g := (mkF m 50 #[.val (.int p0), .val (.int p1), .val (.int (p1 &&& (15 : Int32))), .unset, .unset, .unset, .unset] [(.int (74 : Int32)), (.int (7 : Int32)), (.ref b99), (.ref b99)])) rfl rfl (hb hby at_50)
  have Nf129 := Fr.snoc X129 Nf125 gx_b99
  have V129 : Arv Z h129 b99 k99 .char (10 : Int32) [.int (65 : Int32), .int (50 : Int32), .int (51 : Int32), .int (52 : Int32), .int (53 : Int32), .int (54 : Int32), .int (55 : Int32), .int (74 : Int32), .int (0 : Int32), .int (0 : Int32)] (.int (0 : Int32)) := Arv.set Ar128 q128 S128 N128 H128 G128 (fits_nar_char _) W129 7 rfl (Nat.le_of_ble_eq_true rfl)
  have O129 := O125.wr W129 gx_b99
  have K129 := K125.wr W129 (Or.inr sz_b99)
  obtain ⟨cl132, Ar132, q132, S132, N132, H132, G132⟩ := id V129
  have hin132 : ¬ ((8 : Int32) < 0 ∨ cl132.slots.size ≤ ((8 : Int32)).toNatClampNeg) := inb_of S132 ⟨by decide, by decide⟩
  obtain ⟨T133, h133, X133, e133, W133, st133⟩ := stC X129 hx hZ e129 Ar132 (j := (8 : Int32)) hin132 (g := (mkF m 56 #[.val (.int p0), .val (.int p1), .val (.int (p1 &&& (15 : Int32))), .unset, .unset, .unset, .unset] [(.int (81 : Int32)), (.int (8 : Int32)), (.ref b99), (.ref b99)])) rfl rfl (hb hby at_56)
  have Nf133 := Fr.snoc X133 Nf129 gx_b99
  have V133 : Arv Z h133 b99 k99 .char (10 : Int32) [.int (65 : Int32), .int (50 : Int32), .int (51 : Int32), .int (52 : Int32), .int (53 : Int32), .int (54 : Int32), .int (55 : Int32), .int (74 : Int32), .int (81 : Int32), .int (0 : Int32)] (.int (0 : Int32)) := Arv.set Ar132 q132 S132 N132 H132 G132 (fits_nar_char _) W133 8 rfl (Nat.le_of_ble_eq_true rfl)
  have O133 := O129.wr W133 gx_b99
  have K133 := K129.wr W133 (Or.inr sz_b99)
  obtain ⟨cl136, Ar136, q136, S136, N136, H136, G136⟩ := id V133
  have hin136 : ¬ ((9 : Int32) < 0 ∨ cl136.slots.size ≤ ((9 : Int32)).toNatClampNeg) := inb_of S136 ⟨by decide, by decide⟩
  obtain ⟨T137, h137, X137, e137, W137, st137⟩ := stC X133 hx hZ e133 Ar136 (j := (9 : Int32)) hin136 (g := (mkF m 62 #[.val (.int p0), .val (.int p1), .val (.int (p1 &&& (15 : Int32))), .unset, .unset, .unset, .unset] [(.int (75 : Int32)), (.int (9 : Int32)), (.ref b99), (.ref b99)])) rfl rfl (hb hby at_62)
  have Nf137 := Fr.snoc X137 Nf133 gx_b99
  have V137 : Arv Z h137 b99 k99 .char (10 : Int32) [.int (65 : Int32), .int (50 : Int32), .int (51 : Int32), .int (52 : Int32), .int (53 : Int32), .int (54 : Int32), .int (55 : Int32), .int (74 : Int32), .int (81 : Int32), .int (75 : Int32)] (.int (0 : Int32)) := Arv.set Ar136 q136 S136 N136 H136 G136 (fits_nar_char _) W137 9 rfl (Nat.le_of_ble_eq_true rfl)
  have O137 := O133.wr W137 gx_b99
  have K137 := K133.wr W137 (Or.inr sz_b99)
  have pre140 : ∀ t, Steps p.tables e below (T137.setTop (mkF m 67 #[.val (.int p0), .val (.int p1), .val (.int (p1 &&& (15 : Int32))), .val (.ref b99), .unset, .unset, .unset] [(.int (10 : Int32)), (.int (p1 &&& (15 : Int32)))])) t → Steps p.tables e below (s₁.setTop (entryFrame m #[(.int p0), (.int p1)] maxLocals)) t := fun t kt => pre0 t (by
    show Steps p.tables e below (s₁.setTop (mkF m 0 #[.val (.int p0), .val (.int p1), .unset, .unset, .unset, .unset, .unset] [])) _
    refine XS.iloadN X0.here hx rfl (hb hby at_0) rfl ?_
    show Steps p.tables e below (s₁.setTop (mkF m 1 #[.val (.int p0), .val (.int p1), .unset, .unset, .unset, .unset, .unset] [(.int p1)])) _
    refine XS.bipush X0.here hx rfl (hb hby at_1) ?_
    show Steps p.tables e below (s₁.setTop (mkF m 3 #[.val (.int p0), .val (.int p1), .unset, .unset, .unset, .unset, .unset] [(.int (15 : Int32)), (.int p1)])) _
    refine XS.iand X0.here hx rfl (hb hby at_3) rfl ?_
    show Steps p.tables e below (s₁.setTop (mkF m 4 #[.val (.int p0), .val (.int p1), .unset, .unset, .unset, .unset, .unset] [(.int (p1 &&& (15 : Int32)))])) _
    refine XS.istoreN X0.here hx rfl (hb hby at_4) rfl (l' := #[.val (.int p0), .val (.int p1), .val (.int (p1 &&& (15 : Int32))), .unset, .unset, .unset, .unset]) rfl ?_
    show Steps p.tables e below (s₁.setTop (mkF m 5 #[.val (.int p0), .val (.int p1), .val (.int (p1 &&& (15 : Int32))), .unset, .unset, .unset, .unset] [])) _
    refine XS.bipush X0.here hx rfl (hb hby at_5) ?_
    show Steps p.tables e below (s₁.setTop (mkF m 7 #[.val (.int p0), .val (.int p1), .val (.int (p1 &&& (15 : Int32))), .unset, .unset, .unset, .unset] [(.int (10 : Int32))])) _
    refine st99 _ ?_
    show Steps p.tables e below (T99.setTop (mkF m 9 #[.val (.int p0), .val (.int p1), .val (.int (p1 &&& (15 : Int32))), .unset, .unset, .unset, .unset] [(.ref b99)])) _
    refine XS.dup X99.here hx rfl (hb hby at_9) rfl rfl ?_
    show Steps p.tables e below (T99.setTop (mkF m 10 #[.val (.int p0), .val (.int p1), .val (.int (p1 &&& (15 : Int32))), .unset, .unset, .unset, .unset] [(.ref b99), (.ref b99)])) _
    refine XS.iconst X99.here hx rfl (hb hby at_10) ?_
    show Steps p.tables e below (T99.setTop (mkF m 11 #[.val (.int p0), .val (.int p1), .val (.int (p1 &&& (15 : Int32))), .unset, .unset, .unset, .unset] [(.int (0 : Int32)), (.ref b99), (.ref b99)])) _
    refine XS.bipush X99.here hx rfl (hb hby at_11) ?_
    show Steps p.tables e below (T99.setTop (mkF m 13 #[.val (.int p0), .val (.int p1), .val (.int (p1 &&& (15 : Int32))), .unset, .unset, .unset, .unset] [(.int (65 : Int32)), (.int (0 : Int32)), (.ref b99), (.ref b99)])) _
    refine st101 _ ?_
    show Steps p.tables e below (T101.setTop (mkF m 14 #[.val (.int p0), .val (.int p1), .val (.int (p1 &&& (15 : Int32))), .unset, .unset, .unset, .unset] [(.ref b99)])) _
    refine XS.dup X101.here hx rfl (hb hby at_14) rfl rfl ?_
    show Steps p.tables e below (T101.setTop (mkF m 15 #[.val (.int p0), .val (.int p1), .val (.int (p1 &&& (15 : Int32))), .unset, .unset, .unset, .unset] [(.ref b99), (.ref b99)])) _
    refine XS.iconst X101.here hx rfl (hb hby at_15) ?_
    show Steps p.tables e below (T101.setTop (mkF m 16 #[.val (.int p0), .val (.int p1), .val (.int (p1 &&& (15 : Int32))), .unset, .unset, .unset, .unset] [(.int (1 : Int32)), (.ref b99), (.ref b99)])) _
    refine XS.bipush X101.here hx rfl (hb hby at_16) ?_
    show Steps p.tables e below (T101.setTop (mkF m 18 #[.val (.int p0), .val (.int p1), .val (.int (p1 &&& (15 : Int32))), .unset, .unset, .unset, .unset] [(.int (50 : Int32)), (.int (1 : Int32)), (.ref b99), (.ref b99)])) _
    refine st105 _ ?_
    show Steps p.tables e below (T105.setTop (mkF m 19 #[.val (.int p0), .val (.int p1), .val (.int (p1 &&& (15 : Int32))), .unset, .unset, .unset, .unset] [(.ref b99)])) _
    refine XS.dup X105.here hx rfl (hb hby at_19) rfl rfl ?_
    show Steps p.tables e below (T105.setTop (mkF m 20 #[.val (.int p0), .val (.int p1), .val (.int (p1 &&& (15 : Int32))), .unset, .unset, .unset, .unset] [(.ref b99), (.ref b99)])) _
    refine XS.iconst X105.here hx rfl (hb hby at_20) ?_
    show Steps p.tables e below (T105.setTop (mkF m 21 #[.val (.int p0), .val (.int p1), .val (.int (p1 &&& (15 : Int32))), .unset, .unset, .unset, .unset] [(.int (2 : Int32)), (.ref b99), (.ref b99)])) _
    refine XS.bipush X105.here hx rfl (hb hby at_21) ?_
    show Steps p.tables e below (T105.setTop (mkF m 23 #[.val (.int p0), .val (.int p1), .val (.int (p1 &&& (15 : Int32))), .unset, .unset, .unset, .unset] [(.int (51 : Int32)), (.int (2 : Int32)), (.ref b99), (.ref b99)])) _
    refine st109 _ ?_
    show Steps p.tables e below (T109.setTop (mkF m 24 #[.val (.int p0), .val (.int p1), .val (.int (p1 &&& (15 : Int32))), .unset, .unset, .unset, .unset] [(.ref b99)])) _
    refine XS.dup X109.here hx rfl (hb hby at_24) rfl rfl ?_
    show Steps p.tables e below (T109.setTop (mkF m 25 #[.val (.int p0), .val (.int p1), .val (.int (p1 &&& (15 : Int32))), .unset, .unset, .unset, .unset] [(.ref b99), (.ref b99)])) _
    refine XS.iconst X109.here hx rfl (hb hby at_25) ?_
    show Steps p.tables e below (T109.setTop (mkF m 26 #[.val (.int p0), .val (.int p1), .val (.int (p1 &&& (15 : Int32))), .unset, .unset, .unset, .unset] [(.int (3 : Int32)), (.ref b99), (.ref b99)])) _
    refine XS.bipush X109.here hx rfl (hb hby at_26) ?_
    show Steps p.tables e below (T109.setTop (mkF m 28 #[.val (.int p0), .val (.int p1), .val (.int (p1 &&& (15 : Int32))), .unset, .unset, .unset, .unset] [(.int (52 : Int32)), (.int (3 : Int32)), (.ref b99), (.ref b99)])) _
    refine st113 _ ?_
    show Steps p.tables e below (T113.setTop (mkF m 29 #[.val (.int p0), .val (.int p1), .val (.int (p1 &&& (15 : Int32))), .unset, .unset, .unset, .unset] [(.ref b99)])) _
    refine XS.dup X113.here hx rfl (hb hby at_29) rfl rfl ?_
    show Steps p.tables e below (T113.setTop (mkF m 30 #[.val (.int p0), .val (.int p1), .val (.int (p1 &&& (15 : Int32))), .unset, .unset, .unset, .unset] [(.ref b99), (.ref b99)])) _
    refine XS.iconst X113.here hx rfl (hb hby at_30) ?_
    show Steps p.tables e below (T113.setTop (mkF m 31 #[.val (.int p0), .val (.int p1), .val (.int (p1 &&& (15 : Int32))), .unset, .unset, .unset, .unset] [(.int (4 : Int32)), (.ref b99), (.ref b99)])) _
    refine XS.bipush X113.here hx rfl (hb hby at_31) ?_
    show Steps p.tables e below (T113.setTop (mkF m 33 #[.val (.int p0), .val (.int p1), .val (.int (p1 &&& (15 : Int32))), .unset, .unset, .unset, .unset] [(.int (53 : Int32)), (.int (4 : Int32)), (.ref b99), (.ref b99)])) _
    refine st117 _ ?_
    show Steps p.tables e below (T117.setTop (mkF m 34 #[.val (.int p0), .val (.int p1), .val (.int (p1 &&& (15 : Int32))), .unset, .unset, .unset, .unset] [(.ref b99)])) _
    refine XS.dup X117.here hx rfl (hb hby at_34) rfl rfl ?_
    show Steps p.tables e below (T117.setTop (mkF m 35 #[.val (.int p0), .val (.int p1), .val (.int (p1 &&& (15 : Int32))), .unset, .unset, .unset, .unset] [(.ref b99), (.ref b99)])) _
    refine XS.iconst X117.here hx rfl (hb hby at_35) ?_
    show Steps p.tables e below (T117.setTop (mkF m 36 #[.val (.int p0), .val (.int p1), .val (.int (p1 &&& (15 : Int32))), .unset, .unset, .unset, .unset] [(.int (5 : Int32)), (.ref b99), (.ref b99)])) _
    refine XS.bipush X117.here hx rfl (hb hby at_36) ?_
    show Steps p.tables e below (T117.setTop (mkF m 38 #[.val (.int p0), .val (.int p1), .val (.int (p1 &&& (15 : Int32))), .unset, .unset, .unset, .unset] [(.int (54 : Int32)), (.int (5 : Int32)), (.ref b99), (.ref b99)])) _
    refine st121 _ ?_
    show Steps p.tables e below (T121.setTop (mkF m 39 #[.val (.int p0), .val (.int p1), .val (.int (p1 &&& (15 : Int32))), .unset, .unset, .unset, .unset] [(.ref b99)])) _
    refine XS.dup X121.here hx rfl (hb hby at_39) rfl rfl ?_
    show Steps p.tables e below (T121.setTop (mkF m 40 #[.val (.int p0), .val (.int p1), .val (.int (p1 &&& (15 : Int32))), .unset, .unset, .unset, .unset] [(.ref b99), (.ref b99)])) _
    refine XS.bipush X121.here hx rfl (hb hby at_40) ?_
    show Steps p.tables e below (T121.setTop (mkF m 42 #[.val (.int p0), .val (.int p1), .val (.int (p1 &&& (15 : Int32))), .unset, .unset, .unset, .unset] [(.int (6 : Int32)), (.ref b99), (.ref b99)])) _
    refine XS.bipush X121.here hx rfl (hb hby at_42) ?_
    show Steps p.tables e below (T121.setTop (mkF m 44 #[.val (.int p0), .val (.int p1), .val (.int (p1 &&& (15 : Int32))), .unset, .unset, .unset, .unset] [(.int (55 : Int32)), (.int (6 : Int32)), (.ref b99), (.ref b99)])) _
    refine st125 _ ?_
    show Steps p.tables e below (T125.setTop (mkF m 45 #[.val (.int p0), .val (.int p1), .val (.int (p1 &&& (15 : Int32))), .unset, .unset, .unset, .unset] [(.ref b99)])) _
    refine XS.dup X125.here hx rfl (hb hby at_45) rfl rfl ?_
    show Steps p.tables e below (T125.setTop (mkF m 46 #[.val (.int p0), .val (.int p1), .val (.int (p1 &&& (15 : Int32))), .unset, .unset, .unset, .unset] [(.ref b99), (.ref b99)])) _
    refine XS.bipush X125.here hx rfl (hb hby at_46) ?_
    show Steps p.tables e below (T125.setTop (mkF m 48 #[.val (.int p0), .val (.int p1), .val (.int (p1 &&& (15 : Int32))), .unset, .unset, .unset, .unset] [(.int (7 : Int32)), (.ref b99), (.ref b99)])) _
    refine XS.bipush X125.here hx rfl (hb hby at_48) ?_
    show Steps p.tables e below (T125.setTop (mkF m 50 #[.val (.int p0), .val (.int p1), .val (.int (p1 &&& (15 : Int32))), .unset, .unset, .unset, .unset] [(.int (74 : Int32)), (.int (7 : Int32)), (.ref b99), (.ref b99)])) _
    refine st129 _ ?_
    show Steps p.tables e below (T129.setTop (mkF m 51 #[.val (.int p0), .val (.int p1), .val (.int (p1 &&& (15 : Int32))), .unset, .unset, .unset, .unset] [(.ref b99)])) _
    refine XS.dup X129.here hx rfl (hb hby at_51) rfl rfl ?_
    show Steps p.tables e below (T129.setTop (mkF m 52 #[.val (.int p0), .val (.int p1), .val (.int (p1 &&& (15 : Int32))), .unset, .unset, .unset, .unset] [(.ref b99), (.ref b99)])) _
    refine XS.bipush X129.here hx rfl (hb hby at_52) ?_
    show Steps p.tables e below (T129.setTop (mkF m 54 #[.val (.int p0), .val (.int p1), .val (.int (p1 &&& (15 : Int32))), .unset, .unset, .unset, .unset] [(.int (8 : Int32)), (.ref b99), (.ref b99)])) _
    refine XS.bipush X129.here hx rfl (hb hby at_54) ?_
    show Steps p.tables e below (T129.setTop (mkF m 56 #[.val (.int p0), .val (.int p1), .val (.int (p1 &&& (15 : Int32))), .unset, .unset, .unset, .unset] [(.int (81 : Int32)), (.int (8 : Int32)), (.ref b99), (.ref b99)])) _
    refine st133 _ ?_
    show Steps p.tables e below (T133.setTop (mkF m 57 #[.val (.int p0), .val (.int p1), .val (.int (p1 &&& (15 : Int32))), .unset, .unset, .unset, .unset] [(.ref b99)])) _
    refine XS.dup X133.here hx rfl (hb hby at_57) rfl rfl ?_
    show Steps p.tables e below (T133.setTop (mkF m 58 #[.val (.int p0), .val (.int p1), .val (.int (p1 &&& (15 : Int32))), .unset, .unset, .unset, .unset] [(.ref b99), (.ref b99)])) _
    refine XS.bipush X133.here hx rfl (hb hby at_58) ?_
    show Steps p.tables e below (T133.setTop (mkF m 60 #[.val (.int p0), .val (.int p1), .val (.int (p1 &&& (15 : Int32))), .unset, .unset, .unset, .unset] [(.int (9 : Int32)), (.ref b99), (.ref b99)])) _
    refine XS.bipush X133.here hx rfl (hb hby at_60) ?_
    show Steps p.tables e below (T133.setTop (mkF m 62 #[.val (.int p0), .val (.int p1), .val (.int (p1 &&& (15 : Int32))), .unset, .unset, .unset, .unset] [(.int (75 : Int32)), (.int (9 : Int32)), (.ref b99), (.ref b99)])) _
    refine st137 _ ?_
    show Steps p.tables e below (T137.setTop (mkF m 63 #[.val (.int p0), .val (.int p1), .val (.int (p1 &&& (15 : Int32))), .unset, .unset, .unset, .unset] [(.ref b99)])) _
    refine XS.astoreN X137.here hx rfl (hb hby at_63) rfl rfl (l' := #[.val (.int p0), .val (.int p1), .val (.int (p1 &&& (15 : Int32))), .val (.ref b99), .unset, .unset, .unset]) rfl ?_
    show Steps p.tables e below (T137.setTop (mkF m 64 #[.val (.int p0), .val (.int p1), .val (.int (p1 &&& (15 : Int32))), .val (.ref b99), .unset, .unset, .unset] [])) _
    refine XS.iloadN X137.here hx rfl (hb hby at_64) rfl ?_
    show Steps p.tables e below (T137.setTop (mkF m 65 #[.val (.int p0), .val (.int p1), .val (.int (p1 &&& (15 : Int32))), .val (.ref b99), .unset, .unset, .unset] [(.int (p1 &&& (15 : Int32)))])) _
    refine XS.bipush X137.here hx rfl (hb hby at_65) ?_
    exact kt)
  by_cases hc141 : (p1 &&& (15 : Int32)) < (10 : Int32)
  · --
    have pre142 : ∀ t, Steps p.tables e below (T137.setTop (mkF m 72 #[.val (.int p0), .val (.int p1), .val (.int (p1 &&& (15 : Int32))), .val (.ref b99), .unset, .unset, .unset] [(.int (p1 &&& (15 : Int32))), (.ref b99)])) t → Steps p.tables e below (s₁.setTop (entryFrame m #[(.int p0), (.int p1)] maxLocals)) t := fun t kt => pre140 t (by
      show Steps p.tables e below (T137.setTop (mkF m 67 #[.val (.int p0), .val (.int p1), .val (.int (p1 &&& (15 : Int32))), .val (.ref b99), .unset, .unset, .unset] [(.int (10 : Int32)), (.int (p1 &&& (15 : Int32)))])) _
      refine XS.icmpNo X137.here hx rfl (hb hby at_67) rfl (tlt hc141).2.1 ?_
      show Steps p.tables e below (T137.setTop (mkF m 70 #[.val (.int p0), .val (.int p1), .val (.int (p1 &&& (15 : Int32))), .val (.ref b99), .unset, .unset, .unset] [])) _
      refine XS.aloadN X137.here hx rfl (hb hby at_70) rfl rfl ?_
      show Steps p.tables e below (T137.setTop (mkF m 71 #[.val (.int p0), .val (.int p1), .val (.int (p1 &&& (15 : Int32))), .val (.ref b99), .unset, .unset, .unset] [(.ref b99)])) _
      refine XS.iloadN X137.here hx rfl (hb hby at_71) rfl ?_
      exact kt)
    by_cases hc143 : (p1 &&& (15 : Int32)) = (0 : Int32)
    · --
      obtain ⟨cl144, Ar144, -, S144, N144, H144, -⟩ := id V137
      have hin144 : ¬ ((p1 &&& (15 : Int32)) < 0 ∨ cl144.slots.size ≤ ((p1 &&& (15 : Int32))).toNatClampNeg) := by rw [hc143]; exact inb_of S144 ⟨by decide, by decide⟩
      have pre145 : ∀ t, Steps p.tables e below (T137.setTop (mkF m 87 #[.val (.int p0), .val (.int p1), .val (.int (p1 &&& (15 : Int32))), .val (.ref b99), .val (.int (65 : Int32)), .unset, .unset] [(.int (65 : Int32))])) t → Steps p.tables e below (s₁.setTop (entryFrame m #[(.int p0), (.int p1)] maxLocals)) t := fun t kt => pre142 t (by
        show Steps p.tables e below (T137.setTop (mkF m 72 #[.val (.int p0), .val (.int p1), .val (.int (p1 &&& (15 : Int32))), .val (.ref b99), .unset, .unset, .unset] [(.int (p1 &&& (15 : Int32))), (.ref b99)])) _
        refine X137.caload hx (j := (p1 &&& (15 : Int32))) (v := (.int (65 : Int32))) (by rw [e137]; exact Ar144.1) (State.isArrayOf_alike hZ.alike Ar144.2.1) Ar144.2.2 hin144 (H144.at hin144 (by rw [hc143]; rfl)) (g := (mkF m 72 #[.val (.int p0), .val (.int p1), .val (.int (p1 &&& (15 : Int32))), .val (.ref b99), .unset, .unset, .unset] [(.int (p1 &&& (15 : Int32))), (.ref b99)])) rfl rfl (hb hby at_72) _ ?_
        show Steps p.tables e below (T137.setTop (mkF m 73 #[.val (.int p0), .val (.int p1), .val (.int (p1 &&& (15 : Int32))), .val (.ref b99), .unset, .unset, .unset] [(.int (65 : Int32))])) _
        refine XS.istore X137.here hx rfl (hb hby at_73) rfl (l' := #[.val (.int p0), .val (.int p1), .val (.int (p1 &&& (15 : Int32))), .val (.ref b99), .val (.int (65 : Int32)), .unset, .unset]) rfl ?_
        show Steps p.tables e below (T137.setTop (mkF m 75 #[.val (.int p0), .val (.int p1), .val (.int (p1 &&& (15 : Int32))), .val (.ref b99), .val (.int (65 : Int32)), .unset, .unset] [])) _
        refine XS.goto X137.here hx rfl (pc0 := 75) (pc' := 85) rfl (hb hby at_75) (by decide) (by decide) ?_
        show Steps p.tables e below (T137.setTop (mkF m 85 #[.val (.int p0), .val (.int p1), .val (.int (p1 &&& (15 : Int32))), .val (.ref b99), .val (.int (65 : Int32)), .unset, .unset] [])) _
        refine XS.iload X137.here hx rfl (hb hby at_85) rfl ?_
        exact kt)
      obtain ⟨vr146, _, ⟨T146, L146, k146, n146⟩, -, X146, ⟨Lc146, hQ146, l146, y146, z146⟩, st146⟩ := Jvm.LawKit.callS X137 hx (y := (⟨"com/example/smazzata/smazzata/card/RankFromCodePinLaw", "expectedRank", "(C)Lcom/example/smazzata/smazzata/card/Rank;"⟩ : MethodName)) hown (mvT hZ (hw _ (List.mem_of_getElem? (i := 1) rfl))) (mvT hZ (hw _ (List.mem_of_getElem? (i := 2) rfl))) (mvT hZ (hw _ (List.mem_of_getElem? (i := 3) rfl))) (mvT hZ (hw _ (List.mem_of_getElem? (i := 4) rfl))) (by decide) (backOf (W := 0) (rm1 l Z a0 hw [] u (65 : Int32) B h137 n0 O137 ) hZ (hw _ (List.mem_of_getElem? (i := 4) rfl)) (hw _ (List.mem_of_getElem? (i := 3) rfl)) (by decide) (by decide)) (g := (mkF m 87 #[.val (.int p0), .val (.int p1), .val (.int (p1 &&& (15 : Int32))), .val (.ref b99), .val (.int (65 : Int32)), .unset, .unset] [(.int (65 : Int32))])) rfl (by rw [hml]; rfl) (argsL := [(.int (65 : Int32))]) (rest := []) (lenOf own_pd1 rfl) rfl (by show 2 * 0 + _ ≤ _; exact Nat.le_of_eq rfl) (hb hby at_87) (fun _ _ => ⟨rfl, e137, (by decide : 1 + 0 ≤ _), (by decide : 10 + 0 ≤ _)⟩)
      dsimp only [Pt.U, Pt.locs, Pt.cells, Pt.slots] at X146 l146 y146 z146 st146 hQ146
      subst l146 y146 z146
      obtain ⟨hv146, N146q, e146⟩ := hQ146
      have N146 := Fr.app Nf137 N146q
      obtain rfl : vr146 = some (.ref (u 2)) := hv146.trans (by unfold own_r1; rw [if_pos (by decide : (65 : Int32) = (65 : Int32))])
      have pre147 : ∀ t, Steps p.tables e below (T146.setTop (mkF m 94 #[.val (.int p0), .val (.int p1), .val (.int (p1 &&& (15 : Int32))), .val (.ref b99), .val (.int (65 : Int32)), .val (.ref (u 2)), .unset] [(.int (65 : Int32))])) t → Steps p.tables e below (s₁.setTop (entryFrame m #[(.int p0), (.int p1)] maxLocals)) t := fun t kt => pre145 t (by
        show Steps p.tables e below (T137.setTop (mkF m 87 #[.val (.int p0), .val (.int p1), .val (.int (p1 &&& (15 : Int32))), .val (.ref b99), .val (.int (65 : Int32)), .unset, .unset] [(.int (65 : Int32))])) _
        refine st146 _ ?_
        show Steps p.tables e below (T146.setTop (mkF m 90 #[.val (.int p0), .val (.int p1), .val (.int (p1 &&& (15 : Int32))), .val (.ref b99), .val (.int (65 : Int32)), .unset, .unset] [(.ref (u 2))])) _
        refine XS.astore X146.here hx rfl (hb hby at_90) rfl rfl (l' := #[.val (.int p0), .val (.int p1), .val (.int (p1 &&& (15 : Int32))), .val (.ref b99), .val (.int (65 : Int32)), .val (.ref (u 2)), .unset]) rfl ?_
        show Steps p.tables e below (T146.setTop (mkF m 92 #[.val (.int p0), .val (.int p1), .val (.int (p1 &&& (15 : Int32))), .val (.ref b99), .val (.int (65 : Int32)), .val (.ref (u 2)), .unset] [])) _
        refine XS.iload X146.here hx rfl (hb hby at_92) rfl ?_
        exact kt)
      obtain ⟨vr148, _, ⟨T148, L148, k148, n148⟩, -, X148, ⟨Lc148, hQ148, l148, y148, z148⟩, st148⟩ := Jvm.LawKit.callS X146 hx (y := (⟨"com/example/smazzata/smazzata/card/Rank", "fromCode", "(C)Lcom/example/smazzata/smazzata/card/Rank;"⟩ : MethodName)) hown (mvT hZ (hw _ (List.mem_of_getElem? (i := 8) rfl))) (mvT hZ (hw _ (List.mem_of_getElem? (i := 9) rfl))) (mvT hZ (hw _ (List.mem_of_getElem? (i := 6) rfl))) (mvT hZ (hw _ (List.mem_of_getElem? (i := 10) rfl))) (by decide) (backOf (W := 0) (rm2 l Z a0 hw [] u (65 : Int32) B h137 n0 O137 ) hZ (hw _ (List.mem_of_getElem? (i := 10) rfl)) (hw _ (List.mem_of_getElem? (i := 6) rfl)) (by decide) (by decide)) (g := (mkF m 94 #[.val (.int p0), .val (.int p1), .val (.int (p1 &&& (15 : Int32))), .val (.ref b99), .val (.int (65 : Int32)), .val (.ref (u 2)), .unset] [(.int (65 : Int32))])) rfl (by rw [hml]; rfl) (argsL := [(.int (65 : Int32))]) (rest := []) (lenOf own_pd1 rfl) rfl (by show 2 * 0 + _ ≤ _; exact Nat.le_of_eq rfl) (hb hby at_94) (fun _ _ => ⟨rfl, e146, (by decide : 1 + 1 ≤ _), (by decide : 10 + 10 ≤ _)⟩)
      dsimp only [Pt.U, Pt.locs, Pt.cells, Pt.slots] at X148 l148 y148 z148 st148 hQ148
      subst l148 y148 z148
      obtain ⟨hv148, N148q, E148⟩ := hQ148
      have N148 := Fr.app N146 N148q
      have O148 := O137.ext E148
      have K148 := K137.ext E148
      have f149 := V137.ext E148
      obtain rfl : vr148 = some (.ref (u 2)) := hv148.trans (by unfold own_r2; rw [if_pos (by decide : (65 : Int32) = (65 : Int32))])
      obtain ⟨fs, hr, hrun, hended, hW, hsame⟩ := X148.leave (v := some (.int (1 : Int32))) (fun h => by rw [Bd.returns] at h; cases h)
      refine ⟨_, _, pre147 _ ?_, hrun, hended, _, _, rfl, ?_, ⟨_, rfl⟩, hW, hsame.mono (by decide) (by decide)⟩
      · show Steps p.tables e below (T146.setTop (mkF m 94 #[.val (.int p0), .val (.int p1), .val (.int (p1 &&& (15 : Int32))), .val (.ref b99), .val (.int (65 : Int32)), .val (.ref (u 2)), .unset] [(.int (65 : Int32))])) _
        refine st148 _ ?_
        show Steps p.tables e below (T148.setTop (mkF m 97 #[.val (.int p0), .val (.int p1), .val (.int (p1 &&& (15 : Int32))), .val (.ref b99), .val (.int (65 : Int32)), .val (.ref (u 2)), .unset] [(.ref (u 2))])) _
        refine XS.astore X148.here hx rfl (hb hby at_97) rfl rfl (l' := #[.val (.int p0), .val (.int p1), .val (.int (p1 &&& (15 : Int32))), .val (.ref b99), .val (.int (65 : Int32)), .val (.ref (u 2)), .val (.ref (u 2))]) rfl ?_
        show Steps p.tables e below (T148.setTop (mkF m 99 #[.val (.int p0), .val (.int p1), .val (.int (p1 &&& (15 : Int32))), .val (.ref b99), .val (.int (65 : Int32)), .val (.ref (u 2)), .val (.ref (u 2))] [])) _
        refine XS.aload X148.here hx rfl (hb hby at_99) rfl rfl ?_
        show Steps p.tables e below (T148.setTop (mkF m 101 #[.val (.int p0), .val (.int p1), .val (.int (p1 &&& (15 : Int32))), .val (.ref b99), .val (.int (65 : Int32)), .val (.ref (u 2)), .val (.ref (u 2))] [(.ref (u 2))])) _
        refine XS.aload X148.here hx rfl (hb hby at_101) rfl rfl ?_
        show Steps p.tables e below (T148.setTop (mkF m 103 #[.val (.int p0), .val (.int p1), .val (.int (p1 &&& (15 : Int32))), .val (.ref b99), .val (.int (65 : Int32)), .val (.ref (u 2)), .val (.ref (u 2))] [(.ref (u 2)), (.ref (u 2))])) _
        refine Jvm.RoadKit.acmp (g := (mkF m 103 #[.val (.int p0), .val (.int p1), .val (.int (p1 &&& (15 : Int32))), .val (.ref b99), .val (.int (65 : Int32)), .val (.ref (u 2)), .val (.ref (u 2))] [(.ref (u 2)), (.ref (u 2))])) X148 hx rfl rfl rfl (pc0 := 103) (pc' := 106) (same := true) rfl (hb hby at_103) rfl (decide_eq_true rfl) (by decide) (by decide) ?_
        show Steps p.tables e below (T148.setTop (mkF m 106 #[.val (.int p0), .val (.int p1), .val (.int (p1 &&& (15 : Int32))), .val (.ref b99), .val (.int (65 : Int32)), .val (.ref (u 2)), .val (.ref (u 2))] [])) _
        refine XS.iconst X148.here hx rfl (hb hby at_106) ?_
        show Steps p.tables e below (T148.setTop (mkF m 107 #[.val (.int p0), .val (.int p1), .val (.int (p1 &&& (15 : Int32))), .val (.ref b99), .val (.int (65 : Int32)), .val (.ref (u 2)), .val (.ref (u 2))] [(.int (1 : Int32))])) _
        refine XS.goto X148.here hx rfl (pc0 := 107) (pc' := 111) rfl (hb hby at_107) (by decide) (by decide) ?_
        show Steps p.tables e below (T148.setTop (mkF m 111 #[.val (.int p0), .val (.int p1), .val (.int (p1 &&& (15 : Int32))), .val (.ref b99), .val (.int (65 : Int32)), .val (.ref (u 2)), .val (.ref (u 2))] [(.int (1 : Int32))])) _
        exact retN X148 hx (t := .boolean) Bd.returns (by simp) (hb hby at_111) hr
      · show own_Q0 Z u p0 p1 h0 n0 _ T148.heap _
        exact ⟨rfl, N148, trivial⟩
    · --
      by_cases hc151 : (p1 &&& (15 : Int32)) = (1 : Int32)
      · --
        obtain ⟨cl152, Ar152, -, S152, N152, H152, -⟩ := id V137
        have hin152 : ¬ ((p1 &&& (15 : Int32)) < 0 ∨ cl152.slots.size ≤ ((p1 &&& (15 : Int32))).toNatClampNeg) := by rw [hc151]; exact inb_of S152 ⟨by decide, by decide⟩
        have pre153 : ∀ t, Steps p.tables e below (T137.setTop (mkF m 87 #[.val (.int p0), .val (.int p1), .val (.int (p1 &&& (15 : Int32))), .val (.ref b99), .val (.int (50 : Int32)), .unset, .unset] [(.int (50 : Int32))])) t → Steps p.tables e below (s₁.setTop (entryFrame m #[(.int p0), (.int p1)] maxLocals)) t := fun t kt => pre142 t (by
          show Steps p.tables e below (T137.setTop (mkF m 72 #[.val (.int p0), .val (.int p1), .val (.int (p1 &&& (15 : Int32))), .val (.ref b99), .unset, .unset, .unset] [(.int (p1 &&& (15 : Int32))), (.ref b99)])) _
          refine X137.caload hx (j := (p1 &&& (15 : Int32))) (v := (.int (50 : Int32))) (by rw [e137]; exact Ar152.1) (State.isArrayOf_alike hZ.alike Ar152.2.1) Ar152.2.2 hin152 (H152.at hin152 (by rw [hc151]; rfl)) (g := (mkF m 72 #[.val (.int p0), .val (.int p1), .val (.int (p1 &&& (15 : Int32))), .val (.ref b99), .unset, .unset, .unset] [(.int (p1 &&& (15 : Int32))), (.ref b99)])) rfl rfl (hb hby at_72) _ ?_
          show Steps p.tables e below (T137.setTop (mkF m 73 #[.val (.int p0), .val (.int p1), .val (.int (p1 &&& (15 : Int32))), .val (.ref b99), .unset, .unset, .unset] [(.int (50 : Int32))])) _
          refine XS.istore X137.here hx rfl (hb hby at_73) rfl (l' := #[.val (.int p0), .val (.int p1), .val (.int (p1 &&& (15 : Int32))), .val (.ref b99), .val (.int (50 : Int32)), .unset, .unset]) rfl ?_
          show Steps p.tables e below (T137.setTop (mkF m 75 #[.val (.int p0), .val (.int p1), .val (.int (p1 &&& (15 : Int32))), .val (.ref b99), .val (.int (50 : Int32)), .unset, .unset] [])) _
          refine XS.goto X137.here hx rfl (pc0 := 75) (pc' := 85) rfl (hb hby at_75) (by decide) (by decide) ?_
          show Steps p.tables e below (T137.setTop (mkF m 85 #[.val (.int p0), .val (.int p1), .val (.int (p1 &&& (15 : Int32))), .val (.ref b99), .val (.int (50 : Int32)), .unset, .unset] [])) _
          refine XS.iload X137.here hx rfl (hb hby at_85) rfl ?_
          exact kt)
        obtain ⟨vr154, _, ⟨T154, L154, k154, n154⟩, -, X154, ⟨Lc154, hQ154, l154, y154, z154⟩, st154⟩ := Jvm.LawKit.callS X137 hx (y := (⟨"com/example/smazzata/smazzata/card/RankFromCodePinLaw", "expectedRank", "(C)Lcom/example/smazzata/smazzata/card/Rank;"⟩ : MethodName)) hown (mvT hZ (hw _ (List.mem_of_getElem? (i := 1) rfl))) (mvT hZ (hw _ (List.mem_of_getElem? (i := 2) rfl))) (mvT hZ (hw _ (List.mem_of_getElem? (i := 3) rfl))) (mvT hZ (hw _ (List.mem_of_getElem? (i := 4) rfl))) (by decide) (backOf (W := 0) (rm1 l Z a0 hw [] u (50 : Int32) B h137 n0 O137 ) hZ (hw _ (List.mem_of_getElem? (i := 4) rfl)) (hw _ (List.mem_of_getElem? (i := 3) rfl)) (by decide) (by decide)) (g := (mkF m 87 #[.val (.int p0), .val (.int p1), .val (.int (p1 &&& (15 : Int32))), .val (.ref b99), .val (.int (50 : Int32)), .unset, .unset] [(.int (50 : Int32))])) rfl (by rw [hml]; rfl) (argsL := [(.int (50 : Int32))]) (rest := []) (lenOf own_pd1 rfl) rfl (by show 2 * 0 + _ ≤ _; exact Nat.le_of_eq rfl) (hb hby at_87) (fun _ _ => ⟨rfl, e137, (by decide : 1 + 0 ≤ _), (by decide : 10 + 0 ≤ _)⟩)
        dsimp only [Pt.U, Pt.locs, Pt.cells, Pt.slots] at X154 l154 y154 z154 st154 hQ154
        subst l154 y154 z154
        obtain ⟨hv154, N154q, e154⟩ := hQ154
        have N154 := Fr.app Nf137 N154q
        obtain rfl : vr154 = some (.ref (u 3)) := hv154.trans (by unfold own_r1; rw [if_neg (by decide : ¬ ((50 : Int32) = (65 : Int32))), if_pos (by decide : (50 : Int32) = (50 : Int32))])
        have pre155 : ∀ t, Steps p.tables e below (T154.setTop (mkF m 94 #[.val (.int p0), .val (.int p1), .val (.int (p1 &&& (15 : Int32))), .val (.ref b99), .val (.int (50 : Int32)), .val (.ref (u 3)), .unset] [(.int (50 : Int32))])) t → Steps p.tables e below (s₁.setTop (entryFrame m #[(.int p0), (.int p1)] maxLocals)) t := fun t kt => pre153 t (by
          show Steps p.tables e below (T137.setTop (mkF m 87 #[.val (.int p0), .val (.int p1), .val (.int (p1 &&& (15 : Int32))), .val (.ref b99), .val (.int (50 : Int32)), .unset, .unset] [(.int (50 : Int32))])) _
          refine st154 _ ?_
          show Steps p.tables e below (T154.setTop (mkF m 90 #[.val (.int p0), .val (.int p1), .val (.int (p1 &&& (15 : Int32))), .val (.ref b99), .val (.int (50 : Int32)), .unset, .unset] [(.ref (u 3))])) _
          refine XS.astore X154.here hx rfl (hb hby at_90) rfl rfl (l' := #[.val (.int p0), .val (.int p1), .val (.int (p1 &&& (15 : Int32))), .val (.ref b99), .val (.int (50 : Int32)), .val (.ref (u 3)), .unset]) rfl ?_
          show Steps p.tables e below (T154.setTop (mkF m 92 #[.val (.int p0), .val (.int p1), .val (.int (p1 &&& (15 : Int32))), .val (.ref b99), .val (.int (50 : Int32)), .val (.ref (u 3)), .unset] [])) _
          refine XS.iload X154.here hx rfl (hb hby at_92) rfl ?_
          exact kt)
        obtain ⟨vr156, _, ⟨T156, L156, k156, n156⟩, -, X156, ⟨Lc156, hQ156, l156, y156, z156⟩, st156⟩ := Jvm.LawKit.callS X154 hx (y := (⟨"com/example/smazzata/smazzata/card/Rank", "fromCode", "(C)Lcom/example/smazzata/smazzata/card/Rank;"⟩ : MethodName)) hown (mvT hZ (hw _ (List.mem_of_getElem? (i := 8) rfl))) (mvT hZ (hw _ (List.mem_of_getElem? (i := 9) rfl))) (mvT hZ (hw _ (List.mem_of_getElem? (i := 6) rfl))) (mvT hZ (hw _ (List.mem_of_getElem? (i := 10) rfl))) (by decide) (backOf (W := 0) (rm2 l Z a0 hw [] u (50 : Int32) B h137 n0 O137 ) hZ (hw _ (List.mem_of_getElem? (i := 10) rfl)) (hw _ (List.mem_of_getElem? (i := 6) rfl)) (by decide) (by decide)) (g := (mkF m 94 #[.val (.int p0), .val (.int p1), .val (.int (p1 &&& (15 : Int32))), .val (.ref b99), .val (.int (50 : Int32)), .val (.ref (u 3)), .unset] [(.int (50 : Int32))])) rfl (by rw [hml]; rfl) (argsL := [(.int (50 : Int32))]) (rest := []) (lenOf own_pd1 rfl) rfl (by show 2 * 0 + _ ≤ _; exact Nat.le_of_eq rfl) (hb hby at_94) (fun _ _ => ⟨rfl, e154, (by decide : 1 + 1 ≤ _), (by decide : 10 + 10 ≤ _)⟩)
        dsimp only [Pt.U, Pt.locs, Pt.cells, Pt.slots] at X156 l156 y156 z156 st156 hQ156
        subst l156 y156 z156
        obtain ⟨hv156, N156q, E156⟩ := hQ156
        have N156 := Fr.app N154 N156q
        have O156 := O137.ext E156
        have K156 := K137.ext E156
        have f157 := V137.ext E156
        obtain rfl : vr156 = some (.ref (u 3)) := hv156.trans (by unfold own_r2; rw [if_neg (by decide : ¬ ((65 : Int32) = (50 : Int32))), if_pos (by decide : (50 : Int32) = (50 : Int32))])
        obtain ⟨fs, hr, hrun, hended, hW, hsame⟩ := X156.leave (v := some (.int (1 : Int32))) (fun h => by rw [Bd.returns] at h; cases h)
        refine ⟨_, _, pre155 _ ?_, hrun, hended, _, _, rfl, ?_, ⟨_, rfl⟩, hW, hsame.mono (by decide) (by decide)⟩
        · show Steps p.tables e below (T154.setTop (mkF m 94 #[.val (.int p0), .val (.int p1), .val (.int (p1 &&& (15 : Int32))), .val (.ref b99), .val (.int (50 : Int32)), .val (.ref (u 3)), .unset] [(.int (50 : Int32))])) _
          refine st156 _ ?_
          show Steps p.tables e below (T156.setTop (mkF m 97 #[.val (.int p0), .val (.int p1), .val (.int (p1 &&& (15 : Int32))), .val (.ref b99), .val (.int (50 : Int32)), .val (.ref (u 3)), .unset] [(.ref (u 3))])) _
          refine XS.astore X156.here hx rfl (hb hby at_97) rfl rfl (l' := #[.val (.int p0), .val (.int p1), .val (.int (p1 &&& (15 : Int32))), .val (.ref b99), .val (.int (50 : Int32)), .val (.ref (u 3)), .val (.ref (u 3))]) rfl ?_
          show Steps p.tables e below (T156.setTop (mkF m 99 #[.val (.int p0), .val (.int p1), .val (.int (p1 &&& (15 : Int32))), .val (.ref b99), .val (.int (50 : Int32)), .val (.ref (u 3)), .val (.ref (u 3))] [])) _
          refine XS.aload X156.here hx rfl (hb hby at_99) rfl rfl ?_
          show Steps p.tables e below (T156.setTop (mkF m 101 #[.val (.int p0), .val (.int p1), .val (.int (p1 &&& (15 : Int32))), .val (.ref b99), .val (.int (50 : Int32)), .val (.ref (u 3)), .val (.ref (u 3))] [(.ref (u 3))])) _
          refine XS.aload X156.here hx rfl (hb hby at_101) rfl rfl ?_
          show Steps p.tables e below (T156.setTop (mkF m 103 #[.val (.int p0), .val (.int p1), .val (.int (p1 &&& (15 : Int32))), .val (.ref b99), .val (.int (50 : Int32)), .val (.ref (u 3)), .val (.ref (u 3))] [(.ref (u 3)), (.ref (u 3))])) _
          refine Jvm.RoadKit.acmp (g := (mkF m 103 #[.val (.int p0), .val (.int p1), .val (.int (p1 &&& (15 : Int32))), .val (.ref b99), .val (.int (50 : Int32)), .val (.ref (u 3)), .val (.ref (u 3))] [(.ref (u 3)), (.ref (u 3))])) X156 hx rfl rfl rfl (pc0 := 103) (pc' := 106) (same := true) rfl (hb hby at_103) rfl (decide_eq_true rfl) (by decide) (by decide) ?_
          show Steps p.tables e below (T156.setTop (mkF m 106 #[.val (.int p0), .val (.int p1), .val (.int (p1 &&& (15 : Int32))), .val (.ref b99), .val (.int (50 : Int32)), .val (.ref (u 3)), .val (.ref (u 3))] [])) _
          refine XS.iconst X156.here hx rfl (hb hby at_106) ?_
          show Steps p.tables e below (T156.setTop (mkF m 107 #[.val (.int p0), .val (.int p1), .val (.int (p1 &&& (15 : Int32))), .val (.ref b99), .val (.int (50 : Int32)), .val (.ref (u 3)), .val (.ref (u 3))] [(.int (1 : Int32))])) _
          refine XS.goto X156.here hx rfl (pc0 := 107) (pc' := 111) rfl (hb hby at_107) (by decide) (by decide) ?_
          show Steps p.tables e below (T156.setTop (mkF m 111 #[.val (.int p0), .val (.int p1), .val (.int (p1 &&& (15 : Int32))), .val (.ref b99), .val (.int (50 : Int32)), .val (.ref (u 3)), .val (.ref (u 3))] [(.int (1 : Int32))])) _
          exact retN X156 hx (t := .boolean) Bd.returns (by simp) (hb hby at_111) hr
        · show own_Q0 Z u p0 p1 h0 n0 _ T156.heap _
          exact ⟨rfl, N156, trivial⟩
      · --
        by_cases hc159 : (p1 &&& (15 : Int32)) = (2 : Int32)
        · --
          obtain ⟨cl160, Ar160, -, S160, N160, H160, -⟩ := id V137
          have hin160 : ¬ ((p1 &&& (15 : Int32)) < 0 ∨ cl160.slots.size ≤ ((p1 &&& (15 : Int32))).toNatClampNeg) := by rw [hc159]; exact inb_of S160 ⟨by decide, by decide⟩
          have pre161 : ∀ t, Steps p.tables e below (T137.setTop (mkF m 87 #[.val (.int p0), .val (.int p1), .val (.int (p1 &&& (15 : Int32))), .val (.ref b99), .val (.int (51 : Int32)), .unset, .unset] [(.int (51 : Int32))])) t → Steps p.tables e below (s₁.setTop (entryFrame m #[(.int p0), (.int p1)] maxLocals)) t := fun t kt => pre142 t (by
            show Steps p.tables e below (T137.setTop (mkF m 72 #[.val (.int p0), .val (.int p1), .val (.int (p1 &&& (15 : Int32))), .val (.ref b99), .unset, .unset, .unset] [(.int (p1 &&& (15 : Int32))), (.ref b99)])) _
            refine X137.caload hx (j := (p1 &&& (15 : Int32))) (v := (.int (51 : Int32))) (by rw [e137]; exact Ar160.1) (State.isArrayOf_alike hZ.alike Ar160.2.1) Ar160.2.2 hin160 (H160.at hin160 (by rw [hc159]; rfl)) (g := (mkF m 72 #[.val (.int p0), .val (.int p1), .val (.int (p1 &&& (15 : Int32))), .val (.ref b99), .unset, .unset, .unset] [(.int (p1 &&& (15 : Int32))), (.ref b99)])) rfl rfl (hb hby at_72) _ ?_
            show Steps p.tables e below (T137.setTop (mkF m 73 #[.val (.int p0), .val (.int p1), .val (.int (p1 &&& (15 : Int32))), .val (.ref b99), .unset, .unset, .unset] [(.int (51 : Int32))])) _
            refine XS.istore X137.here hx rfl (hb hby at_73) rfl (l' := #[.val (.int p0), .val (.int p1), .val (.int (p1 &&& (15 : Int32))), .val (.ref b99), .val (.int (51 : Int32)), .unset, .unset]) rfl ?_
            show Steps p.tables e below (T137.setTop (mkF m 75 #[.val (.int p0), .val (.int p1), .val (.int (p1 &&& (15 : Int32))), .val (.ref b99), .val (.int (51 : Int32)), .unset, .unset] [])) _
            refine XS.goto X137.here hx rfl (pc0 := 75) (pc' := 85) rfl (hb hby at_75) (by decide) (by decide) ?_
            show Steps p.tables e below (T137.setTop (mkF m 85 #[.val (.int p0), .val (.int p1), .val (.int (p1 &&& (15 : Int32))), .val (.ref b99), .val (.int (51 : Int32)), .unset, .unset] [])) _
            refine XS.iload X137.here hx rfl (hb hby at_85) rfl ?_
            exact kt)
          obtain ⟨vr162, _, ⟨T162, L162, k162, n162⟩, -, X162, ⟨Lc162, hQ162, l162, y162, z162⟩, st162⟩ := Jvm.LawKit.callS X137 hx (y := (⟨"com/example/smazzata/smazzata/card/RankFromCodePinLaw", "expectedRank", "(C)Lcom/example/smazzata/smazzata/card/Rank;"⟩ : MethodName)) hown (mvT hZ (hw _ (List.mem_of_getElem? (i := 1) rfl))) (mvT hZ (hw _ (List.mem_of_getElem? (i := 2) rfl))) (mvT hZ (hw _ (List.mem_of_getElem? (i := 3) rfl))) (mvT hZ (hw _ (List.mem_of_getElem? (i := 4) rfl))) (by decide) (backOf (W := 0) (rm1 l Z a0 hw [] u (51 : Int32) B h137 n0 O137 ) hZ (hw _ (List.mem_of_getElem? (i := 4) rfl)) (hw _ (List.mem_of_getElem? (i := 3) rfl)) (by decide) (by decide)) (g := (mkF m 87 #[.val (.int p0), .val (.int p1), .val (.int (p1 &&& (15 : Int32))), .val (.ref b99), .val (.int (51 : Int32)), .unset, .unset] [(.int (51 : Int32))])) rfl (by rw [hml]; rfl) (argsL := [(.int (51 : Int32))]) (rest := []) (lenOf own_pd1 rfl) rfl (by show 2 * 0 + _ ≤ _; exact Nat.le_of_eq rfl) (hb hby at_87) (fun _ _ => ⟨rfl, e137, (by decide : 1 + 0 ≤ _), (by decide : 10 + 0 ≤ _)⟩)
          dsimp only [Pt.U, Pt.locs, Pt.cells, Pt.slots] at X162 l162 y162 z162 st162 hQ162
          subst l162 y162 z162
          obtain ⟨hv162, N162q, e162⟩ := hQ162
          have N162 := Fr.app Nf137 N162q
          obtain rfl : vr162 = some (.ref (u 4)) := hv162.trans (by unfold own_r1; rw [if_neg (by decide : ¬ ((51 : Int32) = (65 : Int32))), if_neg (by decide : ¬ ((51 : Int32) = (50 : Int32))), if_pos (by decide : (51 : Int32) = (51 : Int32))])
          have pre163 : ∀ t, Steps p.tables e below (T162.setTop (mkF m 94 #[.val (.int p0), .val (.int p1), .val (.int (p1 &&& (15 : Int32))), .val (.ref b99), .val (.int (51 : Int32)), .val (.ref (u 4)), .unset] [(.int (51 : Int32))])) t → Steps p.tables e below (s₁.setTop (entryFrame m #[(.int p0), (.int p1)] maxLocals)) t := fun t kt => pre161 t (by
            show Steps p.tables e below (T137.setTop (mkF m 87 #[.val (.int p0), .val (.int p1), .val (.int (p1 &&& (15 : Int32))), .val (.ref b99), .val (.int (51 : Int32)), .unset, .unset] [(.int (51 : Int32))])) _
            refine st162 _ ?_
            show Steps p.tables e below (T162.setTop (mkF m 90 #[.val (.int p0), .val (.int p1), .val (.int (p1 &&& (15 : Int32))), .val (.ref b99), .val (.int (51 : Int32)), .unset, .unset] [(.ref (u 4))])) _
            refine XS.astore X162.here hx rfl (hb hby at_90) rfl rfl (l' := #[.val (.int p0), .val (.int p1), .val (.int (p1 &&& (15 : Int32))), .val (.ref b99), .val (.int (51 : Int32)), .val (.ref (u 4)), .unset]) rfl ?_
            show Steps p.tables e below (T162.setTop (mkF m 92 #[.val (.int p0), .val (.int p1), .val (.int (p1 &&& (15 : Int32))), .val (.ref b99), .val (.int (51 : Int32)), .val (.ref (u 4)), .unset] [])) _
            refine XS.iload X162.here hx rfl (hb hby at_92) rfl ?_
            exact kt)
          obtain ⟨vr164, _, ⟨T164, L164, k164, n164⟩, -, X164, ⟨Lc164, hQ164, l164, y164, z164⟩, st164⟩ := Jvm.LawKit.callS X162 hx (y := (⟨"com/example/smazzata/smazzata/card/Rank", "fromCode", "(C)Lcom/example/smazzata/smazzata/card/Rank;"⟩ : MethodName)) hown (mvT hZ (hw _ (List.mem_of_getElem? (i := 8) rfl))) (mvT hZ (hw _ (List.mem_of_getElem? (i := 9) rfl))) (mvT hZ (hw _ (List.mem_of_getElem? (i := 6) rfl))) (mvT hZ (hw _ (List.mem_of_getElem? (i := 10) rfl))) (by decide) (backOf (W := 0) (rm2 l Z a0 hw [] u (51 : Int32) B h137 n0 O137 ) hZ (hw _ (List.mem_of_getElem? (i := 10) rfl)) (hw _ (List.mem_of_getElem? (i := 6) rfl)) (by decide) (by decide)) (g := (mkF m 94 #[.val (.int p0), .val (.int p1), .val (.int (p1 &&& (15 : Int32))), .val (.ref b99), .val (.int (51 : Int32)), .val (.ref (u 4)), .unset] [(.int (51 : Int32))])) rfl (by rw [hml]; rfl) (argsL := [(.int (51 : Int32))]) (rest := []) (lenOf own_pd1 rfl) rfl (by show 2 * 0 + _ ≤ _; exact Nat.le_of_eq rfl) (hb hby at_94) (fun _ _ => ⟨rfl, e162, (by decide : 1 + 1 ≤ _), (by decide : 10 + 10 ≤ _)⟩)
          dsimp only [Pt.U, Pt.locs, Pt.cells, Pt.slots] at X164 l164 y164 z164 st164 hQ164
          subst l164 y164 z164
          obtain ⟨hv164, N164q, E164⟩ := hQ164
          have N164 := Fr.app N162 N164q
          have O164 := O137.ext E164
          have K164 := K137.ext E164
          have f165 := V137.ext E164
          obtain rfl : vr164 = some (.ref (u 4)) := hv164.trans (by unfold own_r2; rw [if_neg (by decide : ¬ ((65 : Int32) = (51 : Int32))), if_neg (by decide : ¬ ((50 : Int32) = (51 : Int32))), if_pos (by decide : (51 : Int32) = (51 : Int32))])
          obtain ⟨fs, hr, hrun, hended, hW, hsame⟩ := X164.leave (v := some (.int (1 : Int32))) (fun h => by rw [Bd.returns] at h; cases h)
          refine ⟨_, _, pre163 _ ?_, hrun, hended, _, _, rfl, ?_, ⟨_, rfl⟩, hW, hsame.mono (by decide) (by decide)⟩
          · show Steps p.tables e below (T162.setTop (mkF m 94 #[.val (.int p0), .val (.int p1), .val (.int (p1 &&& (15 : Int32))), .val (.ref b99), .val (.int (51 : Int32)), .val (.ref (u 4)), .unset] [(.int (51 : Int32))])) _
            refine st164 _ ?_
            show Steps p.tables e below (T164.setTop (mkF m 97 #[.val (.int p0), .val (.int p1), .val (.int (p1 &&& (15 : Int32))), .val (.ref b99), .val (.int (51 : Int32)), .val (.ref (u 4)), .unset] [(.ref (u 4))])) _
            refine XS.astore X164.here hx rfl (hb hby at_97) rfl rfl (l' := #[.val (.int p0), .val (.int p1), .val (.int (p1 &&& (15 : Int32))), .val (.ref b99), .val (.int (51 : Int32)), .val (.ref (u 4)), .val (.ref (u 4))]) rfl ?_
            show Steps p.tables e below (T164.setTop (mkF m 99 #[.val (.int p0), .val (.int p1), .val (.int (p1 &&& (15 : Int32))), .val (.ref b99), .val (.int (51 : Int32)), .val (.ref (u 4)), .val (.ref (u 4))] [])) _
            refine XS.aload X164.here hx rfl (hb hby at_99) rfl rfl ?_
            show Steps p.tables e below (T164.setTop (mkF m 101 #[.val (.int p0), .val (.int p1), .val (.int (p1 &&& (15 : Int32))), .val (.ref b99), .val (.int (51 : Int32)), .val (.ref (u 4)), .val (.ref (u 4))] [(.ref (u 4))])) _
            refine XS.aload X164.here hx rfl (hb hby at_101) rfl rfl ?_
            show Steps p.tables e below (T164.setTop (mkF m 103 #[.val (.int p0), .val (.int p1), .val (.int (p1 &&& (15 : Int32))), .val (.ref b99), .val (.int (51 : Int32)), .val (.ref (u 4)), .val (.ref (u 4))] [(.ref (u 4)), (.ref (u 4))])) _
            refine Jvm.RoadKit.acmp (g := (mkF m 103 #[.val (.int p0), .val (.int p1), .val (.int (p1 &&& (15 : Int32))), .val (.ref b99), .val (.int (51 : Int32)), .val (.ref (u 4)), .val (.ref (u 4))] [(.ref (u 4)), (.ref (u 4))])) X164 hx rfl rfl rfl (pc0 := 103) (pc' := 106) (same := true) rfl (hb hby at_103) rfl (decide_eq_true rfl) (by decide) (by decide) ?_
            show Steps p.tables e below (T164.setTop (mkF m 106 #[.val (.int p0), .val (.int p1), .val (.int (p1 &&& (15 : Int32))), .val (.ref b99), .val (.int (51 : Int32)), .val (.ref (u 4)), .val (.ref (u 4))] [])) _
            refine XS.iconst X164.here hx rfl (hb hby at_106) ?_
            show Steps p.tables e below (T164.setTop (mkF m 107 #[.val (.int p0), .val (.int p1), .val (.int (p1 &&& (15 : Int32))), .val (.ref b99), .val (.int (51 : Int32)), .val (.ref (u 4)), .val (.ref (u 4))] [(.int (1 : Int32))])) _
            refine XS.goto X164.here hx rfl (pc0 := 107) (pc' := 111) rfl (hb hby at_107) (by decide) (by decide) ?_
            show Steps p.tables e below (T164.setTop (mkF m 111 #[.val (.int p0), .val (.int p1), .val (.int (p1 &&& (15 : Int32))), .val (.ref b99), .val (.int (51 : Int32)), .val (.ref (u 4)), .val (.ref (u 4))] [(.int (1 : Int32))])) _
            exact retN X164 hx (t := .boolean) Bd.returns (by simp) (hb hby at_111) hr
          · show own_Q0 Z u p0 p1 h0 n0 _ T164.heap _
            exact ⟨rfl, N164, trivial⟩
        · --
          by_cases hc167 : (p1 &&& (15 : Int32)) = (3 : Int32)
          · --
            obtain ⟨cl168, Ar168, -, S168, N168, H168, -⟩ := id V137
            have hin168 : ¬ ((p1 &&& (15 : Int32)) < 0 ∨ cl168.slots.size ≤ ((p1 &&& (15 : Int32))).toNatClampNeg) := by rw [hc167]; exact inb_of S168 ⟨by decide, by decide⟩
            have pre169 : ∀ t, Steps p.tables e below (T137.setTop (mkF m 87 #[.val (.int p0), .val (.int p1), .val (.int (p1 &&& (15 : Int32))), .val (.ref b99), .val (.int (52 : Int32)), .unset, .unset] [(.int (52 : Int32))])) t → Steps p.tables e below (s₁.setTop (entryFrame m #[(.int p0), (.int p1)] maxLocals)) t := fun t kt => pre142 t (by
              show Steps p.tables e below (T137.setTop (mkF m 72 #[.val (.int p0), .val (.int p1), .val (.int (p1 &&& (15 : Int32))), .val (.ref b99), .unset, .unset, .unset] [(.int (p1 &&& (15 : Int32))), (.ref b99)])) _
              refine X137.caload hx (j := (p1 &&& (15 : Int32))) (v := (.int (52 : Int32))) (by rw [e137]; exact Ar168.1) (State.isArrayOf_alike hZ.alike Ar168.2.1) Ar168.2.2 hin168 (H168.at hin168 (by rw [hc167]; rfl)) (g := (mkF m 72 #[.val (.int p0), .val (.int p1), .val (.int (p1 &&& (15 : Int32))), .val (.ref b99), .unset, .unset, .unset] [(.int (p1 &&& (15 : Int32))), (.ref b99)])) rfl rfl (hb hby at_72) _ ?_
              show Steps p.tables e below (T137.setTop (mkF m 73 #[.val (.int p0), .val (.int p1), .val (.int (p1 &&& (15 : Int32))), .val (.ref b99), .unset, .unset, .unset] [(.int (52 : Int32))])) _
              refine XS.istore X137.here hx rfl (hb hby at_73) rfl (l' := #[.val (.int p0), .val (.int p1), .val (.int (p1 &&& (15 : Int32))), .val (.ref b99), .val (.int (52 : Int32)), .unset, .unset]) rfl ?_
              show Steps p.tables e below (T137.setTop (mkF m 75 #[.val (.int p0), .val (.int p1), .val (.int (p1 &&& (15 : Int32))), .val (.ref b99), .val (.int (52 : Int32)), .unset, .unset] [])) _
              refine XS.goto X137.here hx rfl (pc0 := 75) (pc' := 85) rfl (hb hby at_75) (by decide) (by decide) ?_
              show Steps p.tables e below (T137.setTop (mkF m 85 #[.val (.int p0), .val (.int p1), .val (.int (p1 &&& (15 : Int32))), .val (.ref b99), .val (.int (52 : Int32)), .unset, .unset] [])) _
              refine XS.iload X137.here hx rfl (hb hby at_85) rfl ?_
              exact kt)
            obtain ⟨vr170, _, ⟨T170, L170, k170, n170⟩, -, X170, ⟨Lc170, hQ170, l170, y170, z170⟩, st170⟩ := Jvm.LawKit.callS X137 hx (y := (⟨"com/example/smazzata/smazzata/card/RankFromCodePinLaw", "expectedRank", "(C)Lcom/example/smazzata/smazzata/card/Rank;"⟩ : MethodName)) hown (mvT hZ (hw _ (List.mem_of_getElem? (i := 1) rfl))) (mvT hZ (hw _ (List.mem_of_getElem? (i := 2) rfl))) (mvT hZ (hw _ (List.mem_of_getElem? (i := 3) rfl))) (mvT hZ (hw _ (List.mem_of_getElem? (i := 4) rfl))) (by decide) (backOf (W := 0) (rm1 l Z a0 hw [] u (52 : Int32) B h137 n0 O137 ) hZ (hw _ (List.mem_of_getElem? (i := 4) rfl)) (hw _ (List.mem_of_getElem? (i := 3) rfl)) (by decide) (by decide)) (g := (mkF m 87 #[.val (.int p0), .val (.int p1), .val (.int (p1 &&& (15 : Int32))), .val (.ref b99), .val (.int (52 : Int32)), .unset, .unset] [(.int (52 : Int32))])) rfl (by rw [hml]; rfl) (argsL := [(.int (52 : Int32))]) (rest := []) (lenOf own_pd1 rfl) rfl (by show 2 * 0 + _ ≤ _; exact Nat.le_of_eq rfl) (hb hby at_87) (fun _ _ => ⟨rfl, e137, (by decide : 1 + 0 ≤ _), (by decide : 10 + 0 ≤ _)⟩)
            dsimp only [Pt.U, Pt.locs, Pt.cells, Pt.slots] at X170 l170 y170 z170 st170 hQ170
            subst l170 y170 z170
            obtain ⟨hv170, N170q, e170⟩ := hQ170
            have N170 := Fr.app Nf137 N170q
            obtain rfl : vr170 = some (.ref (u 0)) := hv170.trans (by unfold own_r1; rw [if_neg (by decide : ¬ ((52 : Int32) = (65 : Int32))), if_neg (by decide : ¬ ((52 : Int32) = (50 : Int32))), if_neg (by decide : ¬ ((52 : Int32) = (51 : Int32))), if_pos (by decide : (52 : Int32) = (52 : Int32))])
            have pre171 : ∀ t, Steps p.tables e below (T170.setTop (mkF m 94 #[.val (.int p0), .val (.int p1), .val (.int (p1 &&& (15 : Int32))), .val (.ref b99), .val (.int (52 : Int32)), .val (.ref (u 0)), .unset] [(.int (52 : Int32))])) t → Steps p.tables e below (s₁.setTop (entryFrame m #[(.int p0), (.int p1)] maxLocals)) t := fun t kt => pre169 t (by
              show Steps p.tables e below (T137.setTop (mkF m 87 #[.val (.int p0), .val (.int p1), .val (.int (p1 &&& (15 : Int32))), .val (.ref b99), .val (.int (52 : Int32)), .unset, .unset] [(.int (52 : Int32))])) _
              refine st170 _ ?_
              show Steps p.tables e below (T170.setTop (mkF m 90 #[.val (.int p0), .val (.int p1), .val (.int (p1 &&& (15 : Int32))), .val (.ref b99), .val (.int (52 : Int32)), .unset, .unset] [(.ref (u 0))])) _
              refine XS.astore X170.here hx rfl (hb hby at_90) rfl rfl (l' := #[.val (.int p0), .val (.int p1), .val (.int (p1 &&& (15 : Int32))), .val (.ref b99), .val (.int (52 : Int32)), .val (.ref (u 0)), .unset]) rfl ?_
              show Steps p.tables e below (T170.setTop (mkF m 92 #[.val (.int p0), .val (.int p1), .val (.int (p1 &&& (15 : Int32))), .val (.ref b99), .val (.int (52 : Int32)), .val (.ref (u 0)), .unset] [])) _
              refine XS.iload X170.here hx rfl (hb hby at_92) rfl ?_
              exact kt)
            obtain ⟨vr172, _, ⟨T172, L172, k172, n172⟩, -, X172, ⟨Lc172, hQ172, l172, y172, z172⟩, st172⟩ := Jvm.LawKit.callS X170 hx (y := (⟨"com/example/smazzata/smazzata/card/Rank", "fromCode", "(C)Lcom/example/smazzata/smazzata/card/Rank;"⟩ : MethodName)) hown (mvT hZ (hw _ (List.mem_of_getElem? (i := 8) rfl))) (mvT hZ (hw _ (List.mem_of_getElem? (i := 9) rfl))) (mvT hZ (hw _ (List.mem_of_getElem? (i := 6) rfl))) (mvT hZ (hw _ (List.mem_of_getElem? (i := 10) rfl))) (by decide) (backOf (W := 0) (rm2 l Z a0 hw [] u (52 : Int32) B h137 n0 O137 ) hZ (hw _ (List.mem_of_getElem? (i := 10) rfl)) (hw _ (List.mem_of_getElem? (i := 6) rfl)) (by decide) (by decide)) (g := (mkF m 94 #[.val (.int p0), .val (.int p1), .val (.int (p1 &&& (15 : Int32))), .val (.ref b99), .val (.int (52 : Int32)), .val (.ref (u 0)), .unset] [(.int (52 : Int32))])) rfl (by rw [hml]; rfl) (argsL := [(.int (52 : Int32))]) (rest := []) (lenOf own_pd1 rfl) rfl (by show 2 * 0 + _ ≤ _; exact Nat.le_of_eq rfl) (hb hby at_94) (fun _ _ => ⟨rfl, e170, (by decide : 1 + 1 ≤ _), (by decide : 10 + 10 ≤ _)⟩)
            dsimp only [Pt.U, Pt.locs, Pt.cells, Pt.slots] at X172 l172 y172 z172 st172 hQ172
            subst l172 y172 z172
            obtain ⟨hv172, N172q, E172⟩ := hQ172
            have N172 := Fr.app N170 N172q
            have O172 := O137.ext E172
            have K172 := K137.ext E172
            have f173 := V137.ext E172
            obtain rfl : vr172 = some (.ref (u 0)) := hv172.trans (by unfold own_r2; rw [if_neg (by decide : ¬ ((65 : Int32) = (52 : Int32))), if_neg (by decide : ¬ ((50 : Int32) = (52 : Int32))), if_neg (by decide : ¬ ((51 : Int32) = (52 : Int32))), if_pos (by decide : (52 : Int32) = (52 : Int32))])
            obtain ⟨fs, hr, hrun, hended, hW, hsame⟩ := X172.leave (v := some (.int (1 : Int32))) (fun h => by rw [Bd.returns] at h; cases h)
            refine ⟨_, _, pre171 _ ?_, hrun, hended, _, _, rfl, ?_, ⟨_, rfl⟩, hW, hsame.mono (by decide) (by decide)⟩
            · show Steps p.tables e below (T170.setTop (mkF m 94 #[.val (.int p0), .val (.int p1), .val (.int (p1 &&& (15 : Int32))), .val (.ref b99), .val (.int (52 : Int32)), .val (.ref (u 0)), .unset] [(.int (52 : Int32))])) _
              refine st172 _ ?_
              show Steps p.tables e below (T172.setTop (mkF m 97 #[.val (.int p0), .val (.int p1), .val (.int (p1 &&& (15 : Int32))), .val (.ref b99), .val (.int (52 : Int32)), .val (.ref (u 0)), .unset] [(.ref (u 0))])) _
              refine XS.astore X172.here hx rfl (hb hby at_97) rfl rfl (l' := #[.val (.int p0), .val (.int p1), .val (.int (p1 &&& (15 : Int32))), .val (.ref b99), .val (.int (52 : Int32)), .val (.ref (u 0)), .val (.ref (u 0))]) rfl ?_
              show Steps p.tables e below (T172.setTop (mkF m 99 #[.val (.int p0), .val (.int p1), .val (.int (p1 &&& (15 : Int32))), .val (.ref b99), .val (.int (52 : Int32)), .val (.ref (u 0)), .val (.ref (u 0))] [])) _
              refine XS.aload X172.here hx rfl (hb hby at_99) rfl rfl ?_
              show Steps p.tables e below (T172.setTop (mkF m 101 #[.val (.int p0), .val (.int p1), .val (.int (p1 &&& (15 : Int32))), .val (.ref b99), .val (.int (52 : Int32)), .val (.ref (u 0)), .val (.ref (u 0))] [(.ref (u 0))])) _
              refine XS.aload X172.here hx rfl (hb hby at_101) rfl rfl ?_
              show Steps p.tables e below (T172.setTop (mkF m 103 #[.val (.int p0), .val (.int p1), .val (.int (p1 &&& (15 : Int32))), .val (.ref b99), .val (.int (52 : Int32)), .val (.ref (u 0)), .val (.ref (u 0))] [(.ref (u 0)), (.ref (u 0))])) _
              refine Jvm.RoadKit.acmp (g := (mkF m 103 #[.val (.int p0), .val (.int p1), .val (.int (p1 &&& (15 : Int32))), .val (.ref b99), .val (.int (52 : Int32)), .val (.ref (u 0)), .val (.ref (u 0))] [(.ref (u 0)), (.ref (u 0))])) X172 hx rfl rfl rfl (pc0 := 103) (pc' := 106) (same := true) rfl (hb hby at_103) rfl (decide_eq_true rfl) (by decide) (by decide) ?_
              show Steps p.tables e below (T172.setTop (mkF m 106 #[.val (.int p0), .val (.int p1), .val (.int (p1 &&& (15 : Int32))), .val (.ref b99), .val (.int (52 : Int32)), .val (.ref (u 0)), .val (.ref (u 0))] [])) _
              refine XS.iconst X172.here hx rfl (hb hby at_106) ?_
              show Steps p.tables e below (T172.setTop (mkF m 107 #[.val (.int p0), .val (.int p1), .val (.int (p1 &&& (15 : Int32))), .val (.ref b99), .val (.int (52 : Int32)), .val (.ref (u 0)), .val (.ref (u 0))] [(.int (1 : Int32))])) _
              refine XS.goto X172.here hx rfl (pc0 := 107) (pc' := 111) rfl (hb hby at_107) (by decide) (by decide) ?_
              show Steps p.tables e below (T172.setTop (mkF m 111 #[.val (.int p0), .val (.int p1), .val (.int (p1 &&& (15 : Int32))), .val (.ref b99), .val (.int (52 : Int32)), .val (.ref (u 0)), .val (.ref (u 0))] [(.int (1 : Int32))])) _
              exact retN X172 hx (t := .boolean) Bd.returns (by simp) (hb hby at_111) hr
            · show own_Q0 Z u p0 p1 h0 n0 _ T172.heap _
              exact ⟨rfl, N172, trivial⟩
          · --
            by_cases hc175 : (p1 &&& (15 : Int32)) = (4 : Int32)
            · --
              obtain ⟨cl176, Ar176, -, S176, N176, H176, -⟩ := id V137
              have hin176 : ¬ ((p1 &&& (15 : Int32)) < 0 ∨ cl176.slots.size ≤ ((p1 &&& (15 : Int32))).toNatClampNeg) := by rw [hc175]; exact inb_of S176 ⟨by decide, by decide⟩
              have pre177 : ∀ t, Steps p.tables e below (T137.setTop (mkF m 87 #[.val (.int p0), .val (.int p1), .val (.int (p1 &&& (15 : Int32))), .val (.ref b99), .val (.int (53 : Int32)), .unset, .unset] [(.int (53 : Int32))])) t → Steps p.tables e below (s₁.setTop (entryFrame m #[(.int p0), (.int p1)] maxLocals)) t := fun t kt => pre142 t (by
                show Steps p.tables e below (T137.setTop (mkF m 72 #[.val (.int p0), .val (.int p1), .val (.int (p1 &&& (15 : Int32))), .val (.ref b99), .unset, .unset, .unset] [(.int (p1 &&& (15 : Int32))), (.ref b99)])) _
                refine X137.caload hx (j := (p1 &&& (15 : Int32))) (v := (.int (53 : Int32))) (by rw [e137]; exact Ar176.1) (State.isArrayOf_alike hZ.alike Ar176.2.1) Ar176.2.2 hin176 (H176.at hin176 (by rw [hc175]; rfl)) (g := (mkF m 72 #[.val (.int p0), .val (.int p1), .val (.int (p1 &&& (15 : Int32))), .val (.ref b99), .unset, .unset, .unset] [(.int (p1 &&& (15 : Int32))), (.ref b99)])) rfl rfl (hb hby at_72) _ ?_
                show Steps p.tables e below (T137.setTop (mkF m 73 #[.val (.int p0), .val (.int p1), .val (.int (p1 &&& (15 : Int32))), .val (.ref b99), .unset, .unset, .unset] [(.int (53 : Int32))])) _
                refine XS.istore X137.here hx rfl (hb hby at_73) rfl (l' := #[.val (.int p0), .val (.int p1), .val (.int (p1 &&& (15 : Int32))), .val (.ref b99), .val (.int (53 : Int32)), .unset, .unset]) rfl ?_
                show Steps p.tables e below (T137.setTop (mkF m 75 #[.val (.int p0), .val (.int p1), .val (.int (p1 &&& (15 : Int32))), .val (.ref b99), .val (.int (53 : Int32)), .unset, .unset] [])) _
                refine XS.goto X137.here hx rfl (pc0 := 75) (pc' := 85) rfl (hb hby at_75) (by decide) (by decide) ?_
                show Steps p.tables e below (T137.setTop (mkF m 85 #[.val (.int p0), .val (.int p1), .val (.int (p1 &&& (15 : Int32))), .val (.ref b99), .val (.int (53 : Int32)), .unset, .unset] [])) _
                refine XS.iload X137.here hx rfl (hb hby at_85) rfl ?_
                exact kt)
              obtain ⟨vr178, _, ⟨T178, L178, k178, n178⟩, -, X178, ⟨Lc178, hQ178, l178, y178, z178⟩, st178⟩ := Jvm.LawKit.callS X137 hx (y := (⟨"com/example/smazzata/smazzata/card/RankFromCodePinLaw", "expectedRank", "(C)Lcom/example/smazzata/smazzata/card/Rank;"⟩ : MethodName)) hown (mvT hZ (hw _ (List.mem_of_getElem? (i := 1) rfl))) (mvT hZ (hw _ (List.mem_of_getElem? (i := 2) rfl))) (mvT hZ (hw _ (List.mem_of_getElem? (i := 3) rfl))) (mvT hZ (hw _ (List.mem_of_getElem? (i := 4) rfl))) (by decide) (backOf (W := 0) (rm1 l Z a0 hw [] u (53 : Int32) B h137 n0 O137 ) hZ (hw _ (List.mem_of_getElem? (i := 4) rfl)) (hw _ (List.mem_of_getElem? (i := 3) rfl)) (by decide) (by decide)) (g := (mkF m 87 #[.val (.int p0), .val (.int p1), .val (.int (p1 &&& (15 : Int32))), .val (.ref b99), .val (.int (53 : Int32)), .unset, .unset] [(.int (53 : Int32))])) rfl (by rw [hml]; rfl) (argsL := [(.int (53 : Int32))]) (rest := []) (lenOf own_pd1 rfl) rfl (by show 2 * 0 + _ ≤ _; exact Nat.le_of_eq rfl) (hb hby at_87) (fun _ _ => ⟨rfl, e137, (by decide : 1 + 0 ≤ _), (by decide : 10 + 0 ≤ _)⟩)
              dsimp only [Pt.U, Pt.locs, Pt.cells, Pt.slots] at X178 l178 y178 z178 st178 hQ178
              subst l178 y178 z178
              obtain ⟨hv178, N178q, e178⟩ := hQ178
              have N178 := Fr.app Nf137 N178q
              obtain rfl : vr178 = some (.ref (u 5)) := hv178.trans (by unfold own_r1; rw [if_neg (by decide : ¬ ((53 : Int32) = (65 : Int32))), if_neg (by decide : ¬ ((53 : Int32) = (50 : Int32))), if_neg (by decide : ¬ ((53 : Int32) = (51 : Int32))), if_neg (by decide : ¬ ((53 : Int32) = (52 : Int32))), if_pos (by decide : (53 : Int32) = (53 : Int32))])
              have pre179 : ∀ t, Steps p.tables e below (T178.setTop (mkF m 94 #[.val (.int p0), .val (.int p1), .val (.int (p1 &&& (15 : Int32))), .val (.ref b99), .val (.int (53 : Int32)), .val (.ref (u 5)), .unset] [(.int (53 : Int32))])) t → Steps p.tables e below (s₁.setTop (entryFrame m #[(.int p0), (.int p1)] maxLocals)) t := fun t kt => pre177 t (by
                show Steps p.tables e below (T137.setTop (mkF m 87 #[.val (.int p0), .val (.int p1), .val (.int (p1 &&& (15 : Int32))), .val (.ref b99), .val (.int (53 : Int32)), .unset, .unset] [(.int (53 : Int32))])) _
                refine st178 _ ?_
                show Steps p.tables e below (T178.setTop (mkF m 90 #[.val (.int p0), .val (.int p1), .val (.int (p1 &&& (15 : Int32))), .val (.ref b99), .val (.int (53 : Int32)), .unset, .unset] [(.ref (u 5))])) _
                refine XS.astore X178.here hx rfl (hb hby at_90) rfl rfl (l' := #[.val (.int p0), .val (.int p1), .val (.int (p1 &&& (15 : Int32))), .val (.ref b99), .val (.int (53 : Int32)), .val (.ref (u 5)), .unset]) rfl ?_
                show Steps p.tables e below (T178.setTop (mkF m 92 #[.val (.int p0), .val (.int p1), .val (.int (p1 &&& (15 : Int32))), .val (.ref b99), .val (.int (53 : Int32)), .val (.ref (u 5)), .unset] [])) _
                refine XS.iload X178.here hx rfl (hb hby at_92) rfl ?_
                exact kt)
              obtain ⟨vr180, _, ⟨T180, L180, k180, n180⟩, -, X180, ⟨Lc180, hQ180, l180, y180, z180⟩, st180⟩ := Jvm.LawKit.callS X178 hx (y := (⟨"com/example/smazzata/smazzata/card/Rank", "fromCode", "(C)Lcom/example/smazzata/smazzata/card/Rank;"⟩ : MethodName)) hown (mvT hZ (hw _ (List.mem_of_getElem? (i := 8) rfl))) (mvT hZ (hw _ (List.mem_of_getElem? (i := 9) rfl))) (mvT hZ (hw _ (List.mem_of_getElem? (i := 6) rfl))) (mvT hZ (hw _ (List.mem_of_getElem? (i := 10) rfl))) (by decide) (backOf (W := 0) (rm2 l Z a0 hw [] u (53 : Int32) B h137 n0 O137 ) hZ (hw _ (List.mem_of_getElem? (i := 10) rfl)) (hw _ (List.mem_of_getElem? (i := 6) rfl)) (by decide) (by decide)) (g := (mkF m 94 #[.val (.int p0), .val (.int p1), .val (.int (p1 &&& (15 : Int32))), .val (.ref b99), .val (.int (53 : Int32)), .val (.ref (u 5)), .unset] [(.int (53 : Int32))])) rfl (by rw [hml]; rfl) (argsL := [(.int (53 : Int32))]) (rest := []) (lenOf own_pd1 rfl) rfl (by show 2 * 0 + _ ≤ _; exact Nat.le_of_eq rfl) (hb hby at_94) (fun _ _ => ⟨rfl, e178, (by decide : 1 + 1 ≤ _), (by decide : 10 + 10 ≤ _)⟩)
              dsimp only [Pt.U, Pt.locs, Pt.cells, Pt.slots] at X180 l180 y180 z180 st180 hQ180
              subst l180 y180 z180
              obtain ⟨hv180, N180q, E180⟩ := hQ180
              have N180 := Fr.app N178 N180q
              have O180 := O137.ext E180
              have K180 := K137.ext E180
              have f181 := V137.ext E180
              obtain rfl : vr180 = some (.ref (u 5)) := hv180.trans (by unfold own_r2; rw [if_neg (by decide : ¬ ((65 : Int32) = (53 : Int32))), if_neg (by decide : ¬ ((50 : Int32) = (53 : Int32))), if_neg (by decide : ¬ ((51 : Int32) = (53 : Int32))), if_neg (by decide : ¬ ((52 : Int32) = (53 : Int32))), if_pos (by decide : (53 : Int32) = (53 : Int32))])
              obtain ⟨fs, hr, hrun, hended, hW, hsame⟩ := X180.leave (v := some (.int (1 : Int32))) (fun h => by rw [Bd.returns] at h; cases h)
              refine ⟨_, _, pre179 _ ?_, hrun, hended, _, _, rfl, ?_, ⟨_, rfl⟩, hW, hsame.mono (by decide) (by decide)⟩
              · show Steps p.tables e below (T178.setTop (mkF m 94 #[.val (.int p0), .val (.int p1), .val (.int (p1 &&& (15 : Int32))), .val (.ref b99), .val (.int (53 : Int32)), .val (.ref (u 5)), .unset] [(.int (53 : Int32))])) _
                refine st180 _ ?_
                show Steps p.tables e below (T180.setTop (mkF m 97 #[.val (.int p0), .val (.int p1), .val (.int (p1 &&& (15 : Int32))), .val (.ref b99), .val (.int (53 : Int32)), .val (.ref (u 5)), .unset] [(.ref (u 5))])) _
                refine XS.astore X180.here hx rfl (hb hby at_97) rfl rfl (l' := #[.val (.int p0), .val (.int p1), .val (.int (p1 &&& (15 : Int32))), .val (.ref b99), .val (.int (53 : Int32)), .val (.ref (u 5)), .val (.ref (u 5))]) rfl ?_
                show Steps p.tables e below (T180.setTop (mkF m 99 #[.val (.int p0), .val (.int p1), .val (.int (p1 &&& (15 : Int32))), .val (.ref b99), .val (.int (53 : Int32)), .val (.ref (u 5)), .val (.ref (u 5))] [])) _
                refine XS.aload X180.here hx rfl (hb hby at_99) rfl rfl ?_
                show Steps p.tables e below (T180.setTop (mkF m 101 #[.val (.int p0), .val (.int p1), .val (.int (p1 &&& (15 : Int32))), .val (.ref b99), .val (.int (53 : Int32)), .val (.ref (u 5)), .val (.ref (u 5))] [(.ref (u 5))])) _
                refine XS.aload X180.here hx rfl (hb hby at_101) rfl rfl ?_
                show Steps p.tables e below (T180.setTop (mkF m 103 #[.val (.int p0), .val (.int p1), .val (.int (p1 &&& (15 : Int32))), .val (.ref b99), .val (.int (53 : Int32)), .val (.ref (u 5)), .val (.ref (u 5))] [(.ref (u 5)), (.ref (u 5))])) _
                refine Jvm.RoadKit.acmp (g := (mkF m 103 #[.val (.int p0), .val (.int p1), .val (.int (p1 &&& (15 : Int32))), .val (.ref b99), .val (.int (53 : Int32)), .val (.ref (u 5)), .val (.ref (u 5))] [(.ref (u 5)), (.ref (u 5))])) X180 hx rfl rfl rfl (pc0 := 103) (pc' := 106) (same := true) rfl (hb hby at_103) rfl (decide_eq_true rfl) (by decide) (by decide) ?_
                show Steps p.tables e below (T180.setTop (mkF m 106 #[.val (.int p0), .val (.int p1), .val (.int (p1 &&& (15 : Int32))), .val (.ref b99), .val (.int (53 : Int32)), .val (.ref (u 5)), .val (.ref (u 5))] [])) _
                refine XS.iconst X180.here hx rfl (hb hby at_106) ?_
                show Steps p.tables e below (T180.setTop (mkF m 107 #[.val (.int p0), .val (.int p1), .val (.int (p1 &&& (15 : Int32))), .val (.ref b99), .val (.int (53 : Int32)), .val (.ref (u 5)), .val (.ref (u 5))] [(.int (1 : Int32))])) _
                refine XS.goto X180.here hx rfl (pc0 := 107) (pc' := 111) rfl (hb hby at_107) (by decide) (by decide) ?_
                show Steps p.tables e below (T180.setTop (mkF m 111 #[.val (.int p0), .val (.int p1), .val (.int (p1 &&& (15 : Int32))), .val (.ref b99), .val (.int (53 : Int32)), .val (.ref (u 5)), .val (.ref (u 5))] [(.int (1 : Int32))])) _
                exact retN X180 hx (t := .boolean) Bd.returns (by simp) (hb hby at_111) hr
              · show own_Q0 Z u p0 p1 h0 n0 _ T180.heap _
                exact ⟨rfl, N180, trivial⟩
            · --
              by_cases hc183 : (p1 &&& (15 : Int32)) = (5 : Int32)
              · --
                obtain ⟨cl184, Ar184, -, S184, N184, H184, -⟩ := id V137
                have hin184 : ¬ ((p1 &&& (15 : Int32)) < 0 ∨ cl184.slots.size ≤ ((p1 &&& (15 : Int32))).toNatClampNeg) := by rw [hc183]; exact inb_of S184 ⟨by decide, by decide⟩
                have pre185 : ∀ t, Steps p.tables e below (T137.setTop (mkF m 87 #[.val (.int p0), .val (.int p1), .val (.int (p1 &&& (15 : Int32))), .val (.ref b99), .val (.int (54 : Int32)), .unset, .unset] [(.int (54 : Int32))])) t → Steps p.tables e below (s₁.setTop (entryFrame m #[(.int p0), (.int p1)] maxLocals)) t := fun t kt => pre142 t (by
                  show Steps p.tables e below (T137.setTop (mkF m 72 #[.val (.int p0), .val (.int p1), .val (.int (p1 &&& (15 : Int32))), .val (.ref b99), .unset, .unset, .unset] [(.int (p1 &&& (15 : Int32))), (.ref b99)])) _
                  refine X137.caload hx (j := (p1 &&& (15 : Int32))) (v := (.int (54 : Int32))) (by rw [e137]; exact Ar184.1) (State.isArrayOf_alike hZ.alike Ar184.2.1) Ar184.2.2 hin184 (H184.at hin184 (by rw [hc183]; rfl)) (g := (mkF m 72 #[.val (.int p0), .val (.int p1), .val (.int (p1 &&& (15 : Int32))), .val (.ref b99), .unset, .unset, .unset] [(.int (p1 &&& (15 : Int32))), (.ref b99)])) rfl rfl (hb hby at_72) _ ?_
                  show Steps p.tables e below (T137.setTop (mkF m 73 #[.val (.int p0), .val (.int p1), .val (.int (p1 &&& (15 : Int32))), .val (.ref b99), .unset, .unset, .unset] [(.int (54 : Int32))])) _
                  refine XS.istore X137.here hx rfl (hb hby at_73) rfl (l' := #[.val (.int p0), .val (.int p1), .val (.int (p1 &&& (15 : Int32))), .val (.ref b99), .val (.int (54 : Int32)), .unset, .unset]) rfl ?_
                  show Steps p.tables e below (T137.setTop (mkF m 75 #[.val (.int p0), .val (.int p1), .val (.int (p1 &&& (15 : Int32))), .val (.ref b99), .val (.int (54 : Int32)), .unset, .unset] [])) _
                  refine XS.goto X137.here hx rfl (pc0 := 75) (pc' := 85) rfl (hb hby at_75) (by decide) (by decide) ?_
                  show Steps p.tables e below (T137.setTop (mkF m 85 #[.val (.int p0), .val (.int p1), .val (.int (p1 &&& (15 : Int32))), .val (.ref b99), .val (.int (54 : Int32)), .unset, .unset] [])) _
                  refine XS.iload X137.here hx rfl (hb hby at_85) rfl ?_
                  exact kt)
                obtain ⟨vr186, _, ⟨T186, L186, k186, n186⟩, -, X186, ⟨Lc186, hQ186, l186, y186, z186⟩, st186⟩ := Jvm.LawKit.callS X137 hx (y := (⟨"com/example/smazzata/smazzata/card/RankFromCodePinLaw", "expectedRank", "(C)Lcom/example/smazzata/smazzata/card/Rank;"⟩ : MethodName)) hown (mvT hZ (hw _ (List.mem_of_getElem? (i := 1) rfl))) (mvT hZ (hw _ (List.mem_of_getElem? (i := 2) rfl))) (mvT hZ (hw _ (List.mem_of_getElem? (i := 3) rfl))) (mvT hZ (hw _ (List.mem_of_getElem? (i := 4) rfl))) (by decide) (backOf (W := 0) (rm1 l Z a0 hw [] u (54 : Int32) B h137 n0 O137 ) hZ (hw _ (List.mem_of_getElem? (i := 4) rfl)) (hw _ (List.mem_of_getElem? (i := 3) rfl)) (by decide) (by decide)) (g := (mkF m 87 #[.val (.int p0), .val (.int p1), .val (.int (p1 &&& (15 : Int32))), .val (.ref b99), .val (.int (54 : Int32)), .unset, .unset] [(.int (54 : Int32))])) rfl (by rw [hml]; rfl) (argsL := [(.int (54 : Int32))]) (rest := []) (lenOf own_pd1 rfl) rfl (by show 2 * 0 + _ ≤ _; exact Nat.le_of_eq rfl) (hb hby at_87) (fun _ _ => ⟨rfl, e137, (by decide : 1 + 0 ≤ _), (by decide : 10 + 0 ≤ _)⟩)
                dsimp only [Pt.U, Pt.locs, Pt.cells, Pt.slots] at X186 l186 y186 z186 st186 hQ186
                subst l186 y186 z186
                obtain ⟨hv186, N186q, e186⟩ := hQ186
                have N186 := Fr.app Nf137 N186q
                obtain rfl : vr186 = some (.ref (u 6)) := hv186.trans (by unfold own_r1; rw [if_neg (by decide : ¬ ((54 : Int32) = (65 : Int32))), if_neg (by decide : ¬ ((54 : Int32) = (50 : Int32))), if_neg (by decide : ¬ ((54 : Int32) = (51 : Int32))), if_neg (by decide : ¬ ((54 : Int32) = (52 : Int32))), if_neg (by decide : ¬ ((54 : Int32) = (53 : Int32))), if_pos (by decide : (54 : Int32) = (54 : Int32))])
                have pre187 : ∀ t, Steps p.tables e below (T186.setTop (mkF m 94 #[.val (.int p0), .val (.int p1), .val (.int (p1 &&& (15 : Int32))), .val (.ref b99), .val (.int (54 : Int32)), .val (.ref (u 6)), .unset] [(.int (54 : Int32))])) t → Steps p.tables e below (s₁.setTop (entryFrame m #[(.int p0), (.int p1)] maxLocals)) t := fun t kt => pre185 t (by
                  show Steps p.tables e below (T137.setTop (mkF m 87 #[.val (.int p0), .val (.int p1), .val (.int (p1 &&& (15 : Int32))), .val (.ref b99), .val (.int (54 : Int32)), .unset, .unset] [(.int (54 : Int32))])) _
                  refine st186 _ ?_
                  show Steps p.tables e below (T186.setTop (mkF m 90 #[.val (.int p0), .val (.int p1), .val (.int (p1 &&& (15 : Int32))), .val (.ref b99), .val (.int (54 : Int32)), .unset, .unset] [(.ref (u 6))])) _
                  refine XS.astore X186.here hx rfl (hb hby at_90) rfl rfl (l' := #[.val (.int p0), .val (.int p1), .val (.int (p1 &&& (15 : Int32))), .val (.ref b99), .val (.int (54 : Int32)), .val (.ref (u 6)), .unset]) rfl ?_
                  show Steps p.tables e below (T186.setTop (mkF m 92 #[.val (.int p0), .val (.int p1), .val (.int (p1 &&& (15 : Int32))), .val (.ref b99), .val (.int (54 : Int32)), .val (.ref (u 6)), .unset] [])) _
                  refine XS.iload X186.here hx rfl (hb hby at_92) rfl ?_
                  exact kt)
                obtain ⟨vr188, _, ⟨T188, L188, k188, n188⟩, -, X188, ⟨Lc188, hQ188, l188, y188, z188⟩, st188⟩ := Jvm.LawKit.callS X186 hx (y := (⟨"com/example/smazzata/smazzata/card/Rank", "fromCode", "(C)Lcom/example/smazzata/smazzata/card/Rank;"⟩ : MethodName)) hown (mvT hZ (hw _ (List.mem_of_getElem? (i := 8) rfl))) (mvT hZ (hw _ (List.mem_of_getElem? (i := 9) rfl))) (mvT hZ (hw _ (List.mem_of_getElem? (i := 6) rfl))) (mvT hZ (hw _ (List.mem_of_getElem? (i := 10) rfl))) (by decide) (backOf (W := 0) (rm2 l Z a0 hw [] u (54 : Int32) B h137 n0 O137 ) hZ (hw _ (List.mem_of_getElem? (i := 10) rfl)) (hw _ (List.mem_of_getElem? (i := 6) rfl)) (by decide) (by decide)) (g := (mkF m 94 #[.val (.int p0), .val (.int p1), .val (.int (p1 &&& (15 : Int32))), .val (.ref b99), .val (.int (54 : Int32)), .val (.ref (u 6)), .unset] [(.int (54 : Int32))])) rfl (by rw [hml]; rfl) (argsL := [(.int (54 : Int32))]) (rest := []) (lenOf own_pd1 rfl) rfl (by show 2 * 0 + _ ≤ _; exact Nat.le_of_eq rfl) (hb hby at_94) (fun _ _ => ⟨rfl, e186, (by decide : 1 + 1 ≤ _), (by decide : 10 + 10 ≤ _)⟩)
                dsimp only [Pt.U, Pt.locs, Pt.cells, Pt.slots] at X188 l188 y188 z188 st188 hQ188
                subst l188 y188 z188
                obtain ⟨hv188, N188q, E188⟩ := hQ188
                have N188 := Fr.app N186 N188q
                have O188 := O137.ext E188
                have K188 := K137.ext E188
                have f189 := V137.ext E188
                obtain rfl : vr188 = some (.ref (u 6)) := hv188.trans (by unfold own_r2; rw [if_neg (by decide : ¬ ((65 : Int32) = (54 : Int32))), if_neg (by decide : ¬ ((50 : Int32) = (54 : Int32))), if_neg (by decide : ¬ ((51 : Int32) = (54 : Int32))), if_neg (by decide : ¬ ((52 : Int32) = (54 : Int32))), if_neg (by decide : ¬ ((53 : Int32) = (54 : Int32))), if_pos (by decide : (54 : Int32) = (54 : Int32))])
                obtain ⟨fs, hr, hrun, hended, hW, hsame⟩ := X188.leave (v := some (.int (1 : Int32))) (fun h => by rw [Bd.returns] at h; cases h)
                refine ⟨_, _, pre187 _ ?_, hrun, hended, _, _, rfl, ?_, ⟨_, rfl⟩, hW, hsame.mono (by decide) (by decide)⟩
                · show Steps p.tables e below (T186.setTop (mkF m 94 #[.val (.int p0), .val (.int p1), .val (.int (p1 &&& (15 : Int32))), .val (.ref b99), .val (.int (54 : Int32)), .val (.ref (u 6)), .unset] [(.int (54 : Int32))])) _
                  refine st188 _ ?_
                  show Steps p.tables e below (T188.setTop (mkF m 97 #[.val (.int p0), .val (.int p1), .val (.int (p1 &&& (15 : Int32))), .val (.ref b99), .val (.int (54 : Int32)), .val (.ref (u 6)), .unset] [(.ref (u 6))])) _
                  refine XS.astore X188.here hx rfl (hb hby at_97) rfl rfl (l' := #[.val (.int p0), .val (.int p1), .val (.int (p1 &&& (15 : Int32))), .val (.ref b99), .val (.int (54 : Int32)), .val (.ref (u 6)), .val (.ref (u 6))]) rfl ?_
                  show Steps p.tables e below (T188.setTop (mkF m 99 #[.val (.int p0), .val (.int p1), .val (.int (p1 &&& (15 : Int32))), .val (.ref b99), .val (.int (54 : Int32)), .val (.ref (u 6)), .val (.ref (u 6))] [])) _
                  refine XS.aload X188.here hx rfl (hb hby at_99) rfl rfl ?_
                  show Steps p.tables e below (T188.setTop (mkF m 101 #[.val (.int p0), .val (.int p1), .val (.int (p1 &&& (15 : Int32))), .val (.ref b99), .val (.int (54 : Int32)), .val (.ref (u 6)), .val (.ref (u 6))] [(.ref (u 6))])) _
                  refine XS.aload X188.here hx rfl (hb hby at_101) rfl rfl ?_
                  show Steps p.tables e below (T188.setTop (mkF m 103 #[.val (.int p0), .val (.int p1), .val (.int (p1 &&& (15 : Int32))), .val (.ref b99), .val (.int (54 : Int32)), .val (.ref (u 6)), .val (.ref (u 6))] [(.ref (u 6)), (.ref (u 6))])) _
                  refine Jvm.RoadKit.acmp (g := (mkF m 103 #[.val (.int p0), .val (.int p1), .val (.int (p1 &&& (15 : Int32))), .val (.ref b99), .val (.int (54 : Int32)), .val (.ref (u 6)), .val (.ref (u 6))] [(.ref (u 6)), (.ref (u 6))])) X188 hx rfl rfl rfl (pc0 := 103) (pc' := 106) (same := true) rfl (hb hby at_103) rfl (decide_eq_true rfl) (by decide) (by decide) ?_
                  show Steps p.tables e below (T188.setTop (mkF m 106 #[.val (.int p0), .val (.int p1), .val (.int (p1 &&& (15 : Int32))), .val (.ref b99), .val (.int (54 : Int32)), .val (.ref (u 6)), .val (.ref (u 6))] [])) _
                  refine XS.iconst X188.here hx rfl (hb hby at_106) ?_
                  show Steps p.tables e below (T188.setTop (mkF m 107 #[.val (.int p0), .val (.int p1), .val (.int (p1 &&& (15 : Int32))), .val (.ref b99), .val (.int (54 : Int32)), .val (.ref (u 6)), .val (.ref (u 6))] [(.int (1 : Int32))])) _
                  refine XS.goto X188.here hx rfl (pc0 := 107) (pc' := 111) rfl (hb hby at_107) (by decide) (by decide) ?_
                  show Steps p.tables e below (T188.setTop (mkF m 111 #[.val (.int p0), .val (.int p1), .val (.int (p1 &&& (15 : Int32))), .val (.ref b99), .val (.int (54 : Int32)), .val (.ref (u 6)), .val (.ref (u 6))] [(.int (1 : Int32))])) _
                  exact retN X188 hx (t := .boolean) Bd.returns (by simp) (hb hby at_111) hr
                · show own_Q0 Z u p0 p1 h0 n0 _ T188.heap _
                  exact ⟨rfl, N188, trivial⟩
              · --
                by_cases hc191 : (p1 &&& (15 : Int32)) = (6 : Int32)
                · --
                  obtain ⟨cl192, Ar192, -, S192, N192, H192, -⟩ := id V137
                  have hin192 : ¬ ((p1 &&& (15 : Int32)) < 0 ∨ cl192.slots.size ≤ ((p1 &&& (15 : Int32))).toNatClampNeg) := by rw [hc191]; exact inb_of S192 ⟨by decide, by decide⟩
                  have pre193 : ∀ t, Steps p.tables e below (T137.setTop (mkF m 87 #[.val (.int p0), .val (.int p1), .val (.int (p1 &&& (15 : Int32))), .val (.ref b99), .val (.int (55 : Int32)), .unset, .unset] [(.int (55 : Int32))])) t → Steps p.tables e below (s₁.setTop (entryFrame m #[(.int p0), (.int p1)] maxLocals)) t := fun t kt => pre142 t (by
                    show Steps p.tables e below (T137.setTop (mkF m 72 #[.val (.int p0), .val (.int p1), .val (.int (p1 &&& (15 : Int32))), .val (.ref b99), .unset, .unset, .unset] [(.int (p1 &&& (15 : Int32))), (.ref b99)])) _
                    refine X137.caload hx (j := (p1 &&& (15 : Int32))) (v := (.int (55 : Int32))) (by rw [e137]; exact Ar192.1) (State.isArrayOf_alike hZ.alike Ar192.2.1) Ar192.2.2 hin192 (H192.at hin192 (by rw [hc191]; rfl)) (g := (mkF m 72 #[.val (.int p0), .val (.int p1), .val (.int (p1 &&& (15 : Int32))), .val (.ref b99), .unset, .unset, .unset] [(.int (p1 &&& (15 : Int32))), (.ref b99)])) rfl rfl (hb hby at_72) _ ?_
                    show Steps p.tables e below (T137.setTop (mkF m 73 #[.val (.int p0), .val (.int p1), .val (.int (p1 &&& (15 : Int32))), .val (.ref b99), .unset, .unset, .unset] [(.int (55 : Int32))])) _
                    refine XS.istore X137.here hx rfl (hb hby at_73) rfl (l' := #[.val (.int p0), .val (.int p1), .val (.int (p1 &&& (15 : Int32))), .val (.ref b99), .val (.int (55 : Int32)), .unset, .unset]) rfl ?_
                    show Steps p.tables e below (T137.setTop (mkF m 75 #[.val (.int p0), .val (.int p1), .val (.int (p1 &&& (15 : Int32))), .val (.ref b99), .val (.int (55 : Int32)), .unset, .unset] [])) _
                    refine XS.goto X137.here hx rfl (pc0 := 75) (pc' := 85) rfl (hb hby at_75) (by decide) (by decide) ?_
                    show Steps p.tables e below (T137.setTop (mkF m 85 #[.val (.int p0), .val (.int p1), .val (.int (p1 &&& (15 : Int32))), .val (.ref b99), .val (.int (55 : Int32)), .unset, .unset] [])) _
                    refine XS.iload X137.here hx rfl (hb hby at_85) rfl ?_
                    exact kt)
                  obtain ⟨vr194, _, ⟨T194, L194, k194, n194⟩, -, X194, ⟨Lc194, hQ194, l194, y194, z194⟩, st194⟩ := Jvm.LawKit.callS X137 hx (y := (⟨"com/example/smazzata/smazzata/card/RankFromCodePinLaw", "expectedRank", "(C)Lcom/example/smazzata/smazzata/card/Rank;"⟩ : MethodName)) hown (mvT hZ (hw _ (List.mem_of_getElem? (i := 1) rfl))) (mvT hZ (hw _ (List.mem_of_getElem? (i := 2) rfl))) (mvT hZ (hw _ (List.mem_of_getElem? (i := 3) rfl))) (mvT hZ (hw _ (List.mem_of_getElem? (i := 4) rfl))) (by decide) (backOf (W := 0) (rm1 l Z a0 hw [] u (55 : Int32) B h137 n0 O137 ) hZ (hw _ (List.mem_of_getElem? (i := 4) rfl)) (hw _ (List.mem_of_getElem? (i := 3) rfl)) (by decide) (by decide)) (g := (mkF m 87 #[.val (.int p0), .val (.int p1), .val (.int (p1 &&& (15 : Int32))), .val (.ref b99), .val (.int (55 : Int32)), .unset, .unset] [(.int (55 : Int32))])) rfl (by rw [hml]; rfl) (argsL := [(.int (55 : Int32))]) (rest := []) (lenOf own_pd1 rfl) rfl (by show 2 * 0 + _ ≤ _; exact Nat.le_of_eq rfl) (hb hby at_87) (fun _ _ => ⟨rfl, e137, (by decide : 1 + 0 ≤ _), (by decide : 10 + 0 ≤ _)⟩)
                  dsimp only [Pt.U, Pt.locs, Pt.cells, Pt.slots] at X194 l194 y194 z194 st194 hQ194
                  subst l194 y194 z194
                  obtain ⟨hv194, N194q, e194⟩ := hQ194
                  have N194 := Fr.app Nf137 N194q
                  obtain rfl : vr194 = some (.ref (u 7)) := hv194.trans (by unfold own_r1; rw [if_neg (by decide : ¬ ((55 : Int32) = (65 : Int32))), if_neg (by decide : ¬ ((55 : Int32) = (50 : Int32))), if_neg (by decide : ¬ ((55 : Int32) = (51 : Int32))), if_neg (by decide : ¬ ((55 : Int32) = (52 : Int32))), if_neg (by decide : ¬ ((55 : Int32) = (53 : Int32))), if_neg (by decide : ¬ ((55 : Int32) = (54 : Int32))), if_pos (by decide : (55 : Int32) = (55 : Int32))])
                  have pre195 : ∀ t, Steps p.tables e below (T194.setTop (mkF m 94 #[.val (.int p0), .val (.int p1), .val (.int (p1 &&& (15 : Int32))), .val (.ref b99), .val (.int (55 : Int32)), .val (.ref (u 7)), .unset] [(.int (55 : Int32))])) t → Steps p.tables e below (s₁.setTop (entryFrame m #[(.int p0), (.int p1)] maxLocals)) t := fun t kt => pre193 t (by
                    show Steps p.tables e below (T137.setTop (mkF m 87 #[.val (.int p0), .val (.int p1), .val (.int (p1 &&& (15 : Int32))), .val (.ref b99), .val (.int (55 : Int32)), .unset, .unset] [(.int (55 : Int32))])) _
                    refine st194 _ ?_
                    show Steps p.tables e below (T194.setTop (mkF m 90 #[.val (.int p0), .val (.int p1), .val (.int (p1 &&& (15 : Int32))), .val (.ref b99), .val (.int (55 : Int32)), .unset, .unset] [(.ref (u 7))])) _
                    refine XS.astore X194.here hx rfl (hb hby at_90) rfl rfl (l' := #[.val (.int p0), .val (.int p1), .val (.int (p1 &&& (15 : Int32))), .val (.ref b99), .val (.int (55 : Int32)), .val (.ref (u 7)), .unset]) rfl ?_
                    show Steps p.tables e below (T194.setTop (mkF m 92 #[.val (.int p0), .val (.int p1), .val (.int (p1 &&& (15 : Int32))), .val (.ref b99), .val (.int (55 : Int32)), .val (.ref (u 7)), .unset] [])) _
                    refine XS.iload X194.here hx rfl (hb hby at_92) rfl ?_
                    exact kt)
                  obtain ⟨vr196, _, ⟨T196, L196, k196, n196⟩, -, X196, ⟨Lc196, hQ196, l196, y196, z196⟩, st196⟩ := Jvm.LawKit.callS X194 hx (y := (⟨"com/example/smazzata/smazzata/card/Rank", "fromCode", "(C)Lcom/example/smazzata/smazzata/card/Rank;"⟩ : MethodName)) hown (mvT hZ (hw _ (List.mem_of_getElem? (i := 8) rfl))) (mvT hZ (hw _ (List.mem_of_getElem? (i := 9) rfl))) (mvT hZ (hw _ (List.mem_of_getElem? (i := 6) rfl))) (mvT hZ (hw _ (List.mem_of_getElem? (i := 10) rfl))) (by decide) (backOf (W := 0) (rm2 l Z a0 hw [] u (55 : Int32) B h137 n0 O137 ) hZ (hw _ (List.mem_of_getElem? (i := 10) rfl)) (hw _ (List.mem_of_getElem? (i := 6) rfl)) (by decide) (by decide)) (g := (mkF m 94 #[.val (.int p0), .val (.int p1), .val (.int (p1 &&& (15 : Int32))), .val (.ref b99), .val (.int (55 : Int32)), .val (.ref (u 7)), .unset] [(.int (55 : Int32))])) rfl (by rw [hml]; rfl) (argsL := [(.int (55 : Int32))]) (rest := []) (lenOf own_pd1 rfl) rfl (by show 2 * 0 + _ ≤ _; exact Nat.le_of_eq rfl) (hb hby at_94) (fun _ _ => ⟨rfl, e194, (by decide : 1 + 1 ≤ _), (by decide : 10 + 10 ≤ _)⟩)
                  dsimp only [Pt.U, Pt.locs, Pt.cells, Pt.slots] at X196 l196 y196 z196 st196 hQ196
                  subst l196 y196 z196
                  obtain ⟨hv196, N196q, E196⟩ := hQ196
                  have N196 := Fr.app N194 N196q
                  have O196 := O137.ext E196
                  have K196 := K137.ext E196
                  have f197 := V137.ext E196
                  obtain rfl : vr196 = some (.ref (u 7)) := hv196.trans (by unfold own_r2; rw [if_neg (by decide : ¬ ((65 : Int32) = (55 : Int32))), if_neg (by decide : ¬ ((50 : Int32) = (55 : Int32))), if_neg (by decide : ¬ ((51 : Int32) = (55 : Int32))), if_neg (by decide : ¬ ((52 : Int32) = (55 : Int32))), if_neg (by decide : ¬ ((53 : Int32) = (55 : Int32))), if_neg (by decide : ¬ ((54 : Int32) = (55 : Int32))), if_pos (by decide : (55 : Int32) = (55 : Int32))])
                  obtain ⟨fs, hr, hrun, hended, hW, hsame⟩ := X196.leave (v := some (.int (1 : Int32))) (fun h => by rw [Bd.returns] at h; cases h)
                  refine ⟨_, _, pre195 _ ?_, hrun, hended, _, _, rfl, ?_, ⟨_, rfl⟩, hW, hsame.mono (by decide) (by decide)⟩
                  · show Steps p.tables e below (T194.setTop (mkF m 94 #[.val (.int p0), .val (.int p1), .val (.int (p1 &&& (15 : Int32))), .val (.ref b99), .val (.int (55 : Int32)), .val (.ref (u 7)), .unset] [(.int (55 : Int32))])) _
                    refine st196 _ ?_
                    show Steps p.tables e below (T196.setTop (mkF m 97 #[.val (.int p0), .val (.int p1), .val (.int (p1 &&& (15 : Int32))), .val (.ref b99), .val (.int (55 : Int32)), .val (.ref (u 7)), .unset] [(.ref (u 7))])) _
                    refine XS.astore X196.here hx rfl (hb hby at_97) rfl rfl (l' := #[.val (.int p0), .val (.int p1), .val (.int (p1 &&& (15 : Int32))), .val (.ref b99), .val (.int (55 : Int32)), .val (.ref (u 7)), .val (.ref (u 7))]) rfl ?_
                    show Steps p.tables e below (T196.setTop (mkF m 99 #[.val (.int p0), .val (.int p1), .val (.int (p1 &&& (15 : Int32))), .val (.ref b99), .val (.int (55 : Int32)), .val (.ref (u 7)), .val (.ref (u 7))] [])) _
                    refine XS.aload X196.here hx rfl (hb hby at_99) rfl rfl ?_
                    show Steps p.tables e below (T196.setTop (mkF m 101 #[.val (.int p0), .val (.int p1), .val (.int (p1 &&& (15 : Int32))), .val (.ref b99), .val (.int (55 : Int32)), .val (.ref (u 7)), .val (.ref (u 7))] [(.ref (u 7))])) _
                    refine XS.aload X196.here hx rfl (hb hby at_101) rfl rfl ?_
                    show Steps p.tables e below (T196.setTop (mkF m 103 #[.val (.int p0), .val (.int p1), .val (.int (p1 &&& (15 : Int32))), .val (.ref b99), .val (.int (55 : Int32)), .val (.ref (u 7)), .val (.ref (u 7))] [(.ref (u 7)), (.ref (u 7))])) _
                    refine Jvm.RoadKit.acmp (g := (mkF m 103 #[.val (.int p0), .val (.int p1), .val (.int (p1 &&& (15 : Int32))), .val (.ref b99), .val (.int (55 : Int32)), .val (.ref (u 7)), .val (.ref (u 7))] [(.ref (u 7)), (.ref (u 7))])) X196 hx rfl rfl rfl (pc0 := 103) (pc' := 106) (same := true) rfl (hb hby at_103) rfl (decide_eq_true rfl) (by decide) (by decide) ?_
                    show Steps p.tables e below (T196.setTop (mkF m 106 #[.val (.int p0), .val (.int p1), .val (.int (p1 &&& (15 : Int32))), .val (.ref b99), .val (.int (55 : Int32)), .val (.ref (u 7)), .val (.ref (u 7))] [])) _
                    refine XS.iconst X196.here hx rfl (hb hby at_106) ?_
                    show Steps p.tables e below (T196.setTop (mkF m 107 #[.val (.int p0), .val (.int p1), .val (.int (p1 &&& (15 : Int32))), .val (.ref b99), .val (.int (55 : Int32)), .val (.ref (u 7)), .val (.ref (u 7))] [(.int (1 : Int32))])) _
                    refine XS.goto X196.here hx rfl (pc0 := 107) (pc' := 111) rfl (hb hby at_107) (by decide) (by decide) ?_
                    show Steps p.tables e below (T196.setTop (mkF m 111 #[.val (.int p0), .val (.int p1), .val (.int (p1 &&& (15 : Int32))), .val (.ref b99), .val (.int (55 : Int32)), .val (.ref (u 7)), .val (.ref (u 7))] [(.int (1 : Int32))])) _
                    exact retN X196 hx (t := .boolean) Bd.returns (by simp) (hb hby at_111) hr
                  · show own_Q0 Z u p0 p1 h0 n0 _ T196.heap _
                    exact ⟨rfl, N196, trivial⟩
                · --
                  by_cases hc199 : (p1 &&& (15 : Int32)) = (7 : Int32)
                  · --
                    obtain ⟨cl200, Ar200, -, S200, N200, H200, -⟩ := id V137
                    have hin200 : ¬ ((p1 &&& (15 : Int32)) < 0 ∨ cl200.slots.size ≤ ((p1 &&& (15 : Int32))).toNatClampNeg) := by rw [hc199]; exact inb_of S200 ⟨by decide, by decide⟩
                    have pre201 : ∀ t, Steps p.tables e below (T137.setTop (mkF m 87 #[.val (.int p0), .val (.int p1), .val (.int (p1 &&& (15 : Int32))), .val (.ref b99), .val (.int (74 : Int32)), .unset, .unset] [(.int (74 : Int32))])) t → Steps p.tables e below (s₁.setTop (entryFrame m #[(.int p0), (.int p1)] maxLocals)) t := fun t kt => pre142 t (by
                      show Steps p.tables e below (T137.setTop (mkF m 72 #[.val (.int p0), .val (.int p1), .val (.int (p1 &&& (15 : Int32))), .val (.ref b99), .unset, .unset, .unset] [(.int (p1 &&& (15 : Int32))), (.ref b99)])) _
                      refine X137.caload hx (j := (p1 &&& (15 : Int32))) (v := (.int (74 : Int32))) (by rw [e137]; exact Ar200.1) (State.isArrayOf_alike hZ.alike Ar200.2.1) Ar200.2.2 hin200 (H200.at hin200 (by rw [hc199]; rfl)) (g := (mkF m 72 #[.val (.int p0), .val (.int p1), .val (.int (p1 &&& (15 : Int32))), .val (.ref b99), .unset, .unset, .unset] [(.int (p1 &&& (15 : Int32))), (.ref b99)])) rfl rfl (hb hby at_72) _ ?_
                      show Steps p.tables e below (T137.setTop (mkF m 73 #[.val (.int p0), .val (.int p1), .val (.int (p1 &&& (15 : Int32))), .val (.ref b99), .unset, .unset, .unset] [(.int (74 : Int32))])) _
                      refine XS.istore X137.here hx rfl (hb hby at_73) rfl (l' := #[.val (.int p0), .val (.int p1), .val (.int (p1 &&& (15 : Int32))), .val (.ref b99), .val (.int (74 : Int32)), .unset, .unset]) rfl ?_
                      show Steps p.tables e below (T137.setTop (mkF m 75 #[.val (.int p0), .val (.int p1), .val (.int (p1 &&& (15 : Int32))), .val (.ref b99), .val (.int (74 : Int32)), .unset, .unset] [])) _
                      refine XS.goto X137.here hx rfl (pc0 := 75) (pc' := 85) rfl (hb hby at_75) (by decide) (by decide) ?_
                      show Steps p.tables e below (T137.setTop (mkF m 85 #[.val (.int p0), .val (.int p1), .val (.int (p1 &&& (15 : Int32))), .val (.ref b99), .val (.int (74 : Int32)), .unset, .unset] [])) _
                      refine XS.iload X137.here hx rfl (hb hby at_85) rfl ?_
                      exact kt)
                    obtain ⟨vr202, _, ⟨T202, L202, k202, n202⟩, -, X202, ⟨Lc202, hQ202, l202, y202, z202⟩, st202⟩ := Jvm.LawKit.callS X137 hx (y := (⟨"com/example/smazzata/smazzata/card/RankFromCodePinLaw", "expectedRank", "(C)Lcom/example/smazzata/smazzata/card/Rank;"⟩ : MethodName)) hown (mvT hZ (hw _ (List.mem_of_getElem? (i := 1) rfl))) (mvT hZ (hw _ (List.mem_of_getElem? (i := 2) rfl))) (mvT hZ (hw _ (List.mem_of_getElem? (i := 3) rfl))) (mvT hZ (hw _ (List.mem_of_getElem? (i := 4) rfl))) (by decide) (backOf (W := 0) (rm1 l Z a0 hw [] u (74 : Int32) B h137 n0 O137 ) hZ (hw _ (List.mem_of_getElem? (i := 4) rfl)) (hw _ (List.mem_of_getElem? (i := 3) rfl)) (by decide) (by decide)) (g := (mkF m 87 #[.val (.int p0), .val (.int p1), .val (.int (p1 &&& (15 : Int32))), .val (.ref b99), .val (.int (74 : Int32)), .unset, .unset] [(.int (74 : Int32))])) rfl (by rw [hml]; rfl) (argsL := [(.int (74 : Int32))]) (rest := []) (lenOf own_pd1 rfl) rfl (by show 2 * 0 + _ ≤ _; exact Nat.le_of_eq rfl) (hb hby at_87) (fun _ _ => ⟨rfl, e137, (by decide : 1 + 0 ≤ _), (by decide : 10 + 0 ≤ _)⟩)
                    dsimp only [Pt.U, Pt.locs, Pt.cells, Pt.slots] at X202 l202 y202 z202 st202 hQ202
                    subst l202 y202 z202
                    obtain ⟨hv202, N202q, e202⟩ := hQ202
                    have N202 := Fr.app Nf137 N202q
                    obtain rfl : vr202 = some (.ref (u 8)) := hv202.trans (by unfold own_r1; rw [if_neg (by decide : ¬ ((74 : Int32) = (65 : Int32))), if_neg (by decide : ¬ ((74 : Int32) = (50 : Int32))), if_neg (by decide : ¬ ((74 : Int32) = (51 : Int32))), if_neg (by decide : ¬ ((74 : Int32) = (52 : Int32))), if_neg (by decide : ¬ ((74 : Int32) = (53 : Int32))), if_neg (by decide : ¬ ((74 : Int32) = (54 : Int32))), if_neg (by decide : ¬ ((74 : Int32) = (55 : Int32))), if_pos (by decide : (74 : Int32) = (74 : Int32))])
                    have pre203 : ∀ t, Steps p.tables e below (T202.setTop (mkF m 94 #[.val (.int p0), .val (.int p1), .val (.int (p1 &&& (15 : Int32))), .val (.ref b99), .val (.int (74 : Int32)), .val (.ref (u 8)), .unset] [(.int (74 : Int32))])) t → Steps p.tables e below (s₁.setTop (entryFrame m #[(.int p0), (.int p1)] maxLocals)) t := fun t kt => pre201 t (by
                      show Steps p.tables e below (T137.setTop (mkF m 87 #[.val (.int p0), .val (.int p1), .val (.int (p1 &&& (15 : Int32))), .val (.ref b99), .val (.int (74 : Int32)), .unset, .unset] [(.int (74 : Int32))])) _
                      refine st202 _ ?_
                      show Steps p.tables e below (T202.setTop (mkF m 90 #[.val (.int p0), .val (.int p1), .val (.int (p1 &&& (15 : Int32))), .val (.ref b99), .val (.int (74 : Int32)), .unset, .unset] [(.ref (u 8))])) _
                      refine XS.astore X202.here hx rfl (hb hby at_90) rfl rfl (l' := #[.val (.int p0), .val (.int p1), .val (.int (p1 &&& (15 : Int32))), .val (.ref b99), .val (.int (74 : Int32)), .val (.ref (u 8)), .unset]) rfl ?_
                      show Steps p.tables e below (T202.setTop (mkF m 92 #[.val (.int p0), .val (.int p1), .val (.int (p1 &&& (15 : Int32))), .val (.ref b99), .val (.int (74 : Int32)), .val (.ref (u 8)), .unset] [])) _
                      refine XS.iload X202.here hx rfl (hb hby at_92) rfl ?_
                      exact kt)
                    obtain ⟨vr204, _, ⟨T204, L204, k204, n204⟩, -, X204, ⟨Lc204, hQ204, l204, y204, z204⟩, st204⟩ := Jvm.LawKit.callS X202 hx (y := (⟨"com/example/smazzata/smazzata/card/Rank", "fromCode", "(C)Lcom/example/smazzata/smazzata/card/Rank;"⟩ : MethodName)) hown (mvT hZ (hw _ (List.mem_of_getElem? (i := 8) rfl))) (mvT hZ (hw _ (List.mem_of_getElem? (i := 9) rfl))) (mvT hZ (hw _ (List.mem_of_getElem? (i := 6) rfl))) (mvT hZ (hw _ (List.mem_of_getElem? (i := 10) rfl))) (by decide) (backOf (W := 0) (rm2 l Z a0 hw [] u (74 : Int32) B h137 n0 O137 ) hZ (hw _ (List.mem_of_getElem? (i := 10) rfl)) (hw _ (List.mem_of_getElem? (i := 6) rfl)) (by decide) (by decide)) (g := (mkF m 94 #[.val (.int p0), .val (.int p1), .val (.int (p1 &&& (15 : Int32))), .val (.ref b99), .val (.int (74 : Int32)), .val (.ref (u 8)), .unset] [(.int (74 : Int32))])) rfl (by rw [hml]; rfl) (argsL := [(.int (74 : Int32))]) (rest := []) (lenOf own_pd1 rfl) rfl (by show 2 * 0 + _ ≤ _; exact Nat.le_of_eq rfl) (hb hby at_94) (fun _ _ => ⟨rfl, e202, (by decide : 1 + 1 ≤ _), (by decide : 10 + 10 ≤ _)⟩)
                    dsimp only [Pt.U, Pt.locs, Pt.cells, Pt.slots] at X204 l204 y204 z204 st204 hQ204
                    subst l204 y204 z204
                    obtain ⟨hv204, N204q, E204⟩ := hQ204
                    have N204 := Fr.app N202 N204q
                    have O204 := O137.ext E204
                    have K204 := K137.ext E204
                    have f205 := V137.ext E204
                    obtain rfl : vr204 = some (.ref (u 8)) := hv204.trans (by unfold own_r2; rw [if_neg (by decide : ¬ ((65 : Int32) = (74 : Int32))), if_neg (by decide : ¬ ((50 : Int32) = (74 : Int32))), if_neg (by decide : ¬ ((51 : Int32) = (74 : Int32))), if_neg (by decide : ¬ ((52 : Int32) = (74 : Int32))), if_neg (by decide : ¬ ((53 : Int32) = (74 : Int32))), if_neg (by decide : ¬ ((54 : Int32) = (74 : Int32))), if_neg (by decide : ¬ ((55 : Int32) = (74 : Int32))), if_pos (by decide : (74 : Int32) = (74 : Int32))])
                    obtain ⟨fs, hr, hrun, hended, hW, hsame⟩ := X204.leave (v := some (.int (1 : Int32))) (fun h => by rw [Bd.returns] at h; cases h)
                    refine ⟨_, _, pre203 _ ?_, hrun, hended, _, _, rfl, ?_, ⟨_, rfl⟩, hW, hsame.mono (by decide) (by decide)⟩
                    · show Steps p.tables e below (T202.setTop (mkF m 94 #[.val (.int p0), .val (.int p1), .val (.int (p1 &&& (15 : Int32))), .val (.ref b99), .val (.int (74 : Int32)), .val (.ref (u 8)), .unset] [(.int (74 : Int32))])) _
                      refine st204 _ ?_
                      show Steps p.tables e below (T204.setTop (mkF m 97 #[.val (.int p0), .val (.int p1), .val (.int (p1 &&& (15 : Int32))), .val (.ref b99), .val (.int (74 : Int32)), .val (.ref (u 8)), .unset] [(.ref (u 8))])) _
                      refine XS.astore X204.here hx rfl (hb hby at_97) rfl rfl (l' := #[.val (.int p0), .val (.int p1), .val (.int (p1 &&& (15 : Int32))), .val (.ref b99), .val (.int (74 : Int32)), .val (.ref (u 8)), .val (.ref (u 8))]) rfl ?_
                      show Steps p.tables e below (T204.setTop (mkF m 99 #[.val (.int p0), .val (.int p1), .val (.int (p1 &&& (15 : Int32))), .val (.ref b99), .val (.int (74 : Int32)), .val (.ref (u 8)), .val (.ref (u 8))] [])) _
                      refine XS.aload X204.here hx rfl (hb hby at_99) rfl rfl ?_
                      show Steps p.tables e below (T204.setTop (mkF m 101 #[.val (.int p0), .val (.int p1), .val (.int (p1 &&& (15 : Int32))), .val (.ref b99), .val (.int (74 : Int32)), .val (.ref (u 8)), .val (.ref (u 8))] [(.ref (u 8))])) _
                      refine XS.aload X204.here hx rfl (hb hby at_101) rfl rfl ?_
                      show Steps p.tables e below (T204.setTop (mkF m 103 #[.val (.int p0), .val (.int p1), .val (.int (p1 &&& (15 : Int32))), .val (.ref b99), .val (.int (74 : Int32)), .val (.ref (u 8)), .val (.ref (u 8))] [(.ref (u 8)), (.ref (u 8))])) _
                      refine Jvm.RoadKit.acmp (g := (mkF m 103 #[.val (.int p0), .val (.int p1), .val (.int (p1 &&& (15 : Int32))), .val (.ref b99), .val (.int (74 : Int32)), .val (.ref (u 8)), .val (.ref (u 8))] [(.ref (u 8)), (.ref (u 8))])) X204 hx rfl rfl rfl (pc0 := 103) (pc' := 106) (same := true) rfl (hb hby at_103) rfl (decide_eq_true rfl) (by decide) (by decide) ?_
                      show Steps p.tables e below (T204.setTop (mkF m 106 #[.val (.int p0), .val (.int p1), .val (.int (p1 &&& (15 : Int32))), .val (.ref b99), .val (.int (74 : Int32)), .val (.ref (u 8)), .val (.ref (u 8))] [])) _
                      refine XS.iconst X204.here hx rfl (hb hby at_106) ?_
                      show Steps p.tables e below (T204.setTop (mkF m 107 #[.val (.int p0), .val (.int p1), .val (.int (p1 &&& (15 : Int32))), .val (.ref b99), .val (.int (74 : Int32)), .val (.ref (u 8)), .val (.ref (u 8))] [(.int (1 : Int32))])) _
                      refine XS.goto X204.here hx rfl (pc0 := 107) (pc' := 111) rfl (hb hby at_107) (by decide) (by decide) ?_
                      show Steps p.tables e below (T204.setTop (mkF m 111 #[.val (.int p0), .val (.int p1), .val (.int (p1 &&& (15 : Int32))), .val (.ref b99), .val (.int (74 : Int32)), .val (.ref (u 8)), .val (.ref (u 8))] [(.int (1 : Int32))])) _
                      exact retN X204 hx (t := .boolean) Bd.returns (by simp) (hb hby at_111) hr
                    · show own_Q0 Z u p0 p1 h0 n0 _ T204.heap _
                      exact ⟨rfl, N204, trivial⟩
                  · --
                    by_cases hc207 : (p1 &&& (15 : Int32)) = (8 : Int32)
                    · --
                      obtain ⟨cl208, Ar208, -, S208, N208, H208, -⟩ := id V137
                      have hin208 : ¬ ((p1 &&& (15 : Int32)) < 0 ∨ cl208.slots.size ≤ ((p1 &&& (15 : Int32))).toNatClampNeg) := by rw [hc207]; exact inb_of S208 ⟨by decide, by decide⟩
                      have pre209 : ∀ t, Steps p.tables e below (T137.setTop (mkF m 87 #[.val (.int p0), .val (.int p1), .val (.int (p1 &&& (15 : Int32))), .val (.ref b99), .val (.int (81 : Int32)), .unset, .unset] [(.int (81 : Int32))])) t → Steps p.tables e below (s₁.setTop (entryFrame m #[(.int p0), (.int p1)] maxLocals)) t := fun t kt => pre142 t (by
                        show Steps p.tables e below (T137.setTop (mkF m 72 #[.val (.int p0), .val (.int p1), .val (.int (p1 &&& (15 : Int32))), .val (.ref b99), .unset, .unset, .unset] [(.int (p1 &&& (15 : Int32))), (.ref b99)])) _
                        refine X137.caload hx (j := (p1 &&& (15 : Int32))) (v := (.int (81 : Int32))) (by rw [e137]; exact Ar208.1) (State.isArrayOf_alike hZ.alike Ar208.2.1) Ar208.2.2 hin208 (H208.at hin208 (by rw [hc207]; rfl)) (g := (mkF m 72 #[.val (.int p0), .val (.int p1), .val (.int (p1 &&& (15 : Int32))), .val (.ref b99), .unset, .unset, .unset] [(.int (p1 &&& (15 : Int32))), (.ref b99)])) rfl rfl (hb hby at_72) _ ?_
                        show Steps p.tables e below (T137.setTop (mkF m 73 #[.val (.int p0), .val (.int p1), .val (.int (p1 &&& (15 : Int32))), .val (.ref b99), .unset, .unset, .unset] [(.int (81 : Int32))])) _
                        refine XS.istore X137.here hx rfl (hb hby at_73) rfl (l' := #[.val (.int p0), .val (.int p1), .val (.int (p1 &&& (15 : Int32))), .val (.ref b99), .val (.int (81 : Int32)), .unset, .unset]) rfl ?_
                        show Steps p.tables e below (T137.setTop (mkF m 75 #[.val (.int p0), .val (.int p1), .val (.int (p1 &&& (15 : Int32))), .val (.ref b99), .val (.int (81 : Int32)), .unset, .unset] [])) _
                        refine XS.goto X137.here hx rfl (pc0 := 75) (pc' := 85) rfl (hb hby at_75) (by decide) (by decide) ?_
                        show Steps p.tables e below (T137.setTop (mkF m 85 #[.val (.int p0), .val (.int p1), .val (.int (p1 &&& (15 : Int32))), .val (.ref b99), .val (.int (81 : Int32)), .unset, .unset] [])) _
                        refine XS.iload X137.here hx rfl (hb hby at_85) rfl ?_
                        exact kt)
                      obtain ⟨vr210, _, ⟨T210, L210, k210, n210⟩, -, X210, ⟨Lc210, hQ210, l210, y210, z210⟩, st210⟩ := Jvm.LawKit.callS X137 hx (y := (⟨"com/example/smazzata/smazzata/card/RankFromCodePinLaw", "expectedRank", "(C)Lcom/example/smazzata/smazzata/card/Rank;"⟩ : MethodName)) hown (mvT hZ (hw _ (List.mem_of_getElem? (i := 1) rfl))) (mvT hZ (hw _ (List.mem_of_getElem? (i := 2) rfl))) (mvT hZ (hw _ (List.mem_of_getElem? (i := 3) rfl))) (mvT hZ (hw _ (List.mem_of_getElem? (i := 4) rfl))) (by decide) (backOf (W := 0) (rm1 l Z a0 hw [] u (81 : Int32) B h137 n0 O137 ) hZ (hw _ (List.mem_of_getElem? (i := 4) rfl)) (hw _ (List.mem_of_getElem? (i := 3) rfl)) (by decide) (by decide)) (g := (mkF m 87 #[.val (.int p0), .val (.int p1), .val (.int (p1 &&& (15 : Int32))), .val (.ref b99), .val (.int (81 : Int32)), .unset, .unset] [(.int (81 : Int32))])) rfl (by rw [hml]; rfl) (argsL := [(.int (81 : Int32))]) (rest := []) (lenOf own_pd1 rfl) rfl (by show 2 * 0 + _ ≤ _; exact Nat.le_of_eq rfl) (hb hby at_87) (fun _ _ => ⟨rfl, e137, (by decide : 1 + 0 ≤ _), (by decide : 10 + 0 ≤ _)⟩)
                      dsimp only [Pt.U, Pt.locs, Pt.cells, Pt.slots] at X210 l210 y210 z210 st210 hQ210
                      subst l210 y210 z210
                      obtain ⟨hv210, N210q, e210⟩ := hQ210
                      have N210 := Fr.app Nf137 N210q
                      obtain rfl : vr210 = some (.ref (u 9)) := hv210.trans (by unfold own_r1; rw [if_neg (by decide : ¬ ((81 : Int32) = (65 : Int32))), if_neg (by decide : ¬ ((81 : Int32) = (50 : Int32))), if_neg (by decide : ¬ ((81 : Int32) = (51 : Int32))), if_neg (by decide : ¬ ((81 : Int32) = (52 : Int32))), if_neg (by decide : ¬ ((81 : Int32) = (53 : Int32))), if_neg (by decide : ¬ ((81 : Int32) = (54 : Int32))), if_neg (by decide : ¬ ((81 : Int32) = (55 : Int32))), if_neg (by decide : ¬ ((81 : Int32) = (74 : Int32))), if_pos (by decide : (81 : Int32) = (81 : Int32))])
                      have pre211 : ∀ t, Steps p.tables e below (T210.setTop (mkF m 94 #[.val (.int p0), .val (.int p1), .val (.int (p1 &&& (15 : Int32))), .val (.ref b99), .val (.int (81 : Int32)), .val (.ref (u 9)), .unset] [(.int (81 : Int32))])) t → Steps p.tables e below (s₁.setTop (entryFrame m #[(.int p0), (.int p1)] maxLocals)) t := fun t kt => pre209 t (by
                        show Steps p.tables e below (T137.setTop (mkF m 87 #[.val (.int p0), .val (.int p1), .val (.int (p1 &&& (15 : Int32))), .val (.ref b99), .val (.int (81 : Int32)), .unset, .unset] [(.int (81 : Int32))])) _
                        refine st210 _ ?_
                        show Steps p.tables e below (T210.setTop (mkF m 90 #[.val (.int p0), .val (.int p1), .val (.int (p1 &&& (15 : Int32))), .val (.ref b99), .val (.int (81 : Int32)), .unset, .unset] [(.ref (u 9))])) _
                        refine XS.astore X210.here hx rfl (hb hby at_90) rfl rfl (l' := #[.val (.int p0), .val (.int p1), .val (.int (p1 &&& (15 : Int32))), .val (.ref b99), .val (.int (81 : Int32)), .val (.ref (u 9)), .unset]) rfl ?_
                        show Steps p.tables e below (T210.setTop (mkF m 92 #[.val (.int p0), .val (.int p1), .val (.int (p1 &&& (15 : Int32))), .val (.ref b99), .val (.int (81 : Int32)), .val (.ref (u 9)), .unset] [])) _
                        refine XS.iload X210.here hx rfl (hb hby at_92) rfl ?_
                        exact kt)
                      obtain ⟨vr212, _, ⟨T212, L212, k212, n212⟩, -, X212, ⟨Lc212, hQ212, l212, y212, z212⟩, st212⟩ := Jvm.LawKit.callS X210 hx (y := (⟨"com/example/smazzata/smazzata/card/Rank", "fromCode", "(C)Lcom/example/smazzata/smazzata/card/Rank;"⟩ : MethodName)) hown (mvT hZ (hw _ (List.mem_of_getElem? (i := 8) rfl))) (mvT hZ (hw _ (List.mem_of_getElem? (i := 9) rfl))) (mvT hZ (hw _ (List.mem_of_getElem? (i := 6) rfl))) (mvT hZ (hw _ (List.mem_of_getElem? (i := 10) rfl))) (by decide) (backOf (W := 0) (rm2 l Z a0 hw [] u (81 : Int32) B h137 n0 O137 ) hZ (hw _ (List.mem_of_getElem? (i := 10) rfl)) (hw _ (List.mem_of_getElem? (i := 6) rfl)) (by decide) (by decide)) (g := (mkF m 94 #[.val (.int p0), .val (.int p1), .val (.int (p1 &&& (15 : Int32))), .val (.ref b99), .val (.int (81 : Int32)), .val (.ref (u 9)), .unset] [(.int (81 : Int32))])) rfl (by rw [hml]; rfl) (argsL := [(.int (81 : Int32))]) (rest := []) (lenOf own_pd1 rfl) rfl (by show 2 * 0 + _ ≤ _; exact Nat.le_of_eq rfl) (hb hby at_94) (fun _ _ => ⟨rfl, e210, (by decide : 1 + 1 ≤ _), (by decide : 10 + 10 ≤ _)⟩)
                      dsimp only [Pt.U, Pt.locs, Pt.cells, Pt.slots] at X212 l212 y212 z212 st212 hQ212
                      subst l212 y212 z212
                      obtain ⟨hv212, N212q, E212⟩ := hQ212
                      have N212 := Fr.app N210 N212q
                      have O212 := O137.ext E212
                      have K212 := K137.ext E212
                      have f213 := V137.ext E212
                      obtain rfl : vr212 = some (.ref (u 9)) := hv212.trans (by unfold own_r2; rw [if_neg (by decide : ¬ ((65 : Int32) = (81 : Int32))), if_neg (by decide : ¬ ((50 : Int32) = (81 : Int32))), if_neg (by decide : ¬ ((51 : Int32) = (81 : Int32))), if_neg (by decide : ¬ ((52 : Int32) = (81 : Int32))), if_neg (by decide : ¬ ((53 : Int32) = (81 : Int32))), if_neg (by decide : ¬ ((54 : Int32) = (81 : Int32))), if_neg (by decide : ¬ ((55 : Int32) = (81 : Int32))), if_neg (by decide : ¬ ((74 : Int32) = (81 : Int32))), if_pos (by decide : (81 : Int32) = (81 : Int32))])
                      obtain ⟨fs, hr, hrun, hended, hW, hsame⟩ := X212.leave (v := some (.int (1 : Int32))) (fun h => by rw [Bd.returns] at h; cases h)
                      refine ⟨_, _, pre211 _ ?_, hrun, hended, _, _, rfl, ?_, ⟨_, rfl⟩, hW, hsame.mono (by decide) (by decide)⟩
                      · show Steps p.tables e below (T210.setTop (mkF m 94 #[.val (.int p0), .val (.int p1), .val (.int (p1 &&& (15 : Int32))), .val (.ref b99), .val (.int (81 : Int32)), .val (.ref (u 9)), .unset] [(.int (81 : Int32))])) _
                        refine st212 _ ?_
                        show Steps p.tables e below (T212.setTop (mkF m 97 #[.val (.int p0), .val (.int p1), .val (.int (p1 &&& (15 : Int32))), .val (.ref b99), .val (.int (81 : Int32)), .val (.ref (u 9)), .unset] [(.ref (u 9))])) _
                        refine XS.astore X212.here hx rfl (hb hby at_97) rfl rfl (l' := #[.val (.int p0), .val (.int p1), .val (.int (p1 &&& (15 : Int32))), .val (.ref b99), .val (.int (81 : Int32)), .val (.ref (u 9)), .val (.ref (u 9))]) rfl ?_
                        show Steps p.tables e below (T212.setTop (mkF m 99 #[.val (.int p0), .val (.int p1), .val (.int (p1 &&& (15 : Int32))), .val (.ref b99), .val (.int (81 : Int32)), .val (.ref (u 9)), .val (.ref (u 9))] [])) _
                        refine XS.aload X212.here hx rfl (hb hby at_99) rfl rfl ?_
                        show Steps p.tables e below (T212.setTop (mkF m 101 #[.val (.int p0), .val (.int p1), .val (.int (p1 &&& (15 : Int32))), .val (.ref b99), .val (.int (81 : Int32)), .val (.ref (u 9)), .val (.ref (u 9))] [(.ref (u 9))])) _
                        refine XS.aload X212.here hx rfl (hb hby at_101) rfl rfl ?_
                        show Steps p.tables e below (T212.setTop (mkF m 103 #[.val (.int p0), .val (.int p1), .val (.int (p1 &&& (15 : Int32))), .val (.ref b99), .val (.int (81 : Int32)), .val (.ref (u 9)), .val (.ref (u 9))] [(.ref (u 9)), (.ref (u 9))])) _
                        refine Jvm.RoadKit.acmp (g := (mkF m 103 #[.val (.int p0), .val (.int p1), .val (.int (p1 &&& (15 : Int32))), .val (.ref b99), .val (.int (81 : Int32)), .val (.ref (u 9)), .val (.ref (u 9))] [(.ref (u 9)), (.ref (u 9))])) X212 hx rfl rfl rfl (pc0 := 103) (pc' := 106) (same := true) rfl (hb hby at_103) rfl (decide_eq_true rfl) (by decide) (by decide) ?_
                        show Steps p.tables e below (T212.setTop (mkF m 106 #[.val (.int p0), .val (.int p1), .val (.int (p1 &&& (15 : Int32))), .val (.ref b99), .val (.int (81 : Int32)), .val (.ref (u 9)), .val (.ref (u 9))] [])) _
                        refine XS.iconst X212.here hx rfl (hb hby at_106) ?_
                        show Steps p.tables e below (T212.setTop (mkF m 107 #[.val (.int p0), .val (.int p1), .val (.int (p1 &&& (15 : Int32))), .val (.ref b99), .val (.int (81 : Int32)), .val (.ref (u 9)), .val (.ref (u 9))] [(.int (1 : Int32))])) _
                        refine XS.goto X212.here hx rfl (pc0 := 107) (pc' := 111) rfl (hb hby at_107) (by decide) (by decide) ?_
                        show Steps p.tables e below (T212.setTop (mkF m 111 #[.val (.int p0), .val (.int p1), .val (.int (p1 &&& (15 : Int32))), .val (.ref b99), .val (.int (81 : Int32)), .val (.ref (u 9)), .val (.ref (u 9))] [(.int (1 : Int32))])) _
                        exact retN X212 hx (t := .boolean) Bd.returns (by simp) (hb hby at_111) hr
                      · show own_Q0 Z u p0 p1 h0 n0 _ T212.heap _
                        exact ⟨rfl, N212, trivial⟩
                    · --
                      by_cases hc215 : (p1 &&& (15 : Int32)) = (9 : Int32)
                      · --
                        obtain ⟨cl216, Ar216, -, S216, N216, H216, -⟩ := id V137
                        have hin216 : ¬ ((p1 &&& (15 : Int32)) < 0 ∨ cl216.slots.size ≤ ((p1 &&& (15 : Int32))).toNatClampNeg) := by rw [hc215]; exact inb_of S216 ⟨by decide, by decide⟩
                        have pre217 : ∀ t, Steps p.tables e below (T137.setTop (mkF m 87 #[.val (.int p0), .val (.int p1), .val (.int (p1 &&& (15 : Int32))), .val (.ref b99), .val (.int (75 : Int32)), .unset, .unset] [(.int (75 : Int32))])) t → Steps p.tables e below (s₁.setTop (entryFrame m #[(.int p0), (.int p1)] maxLocals)) t := fun t kt => pre142 t (by
                          show Steps p.tables e below (T137.setTop (mkF m 72 #[.val (.int p0), .val (.int p1), .val (.int (p1 &&& (15 : Int32))), .val (.ref b99), .unset, .unset, .unset] [(.int (p1 &&& (15 : Int32))), (.ref b99)])) _
                          refine X137.caload hx (j := (p1 &&& (15 : Int32))) (v := (.int (75 : Int32))) (by rw [e137]; exact Ar216.1) (State.isArrayOf_alike hZ.alike Ar216.2.1) Ar216.2.2 hin216 (H216.at hin216 (by rw [hc215]; rfl)) (g := (mkF m 72 #[.val (.int p0), .val (.int p1), .val (.int (p1 &&& (15 : Int32))), .val (.ref b99), .unset, .unset, .unset] [(.int (p1 &&& (15 : Int32))), (.ref b99)])) rfl rfl (hb hby at_72) _ ?_
                          show Steps p.tables e below (T137.setTop (mkF m 73 #[.val (.int p0), .val (.int p1), .val (.int (p1 &&& (15 : Int32))), .val (.ref b99), .unset, .unset, .unset] [(.int (75 : Int32))])) _
                          refine XS.istore X137.here hx rfl (hb hby at_73) rfl (l' := #[.val (.int p0), .val (.int p1), .val (.int (p1 &&& (15 : Int32))), .val (.ref b99), .val (.int (75 : Int32)), .unset, .unset]) rfl ?_
                          show Steps p.tables e below (T137.setTop (mkF m 75 #[.val (.int p0), .val (.int p1), .val (.int (p1 &&& (15 : Int32))), .val (.ref b99), .val (.int (75 : Int32)), .unset, .unset] [])) _
                          refine XS.goto X137.here hx rfl (pc0 := 75) (pc' := 85) rfl (hb hby at_75) (by decide) (by decide) ?_
                          show Steps p.tables e below (T137.setTop (mkF m 85 #[.val (.int p0), .val (.int p1), .val (.int (p1 &&& (15 : Int32))), .val (.ref b99), .val (.int (75 : Int32)), .unset, .unset] [])) _
                          refine XS.iload X137.here hx rfl (hb hby at_85) rfl ?_
                          exact kt)
                        obtain ⟨vr218, _, ⟨T218, L218, k218, n218⟩, -, X218, ⟨Lc218, hQ218, l218, y218, z218⟩, st218⟩ := Jvm.LawKit.callS X137 hx (y := (⟨"com/example/smazzata/smazzata/card/RankFromCodePinLaw", "expectedRank", "(C)Lcom/example/smazzata/smazzata/card/Rank;"⟩ : MethodName)) hown (mvT hZ (hw _ (List.mem_of_getElem? (i := 1) rfl))) (mvT hZ (hw _ (List.mem_of_getElem? (i := 2) rfl))) (mvT hZ (hw _ (List.mem_of_getElem? (i := 3) rfl))) (mvT hZ (hw _ (List.mem_of_getElem? (i := 4) rfl))) (by decide) (backOf (W := 0) (rm1 l Z a0 hw [] u (75 : Int32) B h137 n0 O137 ) hZ (hw _ (List.mem_of_getElem? (i := 4) rfl)) (hw _ (List.mem_of_getElem? (i := 3) rfl)) (by decide) (by decide)) (g := (mkF m 87 #[.val (.int p0), .val (.int p1), .val (.int (p1 &&& (15 : Int32))), .val (.ref b99), .val (.int (75 : Int32)), .unset, .unset] [(.int (75 : Int32))])) rfl (by rw [hml]; rfl) (argsL := [(.int (75 : Int32))]) (rest := []) (lenOf own_pd1 rfl) rfl (by show 2 * 0 + _ ≤ _; exact Nat.le_of_eq rfl) (hb hby at_87) (fun _ _ => ⟨rfl, e137, (by decide : 1 + 0 ≤ _), (by decide : 10 + 0 ≤ _)⟩)
                        dsimp only [Pt.U, Pt.locs, Pt.cells, Pt.slots] at X218 l218 y218 z218 st218 hQ218
                        subst l218 y218 z218
                        obtain ⟨hv218, N218q, e218⟩ := hQ218
                        have N218 := Fr.app Nf137 N218q
                        obtain rfl : vr218 = some (.ref (u 10)) := hv218.trans (by unfold own_r1; rw [if_neg (by decide : ¬ ((75 : Int32) = (65 : Int32))), if_neg (by decide : ¬ ((75 : Int32) = (50 : Int32))), if_neg (by decide : ¬ ((75 : Int32) = (51 : Int32))), if_neg (by decide : ¬ ((75 : Int32) = (52 : Int32))), if_neg (by decide : ¬ ((75 : Int32) = (53 : Int32))), if_neg (by decide : ¬ ((75 : Int32) = (54 : Int32))), if_neg (by decide : ¬ ((75 : Int32) = (55 : Int32))), if_neg (by decide : ¬ ((75 : Int32) = (74 : Int32))), if_neg (by decide : ¬ ((75 : Int32) = (81 : Int32))), if_pos (by decide : (75 : Int32) = (75 : Int32))])
                        have pre219 : ∀ t, Steps p.tables e below (T218.setTop (mkF m 94 #[.val (.int p0), .val (.int p1), .val (.int (p1 &&& (15 : Int32))), .val (.ref b99), .val (.int (75 : Int32)), .val (.ref (u 10)), .unset] [(.int (75 : Int32))])) t → Steps p.tables e below (s₁.setTop (entryFrame m #[(.int p0), (.int p1)] maxLocals)) t := fun t kt => pre217 t (by
                          show Steps p.tables e below (T137.setTop (mkF m 87 #[.val (.int p0), .val (.int p1), .val (.int (p1 &&& (15 : Int32))), .val (.ref b99), .val (.int (75 : Int32)), .unset, .unset] [(.int (75 : Int32))])) _
                          refine st218 _ ?_
                          show Steps p.tables e below (T218.setTop (mkF m 90 #[.val (.int p0), .val (.int p1), .val (.int (p1 &&& (15 : Int32))), .val (.ref b99), .val (.int (75 : Int32)), .unset, .unset] [(.ref (u 10))])) _
                          refine XS.astore X218.here hx rfl (hb hby at_90) rfl rfl (l' := #[.val (.int p0), .val (.int p1), .val (.int (p1 &&& (15 : Int32))), .val (.ref b99), .val (.int (75 : Int32)), .val (.ref (u 10)), .unset]) rfl ?_
                          show Steps p.tables e below (T218.setTop (mkF m 92 #[.val (.int p0), .val (.int p1), .val (.int (p1 &&& (15 : Int32))), .val (.ref b99), .val (.int (75 : Int32)), .val (.ref (u 10)), .unset] [])) _
                          refine XS.iload X218.here hx rfl (hb hby at_92) rfl ?_
                          exact kt)
                        obtain ⟨vr220, _, ⟨T220, L220, k220, n220⟩, -, X220, ⟨Lc220, hQ220, l220, y220, z220⟩, st220⟩ := Jvm.LawKit.callS X218 hx (y := (⟨"com/example/smazzata/smazzata/card/Rank", "fromCode", "(C)Lcom/example/smazzata/smazzata/card/Rank;"⟩ : MethodName)) hown (mvT hZ (hw _ (List.mem_of_getElem? (i := 8) rfl))) (mvT hZ (hw _ (List.mem_of_getElem? (i := 9) rfl))) (mvT hZ (hw _ (List.mem_of_getElem? (i := 6) rfl))) (mvT hZ (hw _ (List.mem_of_getElem? (i := 10) rfl))) (by decide) (backOf (W := 0) (rm2 l Z a0 hw [] u (75 : Int32) B h137 n0 O137 ) hZ (hw _ (List.mem_of_getElem? (i := 10) rfl)) (hw _ (List.mem_of_getElem? (i := 6) rfl)) (by decide) (by decide)) (g := (mkF m 94 #[.val (.int p0), .val (.int p1), .val (.int (p1 &&& (15 : Int32))), .val (.ref b99), .val (.int (75 : Int32)), .val (.ref (u 10)), .unset] [(.int (75 : Int32))])) rfl (by rw [hml]; rfl) (argsL := [(.int (75 : Int32))]) (rest := []) (lenOf own_pd1 rfl) rfl (by show 2 * 0 + _ ≤ _; exact Nat.le_of_eq rfl) (hb hby at_94) (fun _ _ => ⟨rfl, e218, (by decide : 1 + 1 ≤ _), (by decide : 10 + 10 ≤ _)⟩)
                        dsimp only [Pt.U, Pt.locs, Pt.cells, Pt.slots] at X220 l220 y220 z220 st220 hQ220
                        subst l220 y220 z220
                        obtain ⟨hv220, N220q, E220⟩ := hQ220
                        have N220 := Fr.app N218 N220q
                        have O220 := O137.ext E220
                        have K220 := K137.ext E220
                        have f221 := V137.ext E220
                        obtain rfl : vr220 = some (.ref (u 10)) := hv220.trans (by unfold own_r2; rw [if_neg (by decide : ¬ ((65 : Int32) = (75 : Int32))), if_neg (by decide : ¬ ((50 : Int32) = (75 : Int32))), if_neg (by decide : ¬ ((51 : Int32) = (75 : Int32))), if_neg (by decide : ¬ ((52 : Int32) = (75 : Int32))), if_neg (by decide : ¬ ((53 : Int32) = (75 : Int32))), if_neg (by decide : ¬ ((54 : Int32) = (75 : Int32))), if_neg (by decide : ¬ ((55 : Int32) = (75 : Int32))), if_neg (by decide : ¬ ((74 : Int32) = (75 : Int32))), if_neg (by decide : ¬ ((81 : Int32) = (75 : Int32))), if_pos (by decide : (75 : Int32) = (75 : Int32))])
                        obtain ⟨fs, hr, hrun, hended, hW, hsame⟩ := X220.leave (v := some (.int (1 : Int32))) (fun h => by rw [Bd.returns] at h; cases h)
                        refine ⟨_, _, pre219 _ ?_, hrun, hended, _, _, rfl, ?_, ⟨_, rfl⟩, hW, hsame.mono (by decide) (by decide)⟩
                        · show Steps p.tables e below (T218.setTop (mkF m 94 #[.val (.int p0), .val (.int p1), .val (.int (p1 &&& (15 : Int32))), .val (.ref b99), .val (.int (75 : Int32)), .val (.ref (u 10)), .unset] [(.int (75 : Int32))])) _
                          refine st220 _ ?_
                          show Steps p.tables e below (T220.setTop (mkF m 97 #[.val (.int p0), .val (.int p1), .val (.int (p1 &&& (15 : Int32))), .val (.ref b99), .val (.int (75 : Int32)), .val (.ref (u 10)), .unset] [(.ref (u 10))])) _
                          refine XS.astore X220.here hx rfl (hb hby at_97) rfl rfl (l' := #[.val (.int p0), .val (.int p1), .val (.int (p1 &&& (15 : Int32))), .val (.ref b99), .val (.int (75 : Int32)), .val (.ref (u 10)), .val (.ref (u 10))]) rfl ?_
                          show Steps p.tables e below (T220.setTop (mkF m 99 #[.val (.int p0), .val (.int p1), .val (.int (p1 &&& (15 : Int32))), .val (.ref b99), .val (.int (75 : Int32)), .val (.ref (u 10)), .val (.ref (u 10))] [])) _
                          refine XS.aload X220.here hx rfl (hb hby at_99) rfl rfl ?_
                          show Steps p.tables e below (T220.setTop (mkF m 101 #[.val (.int p0), .val (.int p1), .val (.int (p1 &&& (15 : Int32))), .val (.ref b99), .val (.int (75 : Int32)), .val (.ref (u 10)), .val (.ref (u 10))] [(.ref (u 10))])) _
                          refine XS.aload X220.here hx rfl (hb hby at_101) rfl rfl ?_
                          show Steps p.tables e below (T220.setTop (mkF m 103 #[.val (.int p0), .val (.int p1), .val (.int (p1 &&& (15 : Int32))), .val (.ref b99), .val (.int (75 : Int32)), .val (.ref (u 10)), .val (.ref (u 10))] [(.ref (u 10)), (.ref (u 10))])) _
                          refine Jvm.RoadKit.acmp (g := (mkF m 103 #[.val (.int p0), .val (.int p1), .val (.int (p1 &&& (15 : Int32))), .val (.ref b99), .val (.int (75 : Int32)), .val (.ref (u 10)), .val (.ref (u 10))] [(.ref (u 10)), (.ref (u 10))])) X220 hx rfl rfl rfl (pc0 := 103) (pc' := 106) (same := true) rfl (hb hby at_103) rfl (decide_eq_true rfl) (by decide) (by decide) ?_
                          show Steps p.tables e below (T220.setTop (mkF m 106 #[.val (.int p0), .val (.int p1), .val (.int (p1 &&& (15 : Int32))), .val (.ref b99), .val (.int (75 : Int32)), .val (.ref (u 10)), .val (.ref (u 10))] [])) _
                          refine XS.iconst X220.here hx rfl (hb hby at_106) ?_
                          show Steps p.tables e below (T220.setTop (mkF m 107 #[.val (.int p0), .val (.int p1), .val (.int (p1 &&& (15 : Int32))), .val (.ref b99), .val (.int (75 : Int32)), .val (.ref (u 10)), .val (.ref (u 10))] [(.int (1 : Int32))])) _
                          refine XS.goto X220.here hx rfl (pc0 := 107) (pc' := 111) rfl (hb hby at_107) (by decide) (by decide) ?_
                          show Steps p.tables e below (T220.setTop (mkF m 111 #[.val (.int p0), .val (.int p1), .val (.int (p1 &&& (15 : Int32))), .val (.ref b99), .val (.int (75 : Int32)), .val (.ref (u 10)), .val (.ref (u 10))] [(.int (1 : Int32))])) _
                          exact retN X220 hx (t := .boolean) Bd.returns (by simp) (hb hby at_111) hr
                        · show own_Q0 Z u p0 p1 h0 n0 _ T220.heap _
                          exact ⟨rfl, N220, trivial⟩
                      · --
                        exact absurd (own_exh10 (j := (p1 &&& (15 : Int32))) (own_and15 p1).1 (Int32.lt_iff_toInt_lt.mp hc141) hc143 hc151 hc159 hc167 hc175 hc183 hc191 hc199 hc207 hc215) id
  · --
    have pre223 : ∀ t, Steps p.tables e below (T137.setTop (mkF m 87 #[.val (.int p0), .val (.int p1), .val (.int (p1 &&& (15 : Int32))), .val (.ref b99), .val (.int ((p0 &&& (65535 : Int32)).toUInt32.toUInt16.toUInt32.toInt32)), .unset, .unset] [(.int ((p0 &&& (65535 : Int32)).toUInt32.toUInt16.toUInt32.toInt32))])) t → Steps p.tables e below (s₁.setTop (entryFrame m #[(.int p0), (.int p1)] maxLocals)) t := fun t kt => pre140 t (by
      show Steps p.tables e below (T137.setTop (mkF m 67 #[.val (.int p0), .val (.int p1), .val (.int (p1 &&& (15 : Int32))), .val (.ref b99), .unset, .unset, .unset] [(.int (10 : Int32)), (.int (p1 &&& (15 : Int32)))])) _
      refine XS.icmpYes X137.here hx rfl (pc0 := 67) (pc' := 78) rfl (hb hby at_67) rfl (flt hc141).2.1 (by decide) (by decide) ?_
      show Steps p.tables e below (T137.setTop (mkF m 78 #[.val (.int p0), .val (.int p1), .val (.int (p1 &&& (15 : Int32))), .val (.ref b99), .unset, .unset, .unset] [])) _
      refine XS.iloadN X137.here hx rfl (hb hby at_78) rfl ?_
      show Steps p.tables e below (T137.setTop (mkF m 79 #[.val (.int p0), .val (.int p1), .val (.int (p1 &&& (15 : Int32))), .val (.ref b99), .unset, .unset, .unset] [(.int p0)])) _
      refine X137.ldcInt hx hown (mvT hZ (hw _ (List.mem_of_getElem? (i := 40) rfl))) (g := (mkF m 79 #[.val (.int p0), .val (.int p1), .val (.int (p1 &&& (15 : Int32))), .val (.ref b99), .unset, .unset, .unset] [(.int p0)])) rfl (hb hby at_79) _ ?_
      show Steps p.tables e below (T137.setTop (mkF m 81 #[.val (.int p0), .val (.int p1), .val (.int (p1 &&& (15 : Int32))), .val (.ref b99), .unset, .unset, .unset] [(.int (65535 : Int32)), (.int p0)])) _
      refine XS.iand X137.here hx rfl (hb hby at_81) rfl ?_
      show Steps p.tables e below (T137.setTop (mkF m 82 #[.val (.int p0), .val (.int p1), .val (.int (p1 &&& (15 : Int32))), .val (.ref b99), .unset, .unset, .unset] [(.int (p0 &&& (65535 : Int32)))])) _
      refine XS.i2c X137.here hx rfl (hb hby at_82) rfl ?_
      show Steps p.tables e below (T137.setTop (mkF m 83 #[.val (.int p0), .val (.int p1), .val (.int (p1 &&& (15 : Int32))), .val (.ref b99), .unset, .unset, .unset] [(.int ((p0 &&& (65535 : Int32)).toUInt32.toUInt16.toUInt32.toInt32))])) _
      refine XS.istore X137.here hx rfl (hb hby at_83) rfl (l' := #[.val (.int p0), .val (.int p1), .val (.int (p1 &&& (15 : Int32))), .val (.ref b99), .val (.int ((p0 &&& (65535 : Int32)).toUInt32.toUInt16.toUInt32.toInt32)), .unset, .unset]) rfl ?_
      show Steps p.tables e below (T137.setTop (mkF m 85 #[.val (.int p0), .val (.int p1), .val (.int (p1 &&& (15 : Int32))), .val (.ref b99), .val (.int ((p0 &&& (65535 : Int32)).toUInt32.toUInt16.toUInt32.toInt32)), .unset, .unset] [])) _
      refine XS.iload X137.here hx rfl (hb hby at_85) rfl ?_
      exact kt)
    obtain ⟨vr224, _, ⟨T224, L224, k224, n224⟩, -, X224, ⟨Lc224, hQ224, l224, y224, z224⟩, st224⟩ := Jvm.LawKit.callS X137 hx (y := (⟨"com/example/smazzata/smazzata/card/RankFromCodePinLaw", "expectedRank", "(C)Lcom/example/smazzata/smazzata/card/Rank;"⟩ : MethodName)) hown (mvT hZ (hw _ (List.mem_of_getElem? (i := 1) rfl))) (mvT hZ (hw _ (List.mem_of_getElem? (i := 2) rfl))) (mvT hZ (hw _ (List.mem_of_getElem? (i := 3) rfl))) (mvT hZ (hw _ (List.mem_of_getElem? (i := 4) rfl))) (by decide) (backOf (W := 0) (rm1 l Z a0 hw [] u ((p0 &&& (65535 : Int32)).toUInt32.toUInt16.toUInt32.toInt32) B h137 n0 O137 ) hZ (hw _ (List.mem_of_getElem? (i := 4) rfl)) (hw _ (List.mem_of_getElem? (i := 3) rfl)) (by decide) (by decide)) (g := (mkF m 87 #[.val (.int p0), .val (.int p1), .val (.int (p1 &&& (15 : Int32))), .val (.ref b99), .val (.int ((p0 &&& (65535 : Int32)).toUInt32.toUInt16.toUInt32.toInt32)), .unset, .unset] [(.int ((p0 &&& (65535 : Int32)).toUInt32.toUInt16.toUInt32.toInt32))])) rfl (by rw [hml]; rfl) (argsL := [(.int ((p0 &&& (65535 : Int32)).toUInt32.toUInt16.toUInt32.toInt32))]) (rest := []) (lenOf own_pd1 rfl) rfl (by show 2 * 0 + _ ≤ _; exact Nat.le_of_eq rfl) (hb hby at_87) (fun _ _ => ⟨rfl, e137, (by decide : 1 + 0 ≤ _), (by decide : 10 + 0 ≤ _)⟩)
    dsimp only [Pt.U, Pt.locs, Pt.cells, Pt.slots] at X224 l224 y224 z224 st224 hQ224
    subst l224 y224 z224
    obtain ⟨hv224, N224q, e224⟩ := hQ224
    have N224 := Fr.app Nf137 N224q
    by_cases hc225 : ((p0 &&& (65535 : Int32)).toUInt32.toUInt16.toUInt32.toInt32) = (65 : Int32)
    · --
      obtain rfl : vr224 = some (.ref (u 2)) := hv224.trans (by unfold own_r1; rw [if_pos hc225])
      have pre226 : ∀ t, Steps p.tables e below (T224.setTop (mkF m 94 #[.val (.int p0), .val (.int p1), .val (.int (p1 &&& (15 : Int32))), .val (.ref b99), .val (.int ((p0 &&& (65535 : Int32)).toUInt32.toUInt16.toUInt32.toInt32)), .val (.ref (u 2)), .unset] [(.int ((p0 &&& (65535 : Int32)).toUInt32.toUInt16.toUInt32.toInt32))])) t → Steps p.tables e below (s₁.setTop (entryFrame m #[(.int p0), (.int p1)] maxLocals)) t := fun t kt => pre223 t (by
        show Steps p.tables e below (T137.setTop (mkF m 87 #[.val (.int p0), .val (.int p1), .val (.int (p1 &&& (15 : Int32))), .val (.ref b99), .val (.int ((p0 &&& (65535 : Int32)).toUInt32.toUInt16.toUInt32.toInt32)), .unset, .unset] [(.int ((p0 &&& (65535 : Int32)).toUInt32.toUInt16.toUInt32.toInt32))])) _
        refine st224 _ ?_
        show Steps p.tables e below (T224.setTop (mkF m 90 #[.val (.int p0), .val (.int p1), .val (.int (p1 &&& (15 : Int32))), .val (.ref b99), .val (.int ((p0 &&& (65535 : Int32)).toUInt32.toUInt16.toUInt32.toInt32)), .unset, .unset] [(.ref (u 2))])) _
        refine XS.astore X224.here hx rfl (hb hby at_90) rfl rfl (l' := #[.val (.int p0), .val (.int p1), .val (.int (p1 &&& (15 : Int32))), .val (.ref b99), .val (.int ((p0 &&& (65535 : Int32)).toUInt32.toUInt16.toUInt32.toInt32)), .val (.ref (u 2)), .unset]) rfl ?_
        show Steps p.tables e below (T224.setTop (mkF m 92 #[.val (.int p0), .val (.int p1), .val (.int (p1 &&& (15 : Int32))), .val (.ref b99), .val (.int ((p0 &&& (65535 : Int32)).toUInt32.toUInt16.toUInt32.toInt32)), .val (.ref (u 2)), .unset] [])) _
        refine XS.iload X224.here hx rfl (hb hby at_92) rfl ?_
        exact kt)
      obtain ⟨vr227, _, ⟨T227, L227, k227, n227⟩, -, X227, ⟨Lc227, hQ227, l227, y227, z227⟩, st227⟩ := Jvm.LawKit.callS X224 hx (y := (⟨"com/example/smazzata/smazzata/card/Rank", "fromCode", "(C)Lcom/example/smazzata/smazzata/card/Rank;"⟩ : MethodName)) hown (mvT hZ (hw _ (List.mem_of_getElem? (i := 8) rfl))) (mvT hZ (hw _ (List.mem_of_getElem? (i := 9) rfl))) (mvT hZ (hw _ (List.mem_of_getElem? (i := 6) rfl))) (mvT hZ (hw _ (List.mem_of_getElem? (i := 10) rfl))) (by decide) (backOf (W := 0) (rm2 l Z a0 hw [] u ((p0 &&& (65535 : Int32)).toUInt32.toUInt16.toUInt32.toInt32) B h137 n0 O137 ) hZ (hw _ (List.mem_of_getElem? (i := 10) rfl)) (hw _ (List.mem_of_getElem? (i := 6) rfl)) (by decide) (by decide)) (g := (mkF m 94 #[.val (.int p0), .val (.int p1), .val (.int (p1 &&& (15 : Int32))), .val (.ref b99), .val (.int ((p0 &&& (65535 : Int32)).toUInt32.toUInt16.toUInt32.toInt32)), .val (.ref (u 2)), .unset] [(.int ((p0 &&& (65535 : Int32)).toUInt32.toUInt16.toUInt32.toInt32))])) rfl (by rw [hml]; rfl) (argsL := [(.int ((p0 &&& (65535 : Int32)).toUInt32.toUInt16.toUInt32.toInt32))]) (rest := []) (lenOf own_pd1 rfl) rfl (by show 2 * 0 + _ ≤ _; exact Nat.le_of_eq rfl) (hb hby at_94) (fun _ _ => ⟨rfl, e224, (by decide : 1 + 1 ≤ _), (by decide : 10 + 10 ≤ _)⟩)
      dsimp only [Pt.U, Pt.locs, Pt.cells, Pt.slots] at X227 l227 y227 z227 st227 hQ227
      subst l227 y227 z227
      obtain ⟨hv227, N227q, E227⟩ := hQ227
      have N227 := Fr.app N224 N227q
      have O227 := O137.ext E227
      have K227 := K137.ext E227
      have f228 := V137.ext E227
      obtain rfl : vr227 = some (.ref (u 2)) := hv227.trans (by unfold own_r2; rw [if_pos (Eq.symm hc225)])
      obtain ⟨fs, hr, hrun, hended, hW, hsame⟩ := X227.leave (v := some (.int (1 : Int32))) (fun h => by rw [Bd.returns] at h; cases h)
      refine ⟨_, _, pre226 _ ?_, hrun, hended, _, _, rfl, ?_, ⟨_, rfl⟩, hW, hsame.mono (by decide) (by decide)⟩
      · show Steps p.tables e below (T224.setTop (mkF m 94 #[.val (.int p0), .val (.int p1), .val (.int (p1 &&& (15 : Int32))), .val (.ref b99), .val (.int ((p0 &&& (65535 : Int32)).toUInt32.toUInt16.toUInt32.toInt32)), .val (.ref (u 2)), .unset] [(.int ((p0 &&& (65535 : Int32)).toUInt32.toUInt16.toUInt32.toInt32))])) _
        refine st227 _ ?_
        show Steps p.tables e below (T227.setTop (mkF m 97 #[.val (.int p0), .val (.int p1), .val (.int (p1 &&& (15 : Int32))), .val (.ref b99), .val (.int ((p0 &&& (65535 : Int32)).toUInt32.toUInt16.toUInt32.toInt32)), .val (.ref (u 2)), .unset] [(.ref (u 2))])) _
        refine XS.astore X227.here hx rfl (hb hby at_97) rfl rfl (l' := #[.val (.int p0), .val (.int p1), .val (.int (p1 &&& (15 : Int32))), .val (.ref b99), .val (.int ((p0 &&& (65535 : Int32)).toUInt32.toUInt16.toUInt32.toInt32)), .val (.ref (u 2)), .val (.ref (u 2))]) rfl ?_
        show Steps p.tables e below (T227.setTop (mkF m 99 #[.val (.int p0), .val (.int p1), .val (.int (p1 &&& (15 : Int32))), .val (.ref b99), .val (.int ((p0 &&& (65535 : Int32)).toUInt32.toUInt16.toUInt32.toInt32)), .val (.ref (u 2)), .val (.ref (u 2))] [])) _
        refine XS.aload X227.here hx rfl (hb hby at_99) rfl rfl ?_
        show Steps p.tables e below (T227.setTop (mkF m 101 #[.val (.int p0), .val (.int p1), .val (.int (p1 &&& (15 : Int32))), .val (.ref b99), .val (.int ((p0 &&& (65535 : Int32)).toUInt32.toUInt16.toUInt32.toInt32)), .val (.ref (u 2)), .val (.ref (u 2))] [(.ref (u 2))])) _
        refine XS.aload X227.here hx rfl (hb hby at_101) rfl rfl ?_
        show Steps p.tables e below (T227.setTop (mkF m 103 #[.val (.int p0), .val (.int p1), .val (.int (p1 &&& (15 : Int32))), .val (.ref b99), .val (.int ((p0 &&& (65535 : Int32)).toUInt32.toUInt16.toUInt32.toInt32)), .val (.ref (u 2)), .val (.ref (u 2))] [(.ref (u 2)), (.ref (u 2))])) _
        refine Jvm.RoadKit.acmp (g := (mkF m 103 #[.val (.int p0), .val (.int p1), .val (.int (p1 &&& (15 : Int32))), .val (.ref b99), .val (.int ((p0 &&& (65535 : Int32)).toUInt32.toUInt16.toUInt32.toInt32)), .val (.ref (u 2)), .val (.ref (u 2))] [(.ref (u 2)), (.ref (u 2))])) X227 hx rfl rfl rfl (pc0 := 103) (pc' := 106) (same := true) rfl (hb hby at_103) rfl (decide_eq_true rfl) (by decide) (by decide) ?_
        show Steps p.tables e below (T227.setTop (mkF m 106 #[.val (.int p0), .val (.int p1), .val (.int (p1 &&& (15 : Int32))), .val (.ref b99), .val (.int ((p0 &&& (65535 : Int32)).toUInt32.toUInt16.toUInt32.toInt32)), .val (.ref (u 2)), .val (.ref (u 2))] [])) _
        refine XS.iconst X227.here hx rfl (hb hby at_106) ?_
        show Steps p.tables e below (T227.setTop (mkF m 107 #[.val (.int p0), .val (.int p1), .val (.int (p1 &&& (15 : Int32))), .val (.ref b99), .val (.int ((p0 &&& (65535 : Int32)).toUInt32.toUInt16.toUInt32.toInt32)), .val (.ref (u 2)), .val (.ref (u 2))] [(.int (1 : Int32))])) _
        refine XS.goto X227.here hx rfl (pc0 := 107) (pc' := 111) rfl (hb hby at_107) (by decide) (by decide) ?_
        show Steps p.tables e below (T227.setTop (mkF m 111 #[.val (.int p0), .val (.int p1), .val (.int (p1 &&& (15 : Int32))), .val (.ref b99), .val (.int ((p0 &&& (65535 : Int32)).toUInt32.toUInt16.toUInt32.toInt32)), .val (.ref (u 2)), .val (.ref (u 2))] [(.int (1 : Int32))])) _
        exact retN X227 hx (t := .boolean) Bd.returns (by simp) (hb hby at_111) hr
      · show own_Q0 Z u p0 p1 h0 n0 _ T227.heap _
        exact ⟨rfl, N227, trivial⟩
    · --
      by_cases hc230 : ((p0 &&& (65535 : Int32)).toUInt32.toUInt16.toUInt32.toInt32) = (50 : Int32)
      · --
        obtain rfl : vr224 = some (.ref (u 3)) := hv224.trans (by unfold own_r1; rw [if_neg hc225, if_pos hc230])
        have pre231 : ∀ t, Steps p.tables e below (T224.setTop (mkF m 94 #[.val (.int p0), .val (.int p1), .val (.int (p1 &&& (15 : Int32))), .val (.ref b99), .val (.int ((p0 &&& (65535 : Int32)).toUInt32.toUInt16.toUInt32.toInt32)), .val (.ref (u 3)), .unset] [(.int ((p0 &&& (65535 : Int32)).toUInt32.toUInt16.toUInt32.toInt32))])) t → Steps p.tables e below (s₁.setTop (entryFrame m #[(.int p0), (.int p1)] maxLocals)) t := fun t kt => pre223 t (by
          show Steps p.tables e below (T137.setTop (mkF m 87 #[.val (.int p0), .val (.int p1), .val (.int (p1 &&& (15 : Int32))), .val (.ref b99), .val (.int ((p0 &&& (65535 : Int32)).toUInt32.toUInt16.toUInt32.toInt32)), .unset, .unset] [(.int ((p0 &&& (65535 : Int32)).toUInt32.toUInt16.toUInt32.toInt32))])) _
          refine st224 _ ?_
          show Steps p.tables e below (T224.setTop (mkF m 90 #[.val (.int p0), .val (.int p1), .val (.int (p1 &&& (15 : Int32))), .val (.ref b99), .val (.int ((p0 &&& (65535 : Int32)).toUInt32.toUInt16.toUInt32.toInt32)), .unset, .unset] [(.ref (u 3))])) _
          refine XS.astore X224.here hx rfl (hb hby at_90) rfl rfl (l' := #[.val (.int p0), .val (.int p1), .val (.int (p1 &&& (15 : Int32))), .val (.ref b99), .val (.int ((p0 &&& (65535 : Int32)).toUInt32.toUInt16.toUInt32.toInt32)), .val (.ref (u 3)), .unset]) rfl ?_
          show Steps p.tables e below (T224.setTop (mkF m 92 #[.val (.int p0), .val (.int p1), .val (.int (p1 &&& (15 : Int32))), .val (.ref b99), .val (.int ((p0 &&& (65535 : Int32)).toUInt32.toUInt16.toUInt32.toInt32)), .val (.ref (u 3)), .unset] [])) _
          refine XS.iload X224.here hx rfl (hb hby at_92) rfl ?_
          exact kt)
        obtain ⟨vr232, _, ⟨T232, L232, k232, n232⟩, -, X232, ⟨Lc232, hQ232, l232, y232, z232⟩, st232⟩ := Jvm.LawKit.callS X224 hx (y := (⟨"com/example/smazzata/smazzata/card/Rank", "fromCode", "(C)Lcom/example/smazzata/smazzata/card/Rank;"⟩ : MethodName)) hown (mvT hZ (hw _ (List.mem_of_getElem? (i := 8) rfl))) (mvT hZ (hw _ (List.mem_of_getElem? (i := 9) rfl))) (mvT hZ (hw _ (List.mem_of_getElem? (i := 6) rfl))) (mvT hZ (hw _ (List.mem_of_getElem? (i := 10) rfl))) (by decide) (backOf (W := 0) (rm2 l Z a0 hw [] u ((p0 &&& (65535 : Int32)).toUInt32.toUInt16.toUInt32.toInt32) B h137 n0 O137 ) hZ (hw _ (List.mem_of_getElem? (i := 10) rfl)) (hw _ (List.mem_of_getElem? (i := 6) rfl)) (by decide) (by decide)) (g := (mkF m 94 #[.val (.int p0), .val (.int p1), .val (.int (p1 &&& (15 : Int32))), .val (.ref b99), .val (.int ((p0 &&& (65535 : Int32)).toUInt32.toUInt16.toUInt32.toInt32)), .val (.ref (u 3)), .unset] [(.int ((p0 &&& (65535 : Int32)).toUInt32.toUInt16.toUInt32.toInt32))])) rfl (by rw [hml]; rfl) (argsL := [(.int ((p0 &&& (65535 : Int32)).toUInt32.toUInt16.toUInt32.toInt32))]) (rest := []) (lenOf own_pd1 rfl) rfl (by show 2 * 0 + _ ≤ _; exact Nat.le_of_eq rfl) (hb hby at_94) (fun _ _ => ⟨rfl, e224, (by decide : 1 + 1 ≤ _), (by decide : 10 + 10 ≤ _)⟩)
        dsimp only [Pt.U, Pt.locs, Pt.cells, Pt.slots] at X232 l232 y232 z232 st232 hQ232
        subst l232 y232 z232
        obtain ⟨hv232, N232q, E232⟩ := hQ232
        have N232 := Fr.app N224 N232q
        have O232 := O137.ext E232
        have K232 := K137.ext E232
        have f233 := V137.ext E232
        obtain rfl : vr232 = some (.ref (u 3)) := hv232.trans (by unfold own_r2; rw [if_neg (fun q => hc225 (Eq.symm q)), if_pos (Eq.symm hc230)])
        obtain ⟨fs, hr, hrun, hended, hW, hsame⟩ := X232.leave (v := some (.int (1 : Int32))) (fun h => by rw [Bd.returns] at h; cases h)
        refine ⟨_, _, pre231 _ ?_, hrun, hended, _, _, rfl, ?_, ⟨_, rfl⟩, hW, hsame.mono (by decide) (by decide)⟩
        · show Steps p.tables e below (T224.setTop (mkF m 94 #[.val (.int p0), .val (.int p1), .val (.int (p1 &&& (15 : Int32))), .val (.ref b99), .val (.int ((p0 &&& (65535 : Int32)).toUInt32.toUInt16.toUInt32.toInt32)), .val (.ref (u 3)), .unset] [(.int ((p0 &&& (65535 : Int32)).toUInt32.toUInt16.toUInt32.toInt32))])) _
          refine st232 _ ?_
          show Steps p.tables e below (T232.setTop (mkF m 97 #[.val (.int p0), .val (.int p1), .val (.int (p1 &&& (15 : Int32))), .val (.ref b99), .val (.int ((p0 &&& (65535 : Int32)).toUInt32.toUInt16.toUInt32.toInt32)), .val (.ref (u 3)), .unset] [(.ref (u 3))])) _
          refine XS.astore X232.here hx rfl (hb hby at_97) rfl rfl (l' := #[.val (.int p0), .val (.int p1), .val (.int (p1 &&& (15 : Int32))), .val (.ref b99), .val (.int ((p0 &&& (65535 : Int32)).toUInt32.toUInt16.toUInt32.toInt32)), .val (.ref (u 3)), .val (.ref (u 3))]) rfl ?_
          show Steps p.tables e below (T232.setTop (mkF m 99 #[.val (.int p0), .val (.int p1), .val (.int (p1 &&& (15 : Int32))), .val (.ref b99), .val (.int ((p0 &&& (65535 : Int32)).toUInt32.toUInt16.toUInt32.toInt32)), .val (.ref (u 3)), .val (.ref (u 3))] [])) _
          refine XS.aload X232.here hx rfl (hb hby at_99) rfl rfl ?_
          show Steps p.tables e below (T232.setTop (mkF m 101 #[.val (.int p0), .val (.int p1), .val (.int (p1 &&& (15 : Int32))), .val (.ref b99), .val (.int ((p0 &&& (65535 : Int32)).toUInt32.toUInt16.toUInt32.toInt32)), .val (.ref (u 3)), .val (.ref (u 3))] [(.ref (u 3))])) _
          refine XS.aload X232.here hx rfl (hb hby at_101) rfl rfl ?_
          show Steps p.tables e below (T232.setTop (mkF m 103 #[.val (.int p0), .val (.int p1), .val (.int (p1 &&& (15 : Int32))), .val (.ref b99), .val (.int ((p0 &&& (65535 : Int32)).toUInt32.toUInt16.toUInt32.toInt32)), .val (.ref (u 3)), .val (.ref (u 3))] [(.ref (u 3)), (.ref (u 3))])) _
          refine Jvm.RoadKit.acmp (g := (mkF m 103 #[.val (.int p0), .val (.int p1), .val (.int (p1 &&& (15 : Int32))), .val (.ref b99), .val (.int ((p0 &&& (65535 : Int32)).toUInt32.toUInt16.toUInt32.toInt32)), .val (.ref (u 3)), .val (.ref (u 3))] [(.ref (u 3)), (.ref (u 3))])) X232 hx rfl rfl rfl (pc0 := 103) (pc' := 106) (same := true) rfl (hb hby at_103) rfl (decide_eq_true rfl) (by decide) (by decide) ?_
          show Steps p.tables e below (T232.setTop (mkF m 106 #[.val (.int p0), .val (.int p1), .val (.int (p1 &&& (15 : Int32))), .val (.ref b99), .val (.int ((p0 &&& (65535 : Int32)).toUInt32.toUInt16.toUInt32.toInt32)), .val (.ref (u 3)), .val (.ref (u 3))] [])) _
          refine XS.iconst X232.here hx rfl (hb hby at_106) ?_
          show Steps p.tables e below (T232.setTop (mkF m 107 #[.val (.int p0), .val (.int p1), .val (.int (p1 &&& (15 : Int32))), .val (.ref b99), .val (.int ((p0 &&& (65535 : Int32)).toUInt32.toUInt16.toUInt32.toInt32)), .val (.ref (u 3)), .val (.ref (u 3))] [(.int (1 : Int32))])) _
          refine XS.goto X232.here hx rfl (pc0 := 107) (pc' := 111) rfl (hb hby at_107) (by decide) (by decide) ?_
          show Steps p.tables e below (T232.setTop (mkF m 111 #[.val (.int p0), .val (.int p1), .val (.int (p1 &&& (15 : Int32))), .val (.ref b99), .val (.int ((p0 &&& (65535 : Int32)).toUInt32.toUInt16.toUInt32.toInt32)), .val (.ref (u 3)), .val (.ref (u 3))] [(.int (1 : Int32))])) _
          exact retN X232 hx (t := .boolean) Bd.returns (by simp) (hb hby at_111) hr
        · show own_Q0 Z u p0 p1 h0 n0 _ T232.heap _
          exact ⟨rfl, N232, trivial⟩
      · --
        by_cases hc235 : ((p0 &&& (65535 : Int32)).toUInt32.toUInt16.toUInt32.toInt32) = (51 : Int32)
        · --
          obtain rfl : vr224 = some (.ref (u 4)) := hv224.trans (by unfold own_r1; rw [if_neg hc225, if_neg hc230, if_pos hc235])
          have pre236 : ∀ t, Steps p.tables e below (T224.setTop (mkF m 94 #[.val (.int p0), .val (.int p1), .val (.int (p1 &&& (15 : Int32))), .val (.ref b99), .val (.int ((p0 &&& (65535 : Int32)).toUInt32.toUInt16.toUInt32.toInt32)), .val (.ref (u 4)), .unset] [(.int ((p0 &&& (65535 : Int32)).toUInt32.toUInt16.toUInt32.toInt32))])) t → Steps p.tables e below (s₁.setTop (entryFrame m #[(.int p0), (.int p1)] maxLocals)) t := fun t kt => pre223 t (by
            show Steps p.tables e below (T137.setTop (mkF m 87 #[.val (.int p0), .val (.int p1), .val (.int (p1 &&& (15 : Int32))), .val (.ref b99), .val (.int ((p0 &&& (65535 : Int32)).toUInt32.toUInt16.toUInt32.toInt32)), .unset, .unset] [(.int ((p0 &&& (65535 : Int32)).toUInt32.toUInt16.toUInt32.toInt32))])) _
            refine st224 _ ?_
            show Steps p.tables e below (T224.setTop (mkF m 90 #[.val (.int p0), .val (.int p1), .val (.int (p1 &&& (15 : Int32))), .val (.ref b99), .val (.int ((p0 &&& (65535 : Int32)).toUInt32.toUInt16.toUInt32.toInt32)), .unset, .unset] [(.ref (u 4))])) _
            refine XS.astore X224.here hx rfl (hb hby at_90) rfl rfl (l' := #[.val (.int p0), .val (.int p1), .val (.int (p1 &&& (15 : Int32))), .val (.ref b99), .val (.int ((p0 &&& (65535 : Int32)).toUInt32.toUInt16.toUInt32.toInt32)), .val (.ref (u 4)), .unset]) rfl ?_
            show Steps p.tables e below (T224.setTop (mkF m 92 #[.val (.int p0), .val (.int p1), .val (.int (p1 &&& (15 : Int32))), .val (.ref b99), .val (.int ((p0 &&& (65535 : Int32)).toUInt32.toUInt16.toUInt32.toInt32)), .val (.ref (u 4)), .unset] [])) _
            refine XS.iload X224.here hx rfl (hb hby at_92) rfl ?_
            exact kt)
          obtain ⟨vr237, _, ⟨T237, L237, k237, n237⟩, -, X237, ⟨Lc237, hQ237, l237, y237, z237⟩, st237⟩ := Jvm.LawKit.callS X224 hx (y := (⟨"com/example/smazzata/smazzata/card/Rank", "fromCode", "(C)Lcom/example/smazzata/smazzata/card/Rank;"⟩ : MethodName)) hown (mvT hZ (hw _ (List.mem_of_getElem? (i := 8) rfl))) (mvT hZ (hw _ (List.mem_of_getElem? (i := 9) rfl))) (mvT hZ (hw _ (List.mem_of_getElem? (i := 6) rfl))) (mvT hZ (hw _ (List.mem_of_getElem? (i := 10) rfl))) (by decide) (backOf (W := 0) (rm2 l Z a0 hw [] u ((p0 &&& (65535 : Int32)).toUInt32.toUInt16.toUInt32.toInt32) B h137 n0 O137 ) hZ (hw _ (List.mem_of_getElem? (i := 10) rfl)) (hw _ (List.mem_of_getElem? (i := 6) rfl)) (by decide) (by decide)) (g := (mkF m 94 #[.val (.int p0), .val (.int p1), .val (.int (p1 &&& (15 : Int32))), .val (.ref b99), .val (.int ((p0 &&& (65535 : Int32)).toUInt32.toUInt16.toUInt32.toInt32)), .val (.ref (u 4)), .unset] [(.int ((p0 &&& (65535 : Int32)).toUInt32.toUInt16.toUInt32.toInt32))])) rfl (by rw [hml]; rfl) (argsL := [(.int ((p0 &&& (65535 : Int32)).toUInt32.toUInt16.toUInt32.toInt32))]) (rest := []) (lenOf own_pd1 rfl) rfl (by show 2 * 0 + _ ≤ _; exact Nat.le_of_eq rfl) (hb hby at_94) (fun _ _ => ⟨rfl, e224, (by decide : 1 + 1 ≤ _), (by decide : 10 + 10 ≤ _)⟩)
          dsimp only [Pt.U, Pt.locs, Pt.cells, Pt.slots] at X237 l237 y237 z237 st237 hQ237
          subst l237 y237 z237
          obtain ⟨hv237, N237q, E237⟩ := hQ237
          have N237 := Fr.app N224 N237q
          have O237 := O137.ext E237
          have K237 := K137.ext E237
          have f238 := V137.ext E237
          obtain rfl : vr237 = some (.ref (u 4)) := hv237.trans (by unfold own_r2; rw [if_neg (fun q => hc225 (Eq.symm q)), if_neg (fun q => hc230 (Eq.symm q)), if_pos (Eq.symm hc235)])
          obtain ⟨fs, hr, hrun, hended, hW, hsame⟩ := X237.leave (v := some (.int (1 : Int32))) (fun h => by rw [Bd.returns] at h; cases h)
          refine ⟨_, _, pre236 _ ?_, hrun, hended, _, _, rfl, ?_, ⟨_, rfl⟩, hW, hsame.mono (by decide) (by decide)⟩
          · show Steps p.tables e below (T224.setTop (mkF m 94 #[.val (.int p0), .val (.int p1), .val (.int (p1 &&& (15 : Int32))), .val (.ref b99), .val (.int ((p0 &&& (65535 : Int32)).toUInt32.toUInt16.toUInt32.toInt32)), .val (.ref (u 4)), .unset] [(.int ((p0 &&& (65535 : Int32)).toUInt32.toUInt16.toUInt32.toInt32))])) _
            refine st237 _ ?_
            show Steps p.tables e below (T237.setTop (mkF m 97 #[.val (.int p0), .val (.int p1), .val (.int (p1 &&& (15 : Int32))), .val (.ref b99), .val (.int ((p0 &&& (65535 : Int32)).toUInt32.toUInt16.toUInt32.toInt32)), .val (.ref (u 4)), .unset] [(.ref (u 4))])) _
            refine XS.astore X237.here hx rfl (hb hby at_97) rfl rfl (l' := #[.val (.int p0), .val (.int p1), .val (.int (p1 &&& (15 : Int32))), .val (.ref b99), .val (.int ((p0 &&& (65535 : Int32)).toUInt32.toUInt16.toUInt32.toInt32)), .val (.ref (u 4)), .val (.ref (u 4))]) rfl ?_
            show Steps p.tables e below (T237.setTop (mkF m 99 #[.val (.int p0), .val (.int p1), .val (.int (p1 &&& (15 : Int32))), .val (.ref b99), .val (.int ((p0 &&& (65535 : Int32)).toUInt32.toUInt16.toUInt32.toInt32)), .val (.ref (u 4)), .val (.ref (u 4))] [])) _
            refine XS.aload X237.here hx rfl (hb hby at_99) rfl rfl ?_
            show Steps p.tables e below (T237.setTop (mkF m 101 #[.val (.int p0), .val (.int p1), .val (.int (p1 &&& (15 : Int32))), .val (.ref b99), .val (.int ((p0 &&& (65535 : Int32)).toUInt32.toUInt16.toUInt32.toInt32)), .val (.ref (u 4)), .val (.ref (u 4))] [(.ref (u 4))])) _
            refine XS.aload X237.here hx rfl (hb hby at_101) rfl rfl ?_
            show Steps p.tables e below (T237.setTop (mkF m 103 #[.val (.int p0), .val (.int p1), .val (.int (p1 &&& (15 : Int32))), .val (.ref b99), .val (.int ((p0 &&& (65535 : Int32)).toUInt32.toUInt16.toUInt32.toInt32)), .val (.ref (u 4)), .val (.ref (u 4))] [(.ref (u 4)), (.ref (u 4))])) _
            refine Jvm.RoadKit.acmp (g := (mkF m 103 #[.val (.int p0), .val (.int p1), .val (.int (p1 &&& (15 : Int32))), .val (.ref b99), .val (.int ((p0 &&& (65535 : Int32)).toUInt32.toUInt16.toUInt32.toInt32)), .val (.ref (u 4)), .val (.ref (u 4))] [(.ref (u 4)), (.ref (u 4))])) X237 hx rfl rfl rfl (pc0 := 103) (pc' := 106) (same := true) rfl (hb hby at_103) rfl (decide_eq_true rfl) (by decide) (by decide) ?_
            show Steps p.tables e below (T237.setTop (mkF m 106 #[.val (.int p0), .val (.int p1), .val (.int (p1 &&& (15 : Int32))), .val (.ref b99), .val (.int ((p0 &&& (65535 : Int32)).toUInt32.toUInt16.toUInt32.toInt32)), .val (.ref (u 4)), .val (.ref (u 4))] [])) _
            refine XS.iconst X237.here hx rfl (hb hby at_106) ?_
            show Steps p.tables e below (T237.setTop (mkF m 107 #[.val (.int p0), .val (.int p1), .val (.int (p1 &&& (15 : Int32))), .val (.ref b99), .val (.int ((p0 &&& (65535 : Int32)).toUInt32.toUInt16.toUInt32.toInt32)), .val (.ref (u 4)), .val (.ref (u 4))] [(.int (1 : Int32))])) _
            refine XS.goto X237.here hx rfl (pc0 := 107) (pc' := 111) rfl (hb hby at_107) (by decide) (by decide) ?_
            show Steps p.tables e below (T237.setTop (mkF m 111 #[.val (.int p0), .val (.int p1), .val (.int (p1 &&& (15 : Int32))), .val (.ref b99), .val (.int ((p0 &&& (65535 : Int32)).toUInt32.toUInt16.toUInt32.toInt32)), .val (.ref (u 4)), .val (.ref (u 4))] [(.int (1 : Int32))])) _
            exact retN X237 hx (t := .boolean) Bd.returns (by simp) (hb hby at_111) hr
          · show own_Q0 Z u p0 p1 h0 n0 _ T237.heap _
            exact ⟨rfl, N237, trivial⟩
        · --
          by_cases hc240 : ((p0 &&& (65535 : Int32)).toUInt32.toUInt16.toUInt32.toInt32) = (52 : Int32)
          · --
            obtain rfl : vr224 = some (.ref (u 0)) := hv224.trans (by unfold own_r1; rw [if_neg hc225, if_neg hc230, if_neg hc235, if_pos hc240])
            have pre241 : ∀ t, Steps p.tables e below (T224.setTop (mkF m 94 #[.val (.int p0), .val (.int p1), .val (.int (p1 &&& (15 : Int32))), .val (.ref b99), .val (.int ((p0 &&& (65535 : Int32)).toUInt32.toUInt16.toUInt32.toInt32)), .val (.ref (u 0)), .unset] [(.int ((p0 &&& (65535 : Int32)).toUInt32.toUInt16.toUInt32.toInt32))])) t → Steps p.tables e below (s₁.setTop (entryFrame m #[(.int p0), (.int p1)] maxLocals)) t := fun t kt => pre223 t (by
              show Steps p.tables e below (T137.setTop (mkF m 87 #[.val (.int p0), .val (.int p1), .val (.int (p1 &&& (15 : Int32))), .val (.ref b99), .val (.int ((p0 &&& (65535 : Int32)).toUInt32.toUInt16.toUInt32.toInt32)), .unset, .unset] [(.int ((p0 &&& (65535 : Int32)).toUInt32.toUInt16.toUInt32.toInt32))])) _
              refine st224 _ ?_
              show Steps p.tables e below (T224.setTop (mkF m 90 #[.val (.int p0), .val (.int p1), .val (.int (p1 &&& (15 : Int32))), .val (.ref b99), .val (.int ((p0 &&& (65535 : Int32)).toUInt32.toUInt16.toUInt32.toInt32)), .unset, .unset] [(.ref (u 0))])) _
              refine XS.astore X224.here hx rfl (hb hby at_90) rfl rfl (l' := #[.val (.int p0), .val (.int p1), .val (.int (p1 &&& (15 : Int32))), .val (.ref b99), .val (.int ((p0 &&& (65535 : Int32)).toUInt32.toUInt16.toUInt32.toInt32)), .val (.ref (u 0)), .unset]) rfl ?_
              show Steps p.tables e below (T224.setTop (mkF m 92 #[.val (.int p0), .val (.int p1), .val (.int (p1 &&& (15 : Int32))), .val (.ref b99), .val (.int ((p0 &&& (65535 : Int32)).toUInt32.toUInt16.toUInt32.toInt32)), .val (.ref (u 0)), .unset] [])) _
              refine XS.iload X224.here hx rfl (hb hby at_92) rfl ?_
              exact kt)
            obtain ⟨vr242, _, ⟨T242, L242, k242, n242⟩, -, X242, ⟨Lc242, hQ242, l242, y242, z242⟩, st242⟩ := Jvm.LawKit.callS X224 hx (y := (⟨"com/example/smazzata/smazzata/card/Rank", "fromCode", "(C)Lcom/example/smazzata/smazzata/card/Rank;"⟩ : MethodName)) hown (mvT hZ (hw _ (List.mem_of_getElem? (i := 8) rfl))) (mvT hZ (hw _ (List.mem_of_getElem? (i := 9) rfl))) (mvT hZ (hw _ (List.mem_of_getElem? (i := 6) rfl))) (mvT hZ (hw _ (List.mem_of_getElem? (i := 10) rfl))) (by decide) (backOf (W := 0) (rm2 l Z a0 hw [] u ((p0 &&& (65535 : Int32)).toUInt32.toUInt16.toUInt32.toInt32) B h137 n0 O137 ) hZ (hw _ (List.mem_of_getElem? (i := 10) rfl)) (hw _ (List.mem_of_getElem? (i := 6) rfl)) (by decide) (by decide)) (g := (mkF m 94 #[.val (.int p0), .val (.int p1), .val (.int (p1 &&& (15 : Int32))), .val (.ref b99), .val (.int ((p0 &&& (65535 : Int32)).toUInt32.toUInt16.toUInt32.toInt32)), .val (.ref (u 0)), .unset] [(.int ((p0 &&& (65535 : Int32)).toUInt32.toUInt16.toUInt32.toInt32))])) rfl (by rw [hml]; rfl) (argsL := [(.int ((p0 &&& (65535 : Int32)).toUInt32.toUInt16.toUInt32.toInt32))]) (rest := []) (lenOf own_pd1 rfl) rfl (by show 2 * 0 + _ ≤ _; exact Nat.le_of_eq rfl) (hb hby at_94) (fun _ _ => ⟨rfl, e224, (by decide : 1 + 1 ≤ _), (by decide : 10 + 10 ≤ _)⟩)
            dsimp only [Pt.U, Pt.locs, Pt.cells, Pt.slots] at X242 l242 y242 z242 st242 hQ242
            subst l242 y242 z242
            obtain ⟨hv242, N242q, E242⟩ := hQ242
            have N242 := Fr.app N224 N242q
            have O242 := O137.ext E242
            have K242 := K137.ext E242
            have f243 := V137.ext E242
            obtain rfl : vr242 = some (.ref (u 0)) := hv242.trans (by unfold own_r2; rw [if_neg (fun q => hc225 (Eq.symm q)), if_neg (fun q => hc230 (Eq.symm q)), if_neg (fun q => hc235 (Eq.symm q)), if_pos (Eq.symm hc240)])
            obtain ⟨fs, hr, hrun, hended, hW, hsame⟩ := X242.leave (v := some (.int (1 : Int32))) (fun h => by rw [Bd.returns] at h; cases h)
            refine ⟨_, _, pre241 _ ?_, hrun, hended, _, _, rfl, ?_, ⟨_, rfl⟩, hW, hsame.mono (by decide) (by decide)⟩
            · show Steps p.tables e below (T224.setTop (mkF m 94 #[.val (.int p0), .val (.int p1), .val (.int (p1 &&& (15 : Int32))), .val (.ref b99), .val (.int ((p0 &&& (65535 : Int32)).toUInt32.toUInt16.toUInt32.toInt32)), .val (.ref (u 0)), .unset] [(.int ((p0 &&& (65535 : Int32)).toUInt32.toUInt16.toUInt32.toInt32))])) _
              refine st242 _ ?_
              show Steps p.tables e below (T242.setTop (mkF m 97 #[.val (.int p0), .val (.int p1), .val (.int (p1 &&& (15 : Int32))), .val (.ref b99), .val (.int ((p0 &&& (65535 : Int32)).toUInt32.toUInt16.toUInt32.toInt32)), .val (.ref (u 0)), .unset] [(.ref (u 0))])) _
              refine XS.astore X242.here hx rfl (hb hby at_97) rfl rfl (l' := #[.val (.int p0), .val (.int p1), .val (.int (p1 &&& (15 : Int32))), .val (.ref b99), .val (.int ((p0 &&& (65535 : Int32)).toUInt32.toUInt16.toUInt32.toInt32)), .val (.ref (u 0)), .val (.ref (u 0))]) rfl ?_
              show Steps p.tables e below (T242.setTop (mkF m 99 #[.val (.int p0), .val (.int p1), .val (.int (p1 &&& (15 : Int32))), .val (.ref b99), .val (.int ((p0 &&& (65535 : Int32)).toUInt32.toUInt16.toUInt32.toInt32)), .val (.ref (u 0)), .val (.ref (u 0))] [])) _
              refine XS.aload X242.here hx rfl (hb hby at_99) rfl rfl ?_
              show Steps p.tables e below (T242.setTop (mkF m 101 #[.val (.int p0), .val (.int p1), .val (.int (p1 &&& (15 : Int32))), .val (.ref b99), .val (.int ((p0 &&& (65535 : Int32)).toUInt32.toUInt16.toUInt32.toInt32)), .val (.ref (u 0)), .val (.ref (u 0))] [(.ref (u 0))])) _
              refine XS.aload X242.here hx rfl (hb hby at_101) rfl rfl ?_
              show Steps p.tables e below (T242.setTop (mkF m 103 #[.val (.int p0), .val (.int p1), .val (.int (p1 &&& (15 : Int32))), .val (.ref b99), .val (.int ((p0 &&& (65535 : Int32)).toUInt32.toUInt16.toUInt32.toInt32)), .val (.ref (u 0)), .val (.ref (u 0))] [(.ref (u 0)), (.ref (u 0))])) _
              refine Jvm.RoadKit.acmp (g := (mkF m 103 #[.val (.int p0), .val (.int p1), .val (.int (p1 &&& (15 : Int32))), .val (.ref b99), .val (.int ((p0 &&& (65535 : Int32)).toUInt32.toUInt16.toUInt32.toInt32)), .val (.ref (u 0)), .val (.ref (u 0))] [(.ref (u 0)), (.ref (u 0))])) X242 hx rfl rfl rfl (pc0 := 103) (pc' := 106) (same := true) rfl (hb hby at_103) rfl (decide_eq_true rfl) (by decide) (by decide) ?_
              show Steps p.tables e below (T242.setTop (mkF m 106 #[.val (.int p0), .val (.int p1), .val (.int (p1 &&& (15 : Int32))), .val (.ref b99), .val (.int ((p0 &&& (65535 : Int32)).toUInt32.toUInt16.toUInt32.toInt32)), .val (.ref (u 0)), .val (.ref (u 0))] [])) _
              refine XS.iconst X242.here hx rfl (hb hby at_106) ?_
              show Steps p.tables e below (T242.setTop (mkF m 107 #[.val (.int p0), .val (.int p1), .val (.int (p1 &&& (15 : Int32))), .val (.ref b99), .val (.int ((p0 &&& (65535 : Int32)).toUInt32.toUInt16.toUInt32.toInt32)), .val (.ref (u 0)), .val (.ref (u 0))] [(.int (1 : Int32))])) _
              refine XS.goto X242.here hx rfl (pc0 := 107) (pc' := 111) rfl (hb hby at_107) (by decide) (by decide) ?_
              show Steps p.tables e below (T242.setTop (mkF m 111 #[.val (.int p0), .val (.int p1), .val (.int (p1 &&& (15 : Int32))), .val (.ref b99), .val (.int ((p0 &&& (65535 : Int32)).toUInt32.toUInt16.toUInt32.toInt32)), .val (.ref (u 0)), .val (.ref (u 0))] [(.int (1 : Int32))])) _
              exact retN X242 hx (t := .boolean) Bd.returns (by simp) (hb hby at_111) hr
            · show own_Q0 Z u p0 p1 h0 n0 _ T242.heap _
              exact ⟨rfl, N242, trivial⟩
          · --
            by_cases hc245 : ((p0 &&& (65535 : Int32)).toUInt32.toUInt16.toUInt32.toInt32) = (53 : Int32)
            · --
              obtain rfl : vr224 = some (.ref (u 5)) := hv224.trans (by unfold own_r1; rw [if_neg hc225, if_neg hc230, if_neg hc235, if_neg hc240, if_pos hc245])
              have pre246 : ∀ t, Steps p.tables e below (T224.setTop (mkF m 94 #[.val (.int p0), .val (.int p1), .val (.int (p1 &&& (15 : Int32))), .val (.ref b99), .val (.int ((p0 &&& (65535 : Int32)).toUInt32.toUInt16.toUInt32.toInt32)), .val (.ref (u 5)), .unset] [(.int ((p0 &&& (65535 : Int32)).toUInt32.toUInt16.toUInt32.toInt32))])) t → Steps p.tables e below (s₁.setTop (entryFrame m #[(.int p0), (.int p1)] maxLocals)) t := fun t kt => pre223 t (by
                show Steps p.tables e below (T137.setTop (mkF m 87 #[.val (.int p0), .val (.int p1), .val (.int (p1 &&& (15 : Int32))), .val (.ref b99), .val (.int ((p0 &&& (65535 : Int32)).toUInt32.toUInt16.toUInt32.toInt32)), .unset, .unset] [(.int ((p0 &&& (65535 : Int32)).toUInt32.toUInt16.toUInt32.toInt32))])) _
                refine st224 _ ?_
                show Steps p.tables e below (T224.setTop (mkF m 90 #[.val (.int p0), .val (.int p1), .val (.int (p1 &&& (15 : Int32))), .val (.ref b99), .val (.int ((p0 &&& (65535 : Int32)).toUInt32.toUInt16.toUInt32.toInt32)), .unset, .unset] [(.ref (u 5))])) _
                refine XS.astore X224.here hx rfl (hb hby at_90) rfl rfl (l' := #[.val (.int p0), .val (.int p1), .val (.int (p1 &&& (15 : Int32))), .val (.ref b99), .val (.int ((p0 &&& (65535 : Int32)).toUInt32.toUInt16.toUInt32.toInt32)), .val (.ref (u 5)), .unset]) rfl ?_
                show Steps p.tables e below (T224.setTop (mkF m 92 #[.val (.int p0), .val (.int p1), .val (.int (p1 &&& (15 : Int32))), .val (.ref b99), .val (.int ((p0 &&& (65535 : Int32)).toUInt32.toUInt16.toUInt32.toInt32)), .val (.ref (u 5)), .unset] [])) _
                refine XS.iload X224.here hx rfl (hb hby at_92) rfl ?_
                exact kt)
              obtain ⟨vr247, _, ⟨T247, L247, k247, n247⟩, -, X247, ⟨Lc247, hQ247, l247, y247, z247⟩, st247⟩ := Jvm.LawKit.callS X224 hx (y := (⟨"com/example/smazzata/smazzata/card/Rank", "fromCode", "(C)Lcom/example/smazzata/smazzata/card/Rank;"⟩ : MethodName)) hown (mvT hZ (hw _ (List.mem_of_getElem? (i := 8) rfl))) (mvT hZ (hw _ (List.mem_of_getElem? (i := 9) rfl))) (mvT hZ (hw _ (List.mem_of_getElem? (i := 6) rfl))) (mvT hZ (hw _ (List.mem_of_getElem? (i := 10) rfl))) (by decide) (backOf (W := 0) (rm2 l Z a0 hw [] u ((p0 &&& (65535 : Int32)).toUInt32.toUInt16.toUInt32.toInt32) B h137 n0 O137 ) hZ (hw _ (List.mem_of_getElem? (i := 10) rfl)) (hw _ (List.mem_of_getElem? (i := 6) rfl)) (by decide) (by decide)) (g := (mkF m 94 #[.val (.int p0), .val (.int p1), .val (.int (p1 &&& (15 : Int32))), .val (.ref b99), .val (.int ((p0 &&& (65535 : Int32)).toUInt32.toUInt16.toUInt32.toInt32)), .val (.ref (u 5)), .unset] [(.int ((p0 &&& (65535 : Int32)).toUInt32.toUInt16.toUInt32.toInt32))])) rfl (by rw [hml]; rfl) (argsL := [(.int ((p0 &&& (65535 : Int32)).toUInt32.toUInt16.toUInt32.toInt32))]) (rest := []) (lenOf own_pd1 rfl) rfl (by show 2 * 0 + _ ≤ _; exact Nat.le_of_eq rfl) (hb hby at_94) (fun _ _ => ⟨rfl, e224, (by decide : 1 + 1 ≤ _), (by decide : 10 + 10 ≤ _)⟩)
              dsimp only [Pt.U, Pt.locs, Pt.cells, Pt.slots] at X247 l247 y247 z247 st247 hQ247
              subst l247 y247 z247
              obtain ⟨hv247, N247q, E247⟩ := hQ247
              have N247 := Fr.app N224 N247q
              have O247 := O137.ext E247
              have K247 := K137.ext E247
              have f248 := V137.ext E247
              obtain rfl : vr247 = some (.ref (u 5)) := hv247.trans (by unfold own_r2; rw [if_neg (fun q => hc225 (Eq.symm q)), if_neg (fun q => hc230 (Eq.symm q)), if_neg (fun q => hc235 (Eq.symm q)), if_neg (fun q => hc240 (Eq.symm q)), if_pos (Eq.symm hc245)])
              obtain ⟨fs, hr, hrun, hended, hW, hsame⟩ := X247.leave (v := some (.int (1 : Int32))) (fun h => by rw [Bd.returns] at h; cases h)
              refine ⟨_, _, pre246 _ ?_, hrun, hended, _, _, rfl, ?_, ⟨_, rfl⟩, hW, hsame.mono (by decide) (by decide)⟩
              · show Steps p.tables e below (T224.setTop (mkF m 94 #[.val (.int p0), .val (.int p1), .val (.int (p1 &&& (15 : Int32))), .val (.ref b99), .val (.int ((p0 &&& (65535 : Int32)).toUInt32.toUInt16.toUInt32.toInt32)), .val (.ref (u 5)), .unset] [(.int ((p0 &&& (65535 : Int32)).toUInt32.toUInt16.toUInt32.toInt32))])) _
                refine st247 _ ?_
                show Steps p.tables e below (T247.setTop (mkF m 97 #[.val (.int p0), .val (.int p1), .val (.int (p1 &&& (15 : Int32))), .val (.ref b99), .val (.int ((p0 &&& (65535 : Int32)).toUInt32.toUInt16.toUInt32.toInt32)), .val (.ref (u 5)), .unset] [(.ref (u 5))])) _
                refine XS.astore X247.here hx rfl (hb hby at_97) rfl rfl (l' := #[.val (.int p0), .val (.int p1), .val (.int (p1 &&& (15 : Int32))), .val (.ref b99), .val (.int ((p0 &&& (65535 : Int32)).toUInt32.toUInt16.toUInt32.toInt32)), .val (.ref (u 5)), .val (.ref (u 5))]) rfl ?_
                show Steps p.tables e below (T247.setTop (mkF m 99 #[.val (.int p0), .val (.int p1), .val (.int (p1 &&& (15 : Int32))), .val (.ref b99), .val (.int ((p0 &&& (65535 : Int32)).toUInt32.toUInt16.toUInt32.toInt32)), .val (.ref (u 5)), .val (.ref (u 5))] [])) _
                refine XS.aload X247.here hx rfl (hb hby at_99) rfl rfl ?_
                show Steps p.tables e below (T247.setTop (mkF m 101 #[.val (.int p0), .val (.int p1), .val (.int (p1 &&& (15 : Int32))), .val (.ref b99), .val (.int ((p0 &&& (65535 : Int32)).toUInt32.toUInt16.toUInt32.toInt32)), .val (.ref (u 5)), .val (.ref (u 5))] [(.ref (u 5))])) _
                refine XS.aload X247.here hx rfl (hb hby at_101) rfl rfl ?_
                show Steps p.tables e below (T247.setTop (mkF m 103 #[.val (.int p0), .val (.int p1), .val (.int (p1 &&& (15 : Int32))), .val (.ref b99), .val (.int ((p0 &&& (65535 : Int32)).toUInt32.toUInt16.toUInt32.toInt32)), .val (.ref (u 5)), .val (.ref (u 5))] [(.ref (u 5)), (.ref (u 5))])) _
                refine Jvm.RoadKit.acmp (g := (mkF m 103 #[.val (.int p0), .val (.int p1), .val (.int (p1 &&& (15 : Int32))), .val (.ref b99), .val (.int ((p0 &&& (65535 : Int32)).toUInt32.toUInt16.toUInt32.toInt32)), .val (.ref (u 5)), .val (.ref (u 5))] [(.ref (u 5)), (.ref (u 5))])) X247 hx rfl rfl rfl (pc0 := 103) (pc' := 106) (same := true) rfl (hb hby at_103) rfl (decide_eq_true rfl) (by decide) (by decide) ?_
                show Steps p.tables e below (T247.setTop (mkF m 106 #[.val (.int p0), .val (.int p1), .val (.int (p1 &&& (15 : Int32))), .val (.ref b99), .val (.int ((p0 &&& (65535 : Int32)).toUInt32.toUInt16.toUInt32.toInt32)), .val (.ref (u 5)), .val (.ref (u 5))] [])) _
                refine XS.iconst X247.here hx rfl (hb hby at_106) ?_
                show Steps p.tables e below (T247.setTop (mkF m 107 #[.val (.int p0), .val (.int p1), .val (.int (p1 &&& (15 : Int32))), .val (.ref b99), .val (.int ((p0 &&& (65535 : Int32)).toUInt32.toUInt16.toUInt32.toInt32)), .val (.ref (u 5)), .val (.ref (u 5))] [(.int (1 : Int32))])) _
                refine XS.goto X247.here hx rfl (pc0 := 107) (pc' := 111) rfl (hb hby at_107) (by decide) (by decide) ?_
                show Steps p.tables e below (T247.setTop (mkF m 111 #[.val (.int p0), .val (.int p1), .val (.int (p1 &&& (15 : Int32))), .val (.ref b99), .val (.int ((p0 &&& (65535 : Int32)).toUInt32.toUInt16.toUInt32.toInt32)), .val (.ref (u 5)), .val (.ref (u 5))] [(.int (1 : Int32))])) _
                exact retN X247 hx (t := .boolean) Bd.returns (by simp) (hb hby at_111) hr
              · show own_Q0 Z u p0 p1 h0 n0 _ T247.heap _
                exact ⟨rfl, N247, trivial⟩
            · --
              by_cases hc250 : ((p0 &&& (65535 : Int32)).toUInt32.toUInt16.toUInt32.toInt32) = (54 : Int32)
              · --
                obtain rfl : vr224 = some (.ref (u 6)) := hv224.trans (by unfold own_r1; rw [if_neg hc225, if_neg hc230, if_neg hc235, if_neg hc240, if_neg hc245, if_pos hc250])
                have pre251 : ∀ t, Steps p.tables e below (T224.setTop (mkF m 94 #[.val (.int p0), .val (.int p1), .val (.int (p1 &&& (15 : Int32))), .val (.ref b99), .val (.int ((p0 &&& (65535 : Int32)).toUInt32.toUInt16.toUInt32.toInt32)), .val (.ref (u 6)), .unset] [(.int ((p0 &&& (65535 : Int32)).toUInt32.toUInt16.toUInt32.toInt32))])) t → Steps p.tables e below (s₁.setTop (entryFrame m #[(.int p0), (.int p1)] maxLocals)) t := fun t kt => pre223 t (by
                  show Steps p.tables e below (T137.setTop (mkF m 87 #[.val (.int p0), .val (.int p1), .val (.int (p1 &&& (15 : Int32))), .val (.ref b99), .val (.int ((p0 &&& (65535 : Int32)).toUInt32.toUInt16.toUInt32.toInt32)), .unset, .unset] [(.int ((p0 &&& (65535 : Int32)).toUInt32.toUInt16.toUInt32.toInt32))])) _
                  refine st224 _ ?_
                  show Steps p.tables e below (T224.setTop (mkF m 90 #[.val (.int p0), .val (.int p1), .val (.int (p1 &&& (15 : Int32))), .val (.ref b99), .val (.int ((p0 &&& (65535 : Int32)).toUInt32.toUInt16.toUInt32.toInt32)), .unset, .unset] [(.ref (u 6))])) _
                  refine XS.astore X224.here hx rfl (hb hby at_90) rfl rfl (l' := #[.val (.int p0), .val (.int p1), .val (.int (p1 &&& (15 : Int32))), .val (.ref b99), .val (.int ((p0 &&& (65535 : Int32)).toUInt32.toUInt16.toUInt32.toInt32)), .val (.ref (u 6)), .unset]) rfl ?_
                  show Steps p.tables e below (T224.setTop (mkF m 92 #[.val (.int p0), .val (.int p1), .val (.int (p1 &&& (15 : Int32))), .val (.ref b99), .val (.int ((p0 &&& (65535 : Int32)).toUInt32.toUInt16.toUInt32.toInt32)), .val (.ref (u 6)), .unset] [])) _
                  refine XS.iload X224.here hx rfl (hb hby at_92) rfl ?_
                  exact kt)
                obtain ⟨vr252, _, ⟨T252, L252, k252, n252⟩, -, X252, ⟨Lc252, hQ252, l252, y252, z252⟩, st252⟩ := Jvm.LawKit.callS X224 hx (y := (⟨"com/example/smazzata/smazzata/card/Rank", "fromCode", "(C)Lcom/example/smazzata/smazzata/card/Rank;"⟩ : MethodName)) hown (mvT hZ (hw _ (List.mem_of_getElem? (i := 8) rfl))) (mvT hZ (hw _ (List.mem_of_getElem? (i := 9) rfl))) (mvT hZ (hw _ (List.mem_of_getElem? (i := 6) rfl))) (mvT hZ (hw _ (List.mem_of_getElem? (i := 10) rfl))) (by decide) (backOf (W := 0) (rm2 l Z a0 hw [] u ((p0 &&& (65535 : Int32)).toUInt32.toUInt16.toUInt32.toInt32) B h137 n0 O137 ) hZ (hw _ (List.mem_of_getElem? (i := 10) rfl)) (hw _ (List.mem_of_getElem? (i := 6) rfl)) (by decide) (by decide)) (g := (mkF m 94 #[.val (.int p0), .val (.int p1), .val (.int (p1 &&& (15 : Int32))), .val (.ref b99), .val (.int ((p0 &&& (65535 : Int32)).toUInt32.toUInt16.toUInt32.toInt32)), .val (.ref (u 6)), .unset] [(.int ((p0 &&& (65535 : Int32)).toUInt32.toUInt16.toUInt32.toInt32))])) rfl (by rw [hml]; rfl) (argsL := [(.int ((p0 &&& (65535 : Int32)).toUInt32.toUInt16.toUInt32.toInt32))]) (rest := []) (lenOf own_pd1 rfl) rfl (by show 2 * 0 + _ ≤ _; exact Nat.le_of_eq rfl) (hb hby at_94) (fun _ _ => ⟨rfl, e224, (by decide : 1 + 1 ≤ _), (by decide : 10 + 10 ≤ _)⟩)
                dsimp only [Pt.U, Pt.locs, Pt.cells, Pt.slots] at X252 l252 y252 z252 st252 hQ252
                subst l252 y252 z252
                obtain ⟨hv252, N252q, E252⟩ := hQ252
                have N252 := Fr.app N224 N252q
                have O252 := O137.ext E252
                have K252 := K137.ext E252
                have f253 := V137.ext E252
                obtain rfl : vr252 = some (.ref (u 6)) := hv252.trans (by unfold own_r2; rw [if_neg (fun q => hc225 (Eq.symm q)), if_neg (fun q => hc230 (Eq.symm q)), if_neg (fun q => hc235 (Eq.symm q)), if_neg (fun q => hc240 (Eq.symm q)), if_neg (fun q => hc245 (Eq.symm q)), if_pos (Eq.symm hc250)])
                obtain ⟨fs, hr, hrun, hended, hW, hsame⟩ := X252.leave (v := some (.int (1 : Int32))) (fun h => by rw [Bd.returns] at h; cases h)
                refine ⟨_, _, pre251 _ ?_, hrun, hended, _, _, rfl, ?_, ⟨_, rfl⟩, hW, hsame.mono (by decide) (by decide)⟩
                · show Steps p.tables e below (T224.setTop (mkF m 94 #[.val (.int p0), .val (.int p1), .val (.int (p1 &&& (15 : Int32))), .val (.ref b99), .val (.int ((p0 &&& (65535 : Int32)).toUInt32.toUInt16.toUInt32.toInt32)), .val (.ref (u 6)), .unset] [(.int ((p0 &&& (65535 : Int32)).toUInt32.toUInt16.toUInt32.toInt32))])) _
                  refine st252 _ ?_
                  show Steps p.tables e below (T252.setTop (mkF m 97 #[.val (.int p0), .val (.int p1), .val (.int (p1 &&& (15 : Int32))), .val (.ref b99), .val (.int ((p0 &&& (65535 : Int32)).toUInt32.toUInt16.toUInt32.toInt32)), .val (.ref (u 6)), .unset] [(.ref (u 6))])) _
                  refine XS.astore X252.here hx rfl (hb hby at_97) rfl rfl (l' := #[.val (.int p0), .val (.int p1), .val (.int (p1 &&& (15 : Int32))), .val (.ref b99), .val (.int ((p0 &&& (65535 : Int32)).toUInt32.toUInt16.toUInt32.toInt32)), .val (.ref (u 6)), .val (.ref (u 6))]) rfl ?_
                  show Steps p.tables e below (T252.setTop (mkF m 99 #[.val (.int p0), .val (.int p1), .val (.int (p1 &&& (15 : Int32))), .val (.ref b99), .val (.int ((p0 &&& (65535 : Int32)).toUInt32.toUInt16.toUInt32.toInt32)), .val (.ref (u 6)), .val (.ref (u 6))] [])) _
                  refine XS.aload X252.here hx rfl (hb hby at_99) rfl rfl ?_
                  show Steps p.tables e below (T252.setTop (mkF m 101 #[.val (.int p0), .val (.int p1), .val (.int (p1 &&& (15 : Int32))), .val (.ref b99), .val (.int ((p0 &&& (65535 : Int32)).toUInt32.toUInt16.toUInt32.toInt32)), .val (.ref (u 6)), .val (.ref (u 6))] [(.ref (u 6))])) _
                  refine XS.aload X252.here hx rfl (hb hby at_101) rfl rfl ?_
                  show Steps p.tables e below (T252.setTop (mkF m 103 #[.val (.int p0), .val (.int p1), .val (.int (p1 &&& (15 : Int32))), .val (.ref b99), .val (.int ((p0 &&& (65535 : Int32)).toUInt32.toUInt16.toUInt32.toInt32)), .val (.ref (u 6)), .val (.ref (u 6))] [(.ref (u 6)), (.ref (u 6))])) _
                  refine Jvm.RoadKit.acmp (g := (mkF m 103 #[.val (.int p0), .val (.int p1), .val (.int (p1 &&& (15 : Int32))), .val (.ref b99), .val (.int ((p0 &&& (65535 : Int32)).toUInt32.toUInt16.toUInt32.toInt32)), .val (.ref (u 6)), .val (.ref (u 6))] [(.ref (u 6)), (.ref (u 6))])) X252 hx rfl rfl rfl (pc0 := 103) (pc' := 106) (same := true) rfl (hb hby at_103) rfl (decide_eq_true rfl) (by decide) (by decide) ?_
                  show Steps p.tables e below (T252.setTop (mkF m 106 #[.val (.int p0), .val (.int p1), .val (.int (p1 &&& (15 : Int32))), .val (.ref b99), .val (.int ((p0 &&& (65535 : Int32)).toUInt32.toUInt16.toUInt32.toInt32)), .val (.ref (u 6)), .val (.ref (u 6))] [])) _
                  refine XS.iconst X252.here hx rfl (hb hby at_106) ?_
                  show Steps p.tables e below (T252.setTop (mkF m 107 #[.val (.int p0), .val (.int p1), .val (.int (p1 &&& (15 : Int32))), .val (.ref b99), .val (.int ((p0 &&& (65535 : Int32)).toUInt32.toUInt16.toUInt32.toInt32)), .val (.ref (u 6)), .val (.ref (u 6))] [(.int (1 : Int32))])) _
                  refine XS.goto X252.here hx rfl (pc0 := 107) (pc' := 111) rfl (hb hby at_107) (by decide) (by decide) ?_
                  show Steps p.tables e below (T252.setTop (mkF m 111 #[.val (.int p0), .val (.int p1), .val (.int (p1 &&& (15 : Int32))), .val (.ref b99), .val (.int ((p0 &&& (65535 : Int32)).toUInt32.toUInt16.toUInt32.toInt32)), .val (.ref (u 6)), .val (.ref (u 6))] [(.int (1 : Int32))])) _
                  exact retN X252 hx (t := .boolean) Bd.returns (by simp) (hb hby at_111) hr
                · show own_Q0 Z u p0 p1 h0 n0 _ T252.heap _
                  exact ⟨rfl, N252, trivial⟩
              · --
                by_cases hc255 : ((p0 &&& (65535 : Int32)).toUInt32.toUInt16.toUInt32.toInt32) = (55 : Int32)
                · --
                  obtain rfl : vr224 = some (.ref (u 7)) := hv224.trans (by unfold own_r1; rw [if_neg hc225, if_neg hc230, if_neg hc235, if_neg hc240, if_neg hc245, if_neg hc250, if_pos hc255])
                  have pre256 : ∀ t, Steps p.tables e below (T224.setTop (mkF m 94 #[.val (.int p0), .val (.int p1), .val (.int (p1 &&& (15 : Int32))), .val (.ref b99), .val (.int ((p0 &&& (65535 : Int32)).toUInt32.toUInt16.toUInt32.toInt32)), .val (.ref (u 7)), .unset] [(.int ((p0 &&& (65535 : Int32)).toUInt32.toUInt16.toUInt32.toInt32))])) t → Steps p.tables e below (s₁.setTop (entryFrame m #[(.int p0), (.int p1)] maxLocals)) t := fun t kt => pre223 t (by
                    show Steps p.tables e below (T137.setTop (mkF m 87 #[.val (.int p0), .val (.int p1), .val (.int (p1 &&& (15 : Int32))), .val (.ref b99), .val (.int ((p0 &&& (65535 : Int32)).toUInt32.toUInt16.toUInt32.toInt32)), .unset, .unset] [(.int ((p0 &&& (65535 : Int32)).toUInt32.toUInt16.toUInt32.toInt32))])) _
                    refine st224 _ ?_
                    show Steps p.tables e below (T224.setTop (mkF m 90 #[.val (.int p0), .val (.int p1), .val (.int (p1 &&& (15 : Int32))), .val (.ref b99), .val (.int ((p0 &&& (65535 : Int32)).toUInt32.toUInt16.toUInt32.toInt32)), .unset, .unset] [(.ref (u 7))])) _
                    refine XS.astore X224.here hx rfl (hb hby at_90) rfl rfl (l' := #[.val (.int p0), .val (.int p1), .val (.int (p1 &&& (15 : Int32))), .val (.ref b99), .val (.int ((p0 &&& (65535 : Int32)).toUInt32.toUInt16.toUInt32.toInt32)), .val (.ref (u 7)), .unset]) rfl ?_
                    show Steps p.tables e below (T224.setTop (mkF m 92 #[.val (.int p0), .val (.int p1), .val (.int (p1 &&& (15 : Int32))), .val (.ref b99), .val (.int ((p0 &&& (65535 : Int32)).toUInt32.toUInt16.toUInt32.toInt32)), .val (.ref (u 7)), .unset] [])) _
                    refine XS.iload X224.here hx rfl (hb hby at_92) rfl ?_
                    exact kt)
                  obtain ⟨vr257, _, ⟨T257, L257, k257, n257⟩, -, X257, ⟨Lc257, hQ257, l257, y257, z257⟩, st257⟩ := Jvm.LawKit.callS X224 hx (y := (⟨"com/example/smazzata/smazzata/card/Rank", "fromCode", "(C)Lcom/example/smazzata/smazzata/card/Rank;"⟩ : MethodName)) hown (mvT hZ (hw _ (List.mem_of_getElem? (i := 8) rfl))) (mvT hZ (hw _ (List.mem_of_getElem? (i := 9) rfl))) (mvT hZ (hw _ (List.mem_of_getElem? (i := 6) rfl))) (mvT hZ (hw _ (List.mem_of_getElem? (i := 10) rfl))) (by decide) (backOf (W := 0) (rm2 l Z a0 hw [] u ((p0 &&& (65535 : Int32)).toUInt32.toUInt16.toUInt32.toInt32) B h137 n0 O137 ) hZ (hw _ (List.mem_of_getElem? (i := 10) rfl)) (hw _ (List.mem_of_getElem? (i := 6) rfl)) (by decide) (by decide)) (g := (mkF m 94 #[.val (.int p0), .val (.int p1), .val (.int (p1 &&& (15 : Int32))), .val (.ref b99), .val (.int ((p0 &&& (65535 : Int32)).toUInt32.toUInt16.toUInt32.toInt32)), .val (.ref (u 7)), .unset] [(.int ((p0 &&& (65535 : Int32)).toUInt32.toUInt16.toUInt32.toInt32))])) rfl (by rw [hml]; rfl) (argsL := [(.int ((p0 &&& (65535 : Int32)).toUInt32.toUInt16.toUInt32.toInt32))]) (rest := []) (lenOf own_pd1 rfl) rfl (by show 2 * 0 + _ ≤ _; exact Nat.le_of_eq rfl) (hb hby at_94) (fun _ _ => ⟨rfl, e224, (by decide : 1 + 1 ≤ _), (by decide : 10 + 10 ≤ _)⟩)
                  dsimp only [Pt.U, Pt.locs, Pt.cells, Pt.slots] at X257 l257 y257 z257 st257 hQ257
                  subst l257 y257 z257
                  obtain ⟨hv257, N257q, E257⟩ := hQ257
                  have N257 := Fr.app N224 N257q
                  have O257 := O137.ext E257
                  have K257 := K137.ext E257
                  have f258 := V137.ext E257
                  obtain rfl : vr257 = some (.ref (u 7)) := hv257.trans (by unfold own_r2; rw [if_neg (fun q => hc225 (Eq.symm q)), if_neg (fun q => hc230 (Eq.symm q)), if_neg (fun q => hc235 (Eq.symm q)), if_neg (fun q => hc240 (Eq.symm q)), if_neg (fun q => hc245 (Eq.symm q)), if_neg (fun q => hc250 (Eq.symm q)), if_pos (Eq.symm hc255)])
                  obtain ⟨fs, hr, hrun, hended, hW, hsame⟩ := X257.leave (v := some (.int (1 : Int32))) (fun h => by rw [Bd.returns] at h; cases h)
                  refine ⟨_, _, pre256 _ ?_, hrun, hended, _, _, rfl, ?_, ⟨_, rfl⟩, hW, hsame.mono (by decide) (by decide)⟩
                  · show Steps p.tables e below (T224.setTop (mkF m 94 #[.val (.int p0), .val (.int p1), .val (.int (p1 &&& (15 : Int32))), .val (.ref b99), .val (.int ((p0 &&& (65535 : Int32)).toUInt32.toUInt16.toUInt32.toInt32)), .val (.ref (u 7)), .unset] [(.int ((p0 &&& (65535 : Int32)).toUInt32.toUInt16.toUInt32.toInt32))])) _
                    refine st257 _ ?_
                    show Steps p.tables e below (T257.setTop (mkF m 97 #[.val (.int p0), .val (.int p1), .val (.int (p1 &&& (15 : Int32))), .val (.ref b99), .val (.int ((p0 &&& (65535 : Int32)).toUInt32.toUInt16.toUInt32.toInt32)), .val (.ref (u 7)), .unset] [(.ref (u 7))])) _
                    refine XS.astore X257.here hx rfl (hb hby at_97) rfl rfl (l' := #[.val (.int p0), .val (.int p1), .val (.int (p1 &&& (15 : Int32))), .val (.ref b99), .val (.int ((p0 &&& (65535 : Int32)).toUInt32.toUInt16.toUInt32.toInt32)), .val (.ref (u 7)), .val (.ref (u 7))]) rfl ?_
                    show Steps p.tables e below (T257.setTop (mkF m 99 #[.val (.int p0), .val (.int p1), .val (.int (p1 &&& (15 : Int32))), .val (.ref b99), .val (.int ((p0 &&& (65535 : Int32)).toUInt32.toUInt16.toUInt32.toInt32)), .val (.ref (u 7)), .val (.ref (u 7))] [])) _
                    refine XS.aload X257.here hx rfl (hb hby at_99) rfl rfl ?_
                    show Steps p.tables e below (T257.setTop (mkF m 101 #[.val (.int p0), .val (.int p1), .val (.int (p1 &&& (15 : Int32))), .val (.ref b99), .val (.int ((p0 &&& (65535 : Int32)).toUInt32.toUInt16.toUInt32.toInt32)), .val (.ref (u 7)), .val (.ref (u 7))] [(.ref (u 7))])) _
                    refine XS.aload X257.here hx rfl (hb hby at_101) rfl rfl ?_
                    show Steps p.tables e below (T257.setTop (mkF m 103 #[.val (.int p0), .val (.int p1), .val (.int (p1 &&& (15 : Int32))), .val (.ref b99), .val (.int ((p0 &&& (65535 : Int32)).toUInt32.toUInt16.toUInt32.toInt32)), .val (.ref (u 7)), .val (.ref (u 7))] [(.ref (u 7)), (.ref (u 7))])) _
                    refine Jvm.RoadKit.acmp (g := (mkF m 103 #[.val (.int p0), .val (.int p1), .val (.int (p1 &&& (15 : Int32))), .val (.ref b99), .val (.int ((p0 &&& (65535 : Int32)).toUInt32.toUInt16.toUInt32.toInt32)), .val (.ref (u 7)), .val (.ref (u 7))] [(.ref (u 7)), (.ref (u 7))])) X257 hx rfl rfl rfl (pc0 := 103) (pc' := 106) (same := true) rfl (hb hby at_103) rfl (decide_eq_true rfl) (by decide) (by decide) ?_
                    show Steps p.tables e below (T257.setTop (mkF m 106 #[.val (.int p0), .val (.int p1), .val (.int (p1 &&& (15 : Int32))), .val (.ref b99), .val (.int ((p0 &&& (65535 : Int32)).toUInt32.toUInt16.toUInt32.toInt32)), .val (.ref (u 7)), .val (.ref (u 7))] [])) _
                    refine XS.iconst X257.here hx rfl (hb hby at_106) ?_
                    show Steps p.tables e below (T257.setTop (mkF m 107 #[.val (.int p0), .val (.int p1), .val (.int (p1 &&& (15 : Int32))), .val (.ref b99), .val (.int ((p0 &&& (65535 : Int32)).toUInt32.toUInt16.toUInt32.toInt32)), .val (.ref (u 7)), .val (.ref (u 7))] [(.int (1 : Int32))])) _
                    refine XS.goto X257.here hx rfl (pc0 := 107) (pc' := 111) rfl (hb hby at_107) (by decide) (by decide) ?_
                    show Steps p.tables e below (T257.setTop (mkF m 111 #[.val (.int p0), .val (.int p1), .val (.int (p1 &&& (15 : Int32))), .val (.ref b99), .val (.int ((p0 &&& (65535 : Int32)).toUInt32.toUInt16.toUInt32.toInt32)), .val (.ref (u 7)), .val (.ref (u 7))] [(.int (1 : Int32))])) _
                    exact retN X257 hx (t := .boolean) Bd.returns (by simp) (hb hby at_111) hr
                  · show own_Q0 Z u p0 p1 h0 n0 _ T257.heap _
                    exact ⟨rfl, N257, trivial⟩
                · --
                  by_cases hc260 : ((p0 &&& (65535 : Int32)).toUInt32.toUInt16.toUInt32.toInt32) = (74 : Int32)
                  · --
                    obtain rfl : vr224 = some (.ref (u 8)) := hv224.trans (by unfold own_r1; rw [if_neg hc225, if_neg hc230, if_neg hc235, if_neg hc240, if_neg hc245, if_neg hc250, if_neg hc255, if_pos hc260])
                    have pre261 : ∀ t, Steps p.tables e below (T224.setTop (mkF m 94 #[.val (.int p0), .val (.int p1), .val (.int (p1 &&& (15 : Int32))), .val (.ref b99), .val (.int ((p0 &&& (65535 : Int32)).toUInt32.toUInt16.toUInt32.toInt32)), .val (.ref (u 8)), .unset] [(.int ((p0 &&& (65535 : Int32)).toUInt32.toUInt16.toUInt32.toInt32))])) t → Steps p.tables e below (s₁.setTop (entryFrame m #[(.int p0), (.int p1)] maxLocals)) t := fun t kt => pre223 t (by
                      show Steps p.tables e below (T137.setTop (mkF m 87 #[.val (.int p0), .val (.int p1), .val (.int (p1 &&& (15 : Int32))), .val (.ref b99), .val (.int ((p0 &&& (65535 : Int32)).toUInt32.toUInt16.toUInt32.toInt32)), .unset, .unset] [(.int ((p0 &&& (65535 : Int32)).toUInt32.toUInt16.toUInt32.toInt32))])) _
                      refine st224 _ ?_
                      show Steps p.tables e below (T224.setTop (mkF m 90 #[.val (.int p0), .val (.int p1), .val (.int (p1 &&& (15 : Int32))), .val (.ref b99), .val (.int ((p0 &&& (65535 : Int32)).toUInt32.toUInt16.toUInt32.toInt32)), .unset, .unset] [(.ref (u 8))])) _
                      refine XS.astore X224.here hx rfl (hb hby at_90) rfl rfl (l' := #[.val (.int p0), .val (.int p1), .val (.int (p1 &&& (15 : Int32))), .val (.ref b99), .val (.int ((p0 &&& (65535 : Int32)).toUInt32.toUInt16.toUInt32.toInt32)), .val (.ref (u 8)), .unset]) rfl ?_
                      show Steps p.tables e below (T224.setTop (mkF m 92 #[.val (.int p0), .val (.int p1), .val (.int (p1 &&& (15 : Int32))), .val (.ref b99), .val (.int ((p0 &&& (65535 : Int32)).toUInt32.toUInt16.toUInt32.toInt32)), .val (.ref (u 8)), .unset] [])) _
                      refine XS.iload X224.here hx rfl (hb hby at_92) rfl ?_
                      exact kt)
                    obtain ⟨vr262, _, ⟨T262, L262, k262, n262⟩, -, X262, ⟨Lc262, hQ262, l262, y262, z262⟩, st262⟩ := Jvm.LawKit.callS X224 hx (y := (⟨"com/example/smazzata/smazzata/card/Rank", "fromCode", "(C)Lcom/example/smazzata/smazzata/card/Rank;"⟩ : MethodName)) hown (mvT hZ (hw _ (List.mem_of_getElem? (i := 8) rfl))) (mvT hZ (hw _ (List.mem_of_getElem? (i := 9) rfl))) (mvT hZ (hw _ (List.mem_of_getElem? (i := 6) rfl))) (mvT hZ (hw _ (List.mem_of_getElem? (i := 10) rfl))) (by decide) (backOf (W := 0) (rm2 l Z a0 hw [] u ((p0 &&& (65535 : Int32)).toUInt32.toUInt16.toUInt32.toInt32) B h137 n0 O137 ) hZ (hw _ (List.mem_of_getElem? (i := 10) rfl)) (hw _ (List.mem_of_getElem? (i := 6) rfl)) (by decide) (by decide)) (g := (mkF m 94 #[.val (.int p0), .val (.int p1), .val (.int (p1 &&& (15 : Int32))), .val (.ref b99), .val (.int ((p0 &&& (65535 : Int32)).toUInt32.toUInt16.toUInt32.toInt32)), .val (.ref (u 8)), .unset] [(.int ((p0 &&& (65535 : Int32)).toUInt32.toUInt16.toUInt32.toInt32))])) rfl (by rw [hml]; rfl) (argsL := [(.int ((p0 &&& (65535 : Int32)).toUInt32.toUInt16.toUInt32.toInt32))]) (rest := []) (lenOf own_pd1 rfl) rfl (by show 2 * 0 + _ ≤ _; exact Nat.le_of_eq rfl) (hb hby at_94) (fun _ _ => ⟨rfl, e224, (by decide : 1 + 1 ≤ _), (by decide : 10 + 10 ≤ _)⟩)
                    dsimp only [Pt.U, Pt.locs, Pt.cells, Pt.slots] at X262 l262 y262 z262 st262 hQ262
                    subst l262 y262 z262
                    obtain ⟨hv262, N262q, E262⟩ := hQ262
                    have N262 := Fr.app N224 N262q
                    have O262 := O137.ext E262
                    have K262 := K137.ext E262
                    have f263 := V137.ext E262
                    obtain rfl : vr262 = some (.ref (u 8)) := hv262.trans (by unfold own_r2; rw [if_neg (fun q => hc225 (Eq.symm q)), if_neg (fun q => hc230 (Eq.symm q)), if_neg (fun q => hc235 (Eq.symm q)), if_neg (fun q => hc240 (Eq.symm q)), if_neg (fun q => hc245 (Eq.symm q)), if_neg (fun q => hc250 (Eq.symm q)), if_neg (fun q => hc255 (Eq.symm q)), if_pos (Eq.symm hc260)])
                    obtain ⟨fs, hr, hrun, hended, hW, hsame⟩ := X262.leave (v := some (.int (1 : Int32))) (fun h => by rw [Bd.returns] at h; cases h)
                    refine ⟨_, _, pre261 _ ?_, hrun, hended, _, _, rfl, ?_, ⟨_, rfl⟩, hW, hsame.mono (by decide) (by decide)⟩
                    · show Steps p.tables e below (T224.setTop (mkF m 94 #[.val (.int p0), .val (.int p1), .val (.int (p1 &&& (15 : Int32))), .val (.ref b99), .val (.int ((p0 &&& (65535 : Int32)).toUInt32.toUInt16.toUInt32.toInt32)), .val (.ref (u 8)), .unset] [(.int ((p0 &&& (65535 : Int32)).toUInt32.toUInt16.toUInt32.toInt32))])) _
                      refine st262 _ ?_
                      show Steps p.tables e below (T262.setTop (mkF m 97 #[.val (.int p0), .val (.int p1), .val (.int (p1 &&& (15 : Int32))), .val (.ref b99), .val (.int ((p0 &&& (65535 : Int32)).toUInt32.toUInt16.toUInt32.toInt32)), .val (.ref (u 8)), .unset] [(.ref (u 8))])) _
                      refine XS.astore X262.here hx rfl (hb hby at_97) rfl rfl (l' := #[.val (.int p0), .val (.int p1), .val (.int (p1 &&& (15 : Int32))), .val (.ref b99), .val (.int ((p0 &&& (65535 : Int32)).toUInt32.toUInt16.toUInt32.toInt32)), .val (.ref (u 8)), .val (.ref (u 8))]) rfl ?_
                      show Steps p.tables e below (T262.setTop (mkF m 99 #[.val (.int p0), .val (.int p1), .val (.int (p1 &&& (15 : Int32))), .val (.ref b99), .val (.int ((p0 &&& (65535 : Int32)).toUInt32.toUInt16.toUInt32.toInt32)), .val (.ref (u 8)), .val (.ref (u 8))] [])) _
                      refine XS.aload X262.here hx rfl (hb hby at_99) rfl rfl ?_
                      show Steps p.tables e below (T262.setTop (mkF m 101 #[.val (.int p0), .val (.int p1), .val (.int (p1 &&& (15 : Int32))), .val (.ref b99), .val (.int ((p0 &&& (65535 : Int32)).toUInt32.toUInt16.toUInt32.toInt32)), .val (.ref (u 8)), .val (.ref (u 8))] [(.ref (u 8))])) _
                      refine XS.aload X262.here hx rfl (hb hby at_101) rfl rfl ?_
                      show Steps p.tables e below (T262.setTop (mkF m 103 #[.val (.int p0), .val (.int p1), .val (.int (p1 &&& (15 : Int32))), .val (.ref b99), .val (.int ((p0 &&& (65535 : Int32)).toUInt32.toUInt16.toUInt32.toInt32)), .val (.ref (u 8)), .val (.ref (u 8))] [(.ref (u 8)), (.ref (u 8))])) _
                      refine Jvm.RoadKit.acmp (g := (mkF m 103 #[.val (.int p0), .val (.int p1), .val (.int (p1 &&& (15 : Int32))), .val (.ref b99), .val (.int ((p0 &&& (65535 : Int32)).toUInt32.toUInt16.toUInt32.toInt32)), .val (.ref (u 8)), .val (.ref (u 8))] [(.ref (u 8)), (.ref (u 8))])) X262 hx rfl rfl rfl (pc0 := 103) (pc' := 106) (same := true) rfl (hb hby at_103) rfl (decide_eq_true rfl) (by decide) (by decide) ?_
                      show Steps p.tables e below (T262.setTop (mkF m 106 #[.val (.int p0), .val (.int p1), .val (.int (p1 &&& (15 : Int32))), .val (.ref b99), .val (.int ((p0 &&& (65535 : Int32)).toUInt32.toUInt16.toUInt32.toInt32)), .val (.ref (u 8)), .val (.ref (u 8))] [])) _
                      refine XS.iconst X262.here hx rfl (hb hby at_106) ?_
                      show Steps p.tables e below (T262.setTop (mkF m 107 #[.val (.int p0), .val (.int p1), .val (.int (p1 &&& (15 : Int32))), .val (.ref b99), .val (.int ((p0 &&& (65535 : Int32)).toUInt32.toUInt16.toUInt32.toInt32)), .val (.ref (u 8)), .val (.ref (u 8))] [(.int (1 : Int32))])) _
                      refine XS.goto X262.here hx rfl (pc0 := 107) (pc' := 111) rfl (hb hby at_107) (by decide) (by decide) ?_
                      show Steps p.tables e below (T262.setTop (mkF m 111 #[.val (.int p0), .val (.int p1), .val (.int (p1 &&& (15 : Int32))), .val (.ref b99), .val (.int ((p0 &&& (65535 : Int32)).toUInt32.toUInt16.toUInt32.toInt32)), .val (.ref (u 8)), .val (.ref (u 8))] [(.int (1 : Int32))])) _
                      exact retN X262 hx (t := .boolean) Bd.returns (by simp) (hb hby at_111) hr
                    · show own_Q0 Z u p0 p1 h0 n0 _ T262.heap _
                      exact ⟨rfl, N262, trivial⟩
                  · --
                    by_cases hc265 : ((p0 &&& (65535 : Int32)).toUInt32.toUInt16.toUInt32.toInt32) = (81 : Int32)
                    · --
                      obtain rfl : vr224 = some (.ref (u 9)) := hv224.trans (by unfold own_r1; rw [if_neg hc225, if_neg hc230, if_neg hc235, if_neg hc240, if_neg hc245, if_neg hc250, if_neg hc255, if_neg hc260, if_pos hc265])
                      have pre266 : ∀ t, Steps p.tables e below (T224.setTop (mkF m 94 #[.val (.int p0), .val (.int p1), .val (.int (p1 &&& (15 : Int32))), .val (.ref b99), .val (.int ((p0 &&& (65535 : Int32)).toUInt32.toUInt16.toUInt32.toInt32)), .val (.ref (u 9)), .unset] [(.int ((p0 &&& (65535 : Int32)).toUInt32.toUInt16.toUInt32.toInt32))])) t → Steps p.tables e below (s₁.setTop (entryFrame m #[(.int p0), (.int p1)] maxLocals)) t := fun t kt => pre223 t (by
                        show Steps p.tables e below (T137.setTop (mkF m 87 #[.val (.int p0), .val (.int p1), .val (.int (p1 &&& (15 : Int32))), .val (.ref b99), .val (.int ((p0 &&& (65535 : Int32)).toUInt32.toUInt16.toUInt32.toInt32)), .unset, .unset] [(.int ((p0 &&& (65535 : Int32)).toUInt32.toUInt16.toUInt32.toInt32))])) _
                        refine st224 _ ?_
                        show Steps p.tables e below (T224.setTop (mkF m 90 #[.val (.int p0), .val (.int p1), .val (.int (p1 &&& (15 : Int32))), .val (.ref b99), .val (.int ((p0 &&& (65535 : Int32)).toUInt32.toUInt16.toUInt32.toInt32)), .unset, .unset] [(.ref (u 9))])) _
                        refine XS.astore X224.here hx rfl (hb hby at_90) rfl rfl (l' := #[.val (.int p0), .val (.int p1), .val (.int (p1 &&& (15 : Int32))), .val (.ref b99), .val (.int ((p0 &&& (65535 : Int32)).toUInt32.toUInt16.toUInt32.toInt32)), .val (.ref (u 9)), .unset]) rfl ?_
                        show Steps p.tables e below (T224.setTop (mkF m 92 #[.val (.int p0), .val (.int p1), .val (.int (p1 &&& (15 : Int32))), .val (.ref b99), .val (.int ((p0 &&& (65535 : Int32)).toUInt32.toUInt16.toUInt32.toInt32)), .val (.ref (u 9)), .unset] [])) _
                        refine XS.iload X224.here hx rfl (hb hby at_92) rfl ?_
                        exact kt)
                      obtain ⟨vr267, _, ⟨T267, L267, k267, n267⟩, -, X267, ⟨Lc267, hQ267, l267, y267, z267⟩, st267⟩ := Jvm.LawKit.callS X224 hx (y := (⟨"com/example/smazzata/smazzata/card/Rank", "fromCode", "(C)Lcom/example/smazzata/smazzata/card/Rank;"⟩ : MethodName)) hown (mvT hZ (hw _ (List.mem_of_getElem? (i := 8) rfl))) (mvT hZ (hw _ (List.mem_of_getElem? (i := 9) rfl))) (mvT hZ (hw _ (List.mem_of_getElem? (i := 6) rfl))) (mvT hZ (hw _ (List.mem_of_getElem? (i := 10) rfl))) (by decide) (backOf (W := 0) (rm2 l Z a0 hw [] u ((p0 &&& (65535 : Int32)).toUInt32.toUInt16.toUInt32.toInt32) B h137 n0 O137 ) hZ (hw _ (List.mem_of_getElem? (i := 10) rfl)) (hw _ (List.mem_of_getElem? (i := 6) rfl)) (by decide) (by decide)) (g := (mkF m 94 #[.val (.int p0), .val (.int p1), .val (.int (p1 &&& (15 : Int32))), .val (.ref b99), .val (.int ((p0 &&& (65535 : Int32)).toUInt32.toUInt16.toUInt32.toInt32)), .val (.ref (u 9)), .unset] [(.int ((p0 &&& (65535 : Int32)).toUInt32.toUInt16.toUInt32.toInt32))])) rfl (by rw [hml]; rfl) (argsL := [(.int ((p0 &&& (65535 : Int32)).toUInt32.toUInt16.toUInt32.toInt32))]) (rest := []) (lenOf own_pd1 rfl) rfl (by show 2 * 0 + _ ≤ _; exact Nat.le_of_eq rfl) (hb hby at_94) (fun _ _ => ⟨rfl, e224, (by decide : 1 + 1 ≤ _), (by decide : 10 + 10 ≤ _)⟩)
                      dsimp only [Pt.U, Pt.locs, Pt.cells, Pt.slots] at X267 l267 y267 z267 st267 hQ267
                      subst l267 y267 z267
                      obtain ⟨hv267, N267q, E267⟩ := hQ267
                      have N267 := Fr.app N224 N267q
                      have O267 := O137.ext E267
                      have K267 := K137.ext E267
                      have f268 := V137.ext E267
                      obtain rfl : vr267 = some (.ref (u 9)) := hv267.trans (by unfold own_r2; rw [if_neg (fun q => hc225 (Eq.symm q)), if_neg (fun q => hc230 (Eq.symm q)), if_neg (fun q => hc235 (Eq.symm q)), if_neg (fun q => hc240 (Eq.symm q)), if_neg (fun q => hc245 (Eq.symm q)), if_neg (fun q => hc250 (Eq.symm q)), if_neg (fun q => hc255 (Eq.symm q)), if_neg (fun q => hc260 (Eq.symm q)), if_pos (Eq.symm hc265)])
                      obtain ⟨fs, hr, hrun, hended, hW, hsame⟩ := X267.leave (v := some (.int (1 : Int32))) (fun h => by rw [Bd.returns] at h; cases h)
                      refine ⟨_, _, pre266 _ ?_, hrun, hended, _, _, rfl, ?_, ⟨_, rfl⟩, hW, hsame.mono (by decide) (by decide)⟩
                      · show Steps p.tables e below (T224.setTop (mkF m 94 #[.val (.int p0), .val (.int p1), .val (.int (p1 &&& (15 : Int32))), .val (.ref b99), .val (.int ((p0 &&& (65535 : Int32)).toUInt32.toUInt16.toUInt32.toInt32)), .val (.ref (u 9)), .unset] [(.int ((p0 &&& (65535 : Int32)).toUInt32.toUInt16.toUInt32.toInt32))])) _
                        refine st267 _ ?_
                        show Steps p.tables e below (T267.setTop (mkF m 97 #[.val (.int p0), .val (.int p1), .val (.int (p1 &&& (15 : Int32))), .val (.ref b99), .val (.int ((p0 &&& (65535 : Int32)).toUInt32.toUInt16.toUInt32.toInt32)), .val (.ref (u 9)), .unset] [(.ref (u 9))])) _
                        refine XS.astore X267.here hx rfl (hb hby at_97) rfl rfl (l' := #[.val (.int p0), .val (.int p1), .val (.int (p1 &&& (15 : Int32))), .val (.ref b99), .val (.int ((p0 &&& (65535 : Int32)).toUInt32.toUInt16.toUInt32.toInt32)), .val (.ref (u 9)), .val (.ref (u 9))]) rfl ?_
                        show Steps p.tables e below (T267.setTop (mkF m 99 #[.val (.int p0), .val (.int p1), .val (.int (p1 &&& (15 : Int32))), .val (.ref b99), .val (.int ((p0 &&& (65535 : Int32)).toUInt32.toUInt16.toUInt32.toInt32)), .val (.ref (u 9)), .val (.ref (u 9))] [])) _
                        refine XS.aload X267.here hx rfl (hb hby at_99) rfl rfl ?_
                        show Steps p.tables e below (T267.setTop (mkF m 101 #[.val (.int p0), .val (.int p1), .val (.int (p1 &&& (15 : Int32))), .val (.ref b99), .val (.int ((p0 &&& (65535 : Int32)).toUInt32.toUInt16.toUInt32.toInt32)), .val (.ref (u 9)), .val (.ref (u 9))] [(.ref (u 9))])) _
                        refine XS.aload X267.here hx rfl (hb hby at_101) rfl rfl ?_
                        show Steps p.tables e below (T267.setTop (mkF m 103 #[.val (.int p0), .val (.int p1), .val (.int (p1 &&& (15 : Int32))), .val (.ref b99), .val (.int ((p0 &&& (65535 : Int32)).toUInt32.toUInt16.toUInt32.toInt32)), .val (.ref (u 9)), .val (.ref (u 9))] [(.ref (u 9)), (.ref (u 9))])) _
                        refine Jvm.RoadKit.acmp (g := (mkF m 103 #[.val (.int p0), .val (.int p1), .val (.int (p1 &&& (15 : Int32))), .val (.ref b99), .val (.int ((p0 &&& (65535 : Int32)).toUInt32.toUInt16.toUInt32.toInt32)), .val (.ref (u 9)), .val (.ref (u 9))] [(.ref (u 9)), (.ref (u 9))])) X267 hx rfl rfl rfl (pc0 := 103) (pc' := 106) (same := true) rfl (hb hby at_103) rfl (decide_eq_true rfl) (by decide) (by decide) ?_
                        show Steps p.tables e below (T267.setTop (mkF m 106 #[.val (.int p0), .val (.int p1), .val (.int (p1 &&& (15 : Int32))), .val (.ref b99), .val (.int ((p0 &&& (65535 : Int32)).toUInt32.toUInt16.toUInt32.toInt32)), .val (.ref (u 9)), .val (.ref (u 9))] [])) _
                        refine XS.iconst X267.here hx rfl (hb hby at_106) ?_
                        show Steps p.tables e below (T267.setTop (mkF m 107 #[.val (.int p0), .val (.int p1), .val (.int (p1 &&& (15 : Int32))), .val (.ref b99), .val (.int ((p0 &&& (65535 : Int32)).toUInt32.toUInt16.toUInt32.toInt32)), .val (.ref (u 9)), .val (.ref (u 9))] [(.int (1 : Int32))])) _
                        refine XS.goto X267.here hx rfl (pc0 := 107) (pc' := 111) rfl (hb hby at_107) (by decide) (by decide) ?_
                        show Steps p.tables e below (T267.setTop (mkF m 111 #[.val (.int p0), .val (.int p1), .val (.int (p1 &&& (15 : Int32))), .val (.ref b99), .val (.int ((p0 &&& (65535 : Int32)).toUInt32.toUInt16.toUInt32.toInt32)), .val (.ref (u 9)), .val (.ref (u 9))] [(.int (1 : Int32))])) _
                        exact retN X267 hx (t := .boolean) Bd.returns (by simp) (hb hby at_111) hr
                      · show own_Q0 Z u p0 p1 h0 n0 _ T267.heap _
                        exact ⟨rfl, N267, trivial⟩
                    · --
                      by_cases hc270 : ((p0 &&& (65535 : Int32)).toUInt32.toUInt16.toUInt32.toInt32) = (75 : Int32)
                      · --
                        obtain rfl : vr224 = some (.ref (u 10)) := hv224.trans (by unfold own_r1; rw [if_neg hc225, if_neg hc230, if_neg hc235, if_neg hc240, if_neg hc245, if_neg hc250, if_neg hc255, if_neg hc260, if_neg hc265, if_pos hc270])
                        have pre271 : ∀ t, Steps p.tables e below (T224.setTop (mkF m 94 #[.val (.int p0), .val (.int p1), .val (.int (p1 &&& (15 : Int32))), .val (.ref b99), .val (.int ((p0 &&& (65535 : Int32)).toUInt32.toUInt16.toUInt32.toInt32)), .val (.ref (u 10)), .unset] [(.int ((p0 &&& (65535 : Int32)).toUInt32.toUInt16.toUInt32.toInt32))])) t → Steps p.tables e below (s₁.setTop (entryFrame m #[(.int p0), (.int p1)] maxLocals)) t := fun t kt => pre223 t (by
                          show Steps p.tables e below (T137.setTop (mkF m 87 #[.val (.int p0), .val (.int p1), .val (.int (p1 &&& (15 : Int32))), .val (.ref b99), .val (.int ((p0 &&& (65535 : Int32)).toUInt32.toUInt16.toUInt32.toInt32)), .unset, .unset] [(.int ((p0 &&& (65535 : Int32)).toUInt32.toUInt16.toUInt32.toInt32))])) _
                          refine st224 _ ?_
                          show Steps p.tables e below (T224.setTop (mkF m 90 #[.val (.int p0), .val (.int p1), .val (.int (p1 &&& (15 : Int32))), .val (.ref b99), .val (.int ((p0 &&& (65535 : Int32)).toUInt32.toUInt16.toUInt32.toInt32)), .unset, .unset] [(.ref (u 10))])) _
                          refine XS.astore X224.here hx rfl (hb hby at_90) rfl rfl (l' := #[.val (.int p0), .val (.int p1), .val (.int (p1 &&& (15 : Int32))), .val (.ref b99), .val (.int ((p0 &&& (65535 : Int32)).toUInt32.toUInt16.toUInt32.toInt32)), .val (.ref (u 10)), .unset]) rfl ?_
                          show Steps p.tables e below (T224.setTop (mkF m 92 #[.val (.int p0), .val (.int p1), .val (.int (p1 &&& (15 : Int32))), .val (.ref b99), .val (.int ((p0 &&& (65535 : Int32)).toUInt32.toUInt16.toUInt32.toInt32)), .val (.ref (u 10)), .unset] [])) _
                          refine XS.iload X224.here hx rfl (hb hby at_92) rfl ?_
                          exact kt)
                        obtain ⟨vr272, _, ⟨T272, L272, k272, n272⟩, -, X272, ⟨Lc272, hQ272, l272, y272, z272⟩, st272⟩ := Jvm.LawKit.callS X224 hx (y := (⟨"com/example/smazzata/smazzata/card/Rank", "fromCode", "(C)Lcom/example/smazzata/smazzata/card/Rank;"⟩ : MethodName)) hown (mvT hZ (hw _ (List.mem_of_getElem? (i := 8) rfl))) (mvT hZ (hw _ (List.mem_of_getElem? (i := 9) rfl))) (mvT hZ (hw _ (List.mem_of_getElem? (i := 6) rfl))) (mvT hZ (hw _ (List.mem_of_getElem? (i := 10) rfl))) (by decide) (backOf (W := 0) (rm2 l Z a0 hw [] u ((p0 &&& (65535 : Int32)).toUInt32.toUInt16.toUInt32.toInt32) B h137 n0 O137 ) hZ (hw _ (List.mem_of_getElem? (i := 10) rfl)) (hw _ (List.mem_of_getElem? (i := 6) rfl)) (by decide) (by decide)) (g := (mkF m 94 #[.val (.int p0), .val (.int p1), .val (.int (p1 &&& (15 : Int32))), .val (.ref b99), .val (.int ((p0 &&& (65535 : Int32)).toUInt32.toUInt16.toUInt32.toInt32)), .val (.ref (u 10)), .unset] [(.int ((p0 &&& (65535 : Int32)).toUInt32.toUInt16.toUInt32.toInt32))])) rfl (by rw [hml]; rfl) (argsL := [(.int ((p0 &&& (65535 : Int32)).toUInt32.toUInt16.toUInt32.toInt32))]) (rest := []) (lenOf own_pd1 rfl) rfl (by show 2 * 0 + _ ≤ _; exact Nat.le_of_eq rfl) (hb hby at_94) (fun _ _ => ⟨rfl, e224, (by decide : 1 + 1 ≤ _), (by decide : 10 + 10 ≤ _)⟩)
                        dsimp only [Pt.U, Pt.locs, Pt.cells, Pt.slots] at X272 l272 y272 z272 st272 hQ272
                        subst l272 y272 z272
                        obtain ⟨hv272, N272q, E272⟩ := hQ272
                        have N272 := Fr.app N224 N272q
                        have O272 := O137.ext E272
                        have K272 := K137.ext E272
                        have f273 := V137.ext E272
                        obtain rfl : vr272 = some (.ref (u 10)) := hv272.trans (by unfold own_r2; rw [if_neg (fun q => hc225 (Eq.symm q)), if_neg (fun q => hc230 (Eq.symm q)), if_neg (fun q => hc235 (Eq.symm q)), if_neg (fun q => hc240 (Eq.symm q)), if_neg (fun q => hc245 (Eq.symm q)), if_neg (fun q => hc250 (Eq.symm q)), if_neg (fun q => hc255 (Eq.symm q)), if_neg (fun q => hc260 (Eq.symm q)), if_neg (fun q => hc265 (Eq.symm q)), if_pos (Eq.symm hc270)])
                        obtain ⟨fs, hr, hrun, hended, hW, hsame⟩ := X272.leave (v := some (.int (1 : Int32))) (fun h => by rw [Bd.returns] at h; cases h)
                        refine ⟨_, _, pre271 _ ?_, hrun, hended, _, _, rfl, ?_, ⟨_, rfl⟩, hW, hsame.mono (by decide) (by decide)⟩
                        · show Steps p.tables e below (T224.setTop (mkF m 94 #[.val (.int p0), .val (.int p1), .val (.int (p1 &&& (15 : Int32))), .val (.ref b99), .val (.int ((p0 &&& (65535 : Int32)).toUInt32.toUInt16.toUInt32.toInt32)), .val (.ref (u 10)), .unset] [(.int ((p0 &&& (65535 : Int32)).toUInt32.toUInt16.toUInt32.toInt32))])) _
                          refine st272 _ ?_
                          show Steps p.tables e below (T272.setTop (mkF m 97 #[.val (.int p0), .val (.int p1), .val (.int (p1 &&& (15 : Int32))), .val (.ref b99), .val (.int ((p0 &&& (65535 : Int32)).toUInt32.toUInt16.toUInt32.toInt32)), .val (.ref (u 10)), .unset] [(.ref (u 10))])) _
                          refine XS.astore X272.here hx rfl (hb hby at_97) rfl rfl (l' := #[.val (.int p0), .val (.int p1), .val (.int (p1 &&& (15 : Int32))), .val (.ref b99), .val (.int ((p0 &&& (65535 : Int32)).toUInt32.toUInt16.toUInt32.toInt32)), .val (.ref (u 10)), .val (.ref (u 10))]) rfl ?_
                          show Steps p.tables e below (T272.setTop (mkF m 99 #[.val (.int p0), .val (.int p1), .val (.int (p1 &&& (15 : Int32))), .val (.ref b99), .val (.int ((p0 &&& (65535 : Int32)).toUInt32.toUInt16.toUInt32.toInt32)), .val (.ref (u 10)), .val (.ref (u 10))] [])) _
                          refine XS.aload X272.here hx rfl (hb hby at_99) rfl rfl ?_
                          show Steps p.tables e below (T272.setTop (mkF m 101 #[.val (.int p0), .val (.int p1), .val (.int (p1 &&& (15 : Int32))), .val (.ref b99), .val (.int ((p0 &&& (65535 : Int32)).toUInt32.toUInt16.toUInt32.toInt32)), .val (.ref (u 10)), .val (.ref (u 10))] [(.ref (u 10))])) _
                          refine XS.aload X272.here hx rfl (hb hby at_101) rfl rfl ?_
                          show Steps p.tables e below (T272.setTop (mkF m 103 #[.val (.int p0), .val (.int p1), .val (.int (p1 &&& (15 : Int32))), .val (.ref b99), .val (.int ((p0 &&& (65535 : Int32)).toUInt32.toUInt16.toUInt32.toInt32)), .val (.ref (u 10)), .val (.ref (u 10))] [(.ref (u 10)), (.ref (u 10))])) _
                          refine Jvm.RoadKit.acmp (g := (mkF m 103 #[.val (.int p0), .val (.int p1), .val (.int (p1 &&& (15 : Int32))), .val (.ref b99), .val (.int ((p0 &&& (65535 : Int32)).toUInt32.toUInt16.toUInt32.toInt32)), .val (.ref (u 10)), .val (.ref (u 10))] [(.ref (u 10)), (.ref (u 10))])) X272 hx rfl rfl rfl (pc0 := 103) (pc' := 106) (same := true) rfl (hb hby at_103) rfl (decide_eq_true rfl) (by decide) (by decide) ?_
                          show Steps p.tables e below (T272.setTop (mkF m 106 #[.val (.int p0), .val (.int p1), .val (.int (p1 &&& (15 : Int32))), .val (.ref b99), .val (.int ((p0 &&& (65535 : Int32)).toUInt32.toUInt16.toUInt32.toInt32)), .val (.ref (u 10)), .val (.ref (u 10))] [])) _
                          refine XS.iconst X272.here hx rfl (hb hby at_106) ?_
                          show Steps p.tables e below (T272.setTop (mkF m 107 #[.val (.int p0), .val (.int p1), .val (.int (p1 &&& (15 : Int32))), .val (.ref b99), .val (.int ((p0 &&& (65535 : Int32)).toUInt32.toUInt16.toUInt32.toInt32)), .val (.ref (u 10)), .val (.ref (u 10))] [(.int (1 : Int32))])) _
                          refine XS.goto X272.here hx rfl (pc0 := 107) (pc' := 111) rfl (hb hby at_107) (by decide) (by decide) ?_
                          show Steps p.tables e below (T272.setTop (mkF m 111 #[.val (.int p0), .val (.int p1), .val (.int (p1 &&& (15 : Int32))), .val (.ref b99), .val (.int ((p0 &&& (65535 : Int32)).toUInt32.toUInt16.toUInt32.toInt32)), .val (.ref (u 10)), .val (.ref (u 10))] [(.int (1 : Int32))])) _
                          exact retN X272 hx (t := .boolean) Bd.returns (by simp) (hb hby at_111) hr
                        · show own_Q0 Z u p0 p1 h0 n0 _ T272.heap _
                          exact ⟨rfl, N272, trivial⟩
                      · --
                        obtain rfl : vr224 = some .null := hv224.trans (by unfold own_r1; rw [if_neg hc225, if_neg hc230, if_neg hc235, if_neg hc240, if_neg hc245, if_neg hc250, if_neg hc255, if_neg hc260, if_neg hc265, if_neg hc270])
                        have pre275 : ∀ t, Steps p.tables e below (T224.setTop (mkF m 94 #[.val (.int p0), .val (.int p1), .val (.int (p1 &&& (15 : Int32))), .val (.ref b99), .val (.int ((p0 &&& (65535 : Int32)).toUInt32.toUInt16.toUInt32.toInt32)), .val .null, .unset] [(.int ((p0 &&& (65535 : Int32)).toUInt32.toUInt16.toUInt32.toInt32))])) t → Steps p.tables e below (s₁.setTop (entryFrame m #[(.int p0), (.int p1)] maxLocals)) t := fun t kt => pre223 t (by
                          show Steps p.tables e below (T137.setTop (mkF m 87 #[.val (.int p0), .val (.int p1), .val (.int (p1 &&& (15 : Int32))), .val (.ref b99), .val (.int ((p0 &&& (65535 : Int32)).toUInt32.toUInt16.toUInt32.toInt32)), .unset, .unset] [(.int ((p0 &&& (65535 : Int32)).toUInt32.toUInt16.toUInt32.toInt32))])) _
                          refine st224 _ ?_
                          show Steps p.tables e below (T224.setTop (mkF m 90 #[.val (.int p0), .val (.int p1), .val (.int (p1 &&& (15 : Int32))), .val (.ref b99), .val (.int ((p0 &&& (65535 : Int32)).toUInt32.toUInt16.toUInt32.toInt32)), .unset, .unset] [.null])) _
                          refine XS.astore X224.here hx rfl (hb hby at_90) rfl rfl (l' := #[.val (.int p0), .val (.int p1), .val (.int (p1 &&& (15 : Int32))), .val (.ref b99), .val (.int ((p0 &&& (65535 : Int32)).toUInt32.toUInt16.toUInt32.toInt32)), .val .null, .unset]) rfl ?_
                          show Steps p.tables e below (T224.setTop (mkF m 92 #[.val (.int p0), .val (.int p1), .val (.int (p1 &&& (15 : Int32))), .val (.ref b99), .val (.int ((p0 &&& (65535 : Int32)).toUInt32.toUInt16.toUInt32.toInt32)), .val .null, .unset] [])) _
                          refine XS.iload X224.here hx rfl (hb hby at_92) rfl ?_
                          exact kt)
                        obtain ⟨vr276, _, ⟨T276, L276, k276, n276⟩, -, X276, ⟨Lc276, hQ276, l276, y276, z276⟩, st276⟩ := Jvm.LawKit.callS X224 hx (y := (⟨"com/example/smazzata/smazzata/card/Rank", "fromCode", "(C)Lcom/example/smazzata/smazzata/card/Rank;"⟩ : MethodName)) hown (mvT hZ (hw _ (List.mem_of_getElem? (i := 8) rfl))) (mvT hZ (hw _ (List.mem_of_getElem? (i := 9) rfl))) (mvT hZ (hw _ (List.mem_of_getElem? (i := 6) rfl))) (mvT hZ (hw _ (List.mem_of_getElem? (i := 10) rfl))) (by decide) (backOf (W := 0) (rm2 l Z a0 hw [] u ((p0 &&& (65535 : Int32)).toUInt32.toUInt16.toUInt32.toInt32) B h137 n0 O137 ) hZ (hw _ (List.mem_of_getElem? (i := 10) rfl)) (hw _ (List.mem_of_getElem? (i := 6) rfl)) (by decide) (by decide)) (g := (mkF m 94 #[.val (.int p0), .val (.int p1), .val (.int (p1 &&& (15 : Int32))), .val (.ref b99), .val (.int ((p0 &&& (65535 : Int32)).toUInt32.toUInt16.toUInt32.toInt32)), .val .null, .unset] [(.int ((p0 &&& (65535 : Int32)).toUInt32.toUInt16.toUInt32.toInt32))])) rfl (by rw [hml]; rfl) (argsL := [(.int ((p0 &&& (65535 : Int32)).toUInt32.toUInt16.toUInt32.toInt32))]) (rest := []) (lenOf own_pd1 rfl) rfl (by show 2 * 0 + _ ≤ _; exact Nat.le_of_eq rfl) (hb hby at_94) (fun _ _ => ⟨rfl, e224, (by decide : 1 + 1 ≤ _), (by decide : 10 + 10 ≤ _)⟩)
                        dsimp only [Pt.U, Pt.locs, Pt.cells, Pt.slots] at X276 l276 y276 z276 st276 hQ276
                        subst l276 y276 z276
                        obtain ⟨hv276, N276q, E276⟩ := hQ276
                        have N276 := Fr.app N224 N276q
                        have O276 := O137.ext E276
                        have K276 := K137.ext E276
                        have f277 := V137.ext E276
                        obtain rfl : vr276 = some .null := hv276.trans (by unfold own_r2; rw [if_neg (fun q => hc225 (Eq.symm q)), if_neg (fun q => hc230 (Eq.symm q)), if_neg (fun q => hc235 (Eq.symm q)), if_neg (fun q => hc240 (Eq.symm q)), if_neg (fun q => hc245 (Eq.symm q)), if_neg (fun q => hc250 (Eq.symm q)), if_neg (fun q => hc255 (Eq.symm q)), if_neg (fun q => hc260 (Eq.symm q)), if_neg (fun q => hc265 (Eq.symm q)), if_neg (fun q => hc270 (Eq.symm q))])
                        obtain ⟨fs, hr, hrun, hended, hW, hsame⟩ := X276.leave (v := some (.int (1 : Int32))) (fun h => by rw [Bd.returns] at h; cases h)
                        refine ⟨_, _, pre275 _ ?_, hrun, hended, _, _, rfl, ?_, ⟨_, rfl⟩, hW, hsame.mono (by decide) (by decide)⟩
                        · show Steps p.tables e below (T224.setTop (mkF m 94 #[.val (.int p0), .val (.int p1), .val (.int (p1 &&& (15 : Int32))), .val (.ref b99), .val (.int ((p0 &&& (65535 : Int32)).toUInt32.toUInt16.toUInt32.toInt32)), .val .null, .unset] [(.int ((p0 &&& (65535 : Int32)).toUInt32.toUInt16.toUInt32.toInt32))])) _
                          refine st276 _ ?_
                          show Steps p.tables e below (T276.setTop (mkF m 97 #[.val (.int p0), .val (.int p1), .val (.int (p1 &&& (15 : Int32))), .val (.ref b99), .val (.int ((p0 &&& (65535 : Int32)).toUInt32.toUInt16.toUInt32.toInt32)), .val .null, .unset] [.null])) _
                          refine XS.astore X276.here hx rfl (hb hby at_97) rfl rfl (l' := #[.val (.int p0), .val (.int p1), .val (.int (p1 &&& (15 : Int32))), .val (.ref b99), .val (.int ((p0 &&& (65535 : Int32)).toUInt32.toUInt16.toUInt32.toInt32)), .val .null, .val .null]) rfl ?_
                          show Steps p.tables e below (T276.setTop (mkF m 99 #[.val (.int p0), .val (.int p1), .val (.int (p1 &&& (15 : Int32))), .val (.ref b99), .val (.int ((p0 &&& (65535 : Int32)).toUInt32.toUInt16.toUInt32.toInt32)), .val .null, .val .null] [])) _
                          refine XS.aload X276.here hx rfl (hb hby at_99) rfl rfl ?_
                          show Steps p.tables e below (T276.setTop (mkF m 101 #[.val (.int p0), .val (.int p1), .val (.int (p1 &&& (15 : Int32))), .val (.ref b99), .val (.int ((p0 &&& (65535 : Int32)).toUInt32.toUInt16.toUInt32.toInt32)), .val .null, .val .null] [.null])) _
                          refine XS.aload X276.here hx rfl (hb hby at_101) rfl rfl ?_
                          show Steps p.tables e below (T276.setTop (mkF m 103 #[.val (.int p0), .val (.int p1), .val (.int (p1 &&& (15 : Int32))), .val (.ref b99), .val (.int ((p0 &&& (65535 : Int32)).toUInt32.toUInt16.toUInt32.toInt32)), .val .null, .val .null] [.null, .null])) _
                          refine Jvm.RoadKit.acmp (g := (mkF m 103 #[.val (.int p0), .val (.int p1), .val (.int (p1 &&& (15 : Int32))), .val (.ref b99), .val (.int ((p0 &&& (65535 : Int32)).toUInt32.toUInt16.toUInt32.toInt32)), .val .null, .val .null] [.null, .null])) X276 hx rfl rfl rfl (pc0 := 103) (pc' := 106) (same := true) rfl (hb hby at_103) rfl (decide_eq_true rfl) (by decide) (by decide) ?_
                          show Steps p.tables e below (T276.setTop (mkF m 106 #[.val (.int p0), .val (.int p1), .val (.int (p1 &&& (15 : Int32))), .val (.ref b99), .val (.int ((p0 &&& (65535 : Int32)).toUInt32.toUInt16.toUInt32.toInt32)), .val .null, .val .null] [])) _
                          refine XS.iconst X276.here hx rfl (hb hby at_106) ?_
                          show Steps p.tables e below (T276.setTop (mkF m 107 #[.val (.int p0), .val (.int p1), .val (.int (p1 &&& (15 : Int32))), .val (.ref b99), .val (.int ((p0 &&& (65535 : Int32)).toUInt32.toUInt16.toUInt32.toInt32)), .val .null, .val .null] [(.int (1 : Int32))])) _
                          refine XS.goto X276.here hx rfl (pc0 := 107) (pc' := 111) rfl (hb hby at_107) (by decide) (by decide) ?_
                          show Steps p.tables e below (T276.setTop (mkF m 111 #[.val (.int p0), .val (.int p1), .val (.int (p1 &&& (15 : Int32))), .val (.ref b99), .val (.int ((p0 &&& (65535 : Int32)).toUInt32.toUInt16.toUInt32.toInt32)), .val .null, .val .null] [(.int (1 : Int32))])) _
                          exact retN X276 hx (t := .boolean) Bd.returns (by simp) (hb hby at_111) hr
                        · show own_Q0 Z u p0 p1 h0 n0 _ T276.heap _
                          exact ⟨rfl, N276, trivial⟩
set_option maxRecDepth 65536 in
set_option maxHeartbeats 40000000 in
theorem comes_1 {Post : Tables → Env → Array Value → State → Outcome → State → Prop} (hpost : ∀ tb e args s v u, (limb_1_1.after args s (.returned v) u = true ∧ limb_1_2.after args s (.returned v) u = true ∧ True) → FrameEnd s (.returned v) u (Jvm.fieldLocs frame_1_writes args s ++ Jvm.arrayLocs frame_1_arrays args s ++ Jvm.staticLocs frame_1_statics s) 16 128 → Post tb e args s (.returned v) u) :
    ArmFor flags0 classFile x code maxLocals ret World_1 tables_1 room_1 Calls_1 rest_1 Pre_1 Post := by
  intro l hfl _ _ p e ha hc hk s m args below hf hA hF happ hP
  obtain ⟨hcalls, hrest, hpre⟩ := hP
  obtain ⟨-, -, -, hnamed, -, -, -, hat⟩ := (Spec.applies_iff hf).mp happ
  obtain ⟨hg, hn⟩ := and_e (Cond.before_iff.mp (show (Jvm.Cond.and given_1 narrow_1).before args s = true from hpre))
  obtain ⟨g0, gr0⟩ := and_e hg
  obtain ⟨g1, gr1⟩ := and_e gr0
  have g2 := gr1
  obtain ⟨w0, w1, rfl⟩ : ∃ w0 w1 : Value, args = #[w0, w1] := by
    have hs : args.size = 2 := by simpa [Cond.value, given_1] using g0
    obtain ⟨L⟩ := args
    match L, hs with
    | [w0, w1], _ => exact ⟨w0, w1, rfl⟩
  have hw := fun d (hd : d ∈ tables_1) => atoms_spec (ws := Jvm.Cond.code x code maxLocals ret :: tables_1) hat d (List.mem_cons_of_mem _ hd)
  have hfit : Fit s := fun {y c} hc i hi => by
    obtain ⟨ha, rfl⟩ := Array.getElem?_eq_some_iff.mp hc
    have q := List.all_eq_true.mp ((Array.all_eq_true_iff_forall_mem.mp hF) _ (Array.getElem_mem ha)) i (List.mem_range.mpr hi)
    simpa [Array.getElem?_eq_getElem hi] using q
  obtain ⟨i0, ei0⟩ := is_v g1
  obtain rfl : w0 = (.int i0) := Option.some.inj ei0
  obtain ⟨i1, ei1⟩ := is_v g2
  obtain rfl : w1 = (.int i1) := Option.some.inj ei1
  obtain ⟨b0, hn0⟩ := and_e hn
  obtain ⟨b1, hn1⟩ := and_e hn0
  obtain ⟨b2, hn2⟩ := and_e hn1
  obtain ⟨b3, hn3⟩ := and_e hn2
  obtain ⟨b4, hn4⟩ := and_e hn3
  obtain ⟨b5, hn5⟩ := and_e hn4
  obtain ⟨b6, hn6⟩ := and_e hn5
  obtain ⟨b7, hn7⟩ := and_e hn6
  obtain ⟨b8, hn8⟩ := and_e hn7
  obtain ⟨b9, hn9⟩ := and_e hn8
  obtain ⟨b10, hn10⟩ := and_e hn9
  obtain ⟨b11, hn11⟩ := and_e hn10
  obtain ⟨b12, hn12⟩ := and_e hn11
  obtain ⟨b13, hn13⟩ := and_e hn12
  obtain ⟨b14, hn14⟩ := and_e hn13
  obtain ⟨b15, hn15⟩ := and_e hn14
  obtain ⟨b16, hn16⟩ := and_e hn15
  obtain ⟨b17, hn17⟩ := and_e hn16
  obtain ⟨b18, hn18⟩ := and_e hn17
  obtain ⟨b19, hn19⟩ := and_e hn18
  obtain ⟨b20, hn20⟩ := and_e hn19
  obtain ⟨b21, hn21⟩ := and_e hn20
  obtain ⟨b22, hn22⟩ := and_e hn21
  obtain ⟨b23, hn23⟩ := and_e hn22
  obtain ⟨b24, hn24⟩ := and_e hn23
  obtain ⟨b25, hn25⟩ := and_e hn24
  obtain ⟨b26, hn26⟩ := and_e hn25
  obtain ⟨b27, hn27⟩ := and_e hn26
  obtain ⟨b28, hn28⟩ := and_e hn27
  obtain ⟨b29, hn29⟩ := and_e hn28
  obtain ⟨b30, hn30⟩ := and_e hn29
  obtain ⟨b31, hn31⟩ := and_e hn30
  have b32 := hn31
  obtain ⟨x0, v0⟩ := exa_v b0
  obtain ⟨x1, v1⟩ := exa_v b2
  obtain ⟨x2, v2⟩ := exa_v b4
  obtain ⟨x3, v3⟩ := exa_v b6
  obtain ⟨x4, v4⟩ := exa_v b8
  obtain ⟨x5, v5⟩ := exa_v b11
  obtain ⟨x6, v6⟩ := exa_v b13
  obtain ⟨x7, v7⟩ := exa_v b15
  obtain ⟨x8, v8⟩ := exa_v b17
  obtain ⟨x9, v9⟩ := exa_v b19
  obtain ⟨x10, v10⟩ := exa_v b21
  obtain ⟨c1, A1⟩ := Arr.start v1 b1
  obtain ⟨l1, m1⟩ := own_len v1 A1.1 b3
  have B : own_Base s (fun i => ([x0, x1, x2, x3, x4, x5, x6, x7, x8, x9, x10] : List Addr).getD i 0) := ⟨Sta.start v0 (Or.inr ⟨(hw _ (List.mem_of_getElem? (i := 6) rfl)), (hw _ (List.mem_of_getElem? (i := 7) rfl))⟩),
    Exa.start v0 b0,
    Sta.start v1 (Or.inr ⟨(hw _ (List.mem_of_getElem? (i := 6) rfl)), (hw _ (List.mem_of_getElem? (i := 15) rfl))⟩),
    Exa.start v1 b2,
    Sta.start v2 (Or.inr ⟨(hw _ (List.mem_of_getElem? (i := 6) rfl)), (hw _ (List.mem_of_getElem? (i := 23) rfl))⟩),
    Exa.start v2 b4,
    Sta.start v3 (Or.inr ⟨(hw _ (List.mem_of_getElem? (i := 6) rfl)), (hw _ (List.mem_of_getElem? (i := 24) rfl))⟩),
    Exa.start v3 b6,
    Sta.start v4 (Or.inr ⟨(hw _ (List.mem_of_getElem? (i := 6) rfl)), (hw _ (List.mem_of_getElem? (i := 25) rfl))⟩),
    Exa.start v4 b8,
    Sta.start v5 (Or.inr ⟨(hw _ (List.mem_of_getElem? (i := 6) rfl)), (hw _ (List.mem_of_getElem? (i := 26) rfl))⟩),
    Exa.start v5 b11,
    Sta.start v6 (Or.inr ⟨(hw _ (List.mem_of_getElem? (i := 6) rfl)), (hw _ (List.mem_of_getElem? (i := 27) rfl))⟩),
    Exa.start v6 b13,
    Sta.start v7 (Or.inr ⟨(hw _ (List.mem_of_getElem? (i := 6) rfl)), (hw _ (List.mem_of_getElem? (i := 28) rfl))⟩),
    Exa.start v7 b15,
    Sta.start v8 (Or.inr ⟨(hw _ (List.mem_of_getElem? (i := 6) rfl)), (hw _ (List.mem_of_getElem? (i := 29) rfl))⟩),
    Exa.start v8 b17,
    Sta.start v9 (Or.inr ⟨(hw _ (List.mem_of_getElem? (i := 6) rfl)), (hw _ (List.mem_of_getElem? (i := 30) rfl))⟩),
    Exa.start v9 b19,
    Sta.start v10 (Or.inr ⟨(hw _ (List.mem_of_getElem? (i := 6) rfl)), (hw _ (List.mem_of_getElem? (i := 31) rfl))⟩),
    Exa.start v10 b21,
    own_fld v0 b26 rfl,
    ⟨_, Arv.start hfit A1 l1 m1 (by decide) rfl ⟨own_elem v1 A1.1 b5 v2, own_elem v1 A1.1 b7 v3, own_elem v1 A1.1 b9 v4, own_elem v1 A1.1 b10 v0, own_elem v1 A1.1 b12 v5, own_elem v1 A1.1 b14 v6, own_elem v1 A1.1 b16 v7, own_elem v1 A1.1 b18 v8, own_elem v1 A1.1 b20 v9, own_elem v1 A1.1 b22 v10, trivial⟩⟩,
    own_fld v2 b23 rfl,
    own_fld v3 b24 rfl,
    own_fld v4 b25 rfl,
    own_fld v5 b27 rfl,
    own_fld v6 b28 rfl,
    own_fld v7 b29 rfl,
    own_fld v8 b30 rfl,
    own_fld v9 b31 rfl,
    own_fld v10 b32 rfl⟩
  obtain ⟨n, o, h1, h2, h3, _, L, rfl, ⟨rfl, N, -⟩, hq⟩ := rm0 l s _ hw tables_1 (fun i => ([x0, x1, x2, x3, x4, x5, x6, x7, x8, x9, x10] : List Addr).getD i 0) i0 i1 B s.heap s.heap.size (Old.start s)  p e ha hc hk s m _ below hf ((Spec.applies_iff_loose hf).mp happ).1 ⟨rfl, State.Warmed39.refl s, rfl⟩ trivial
  refine ⟨n, _, h1, h2, h3, hpost _ _ _ _ _ _ ⟨Cond.after_iff.mpr rfl, Cond.after_iff.mpr (eq_i res_at (Term.int_eval (1)) rfl), trivial⟩ ⟨hq.1, hq.2.1, (hq.2.2.sift fun y hy => Or.inr (N y hy)).mono (by decide) (by decide)⟩⟩
theorem main_1_1 : Claimed_1_1 := comes_1 fun _ _ _ _ _ _ h hF => ⟨h.1, hF⟩
theorem main_1_2 : Claimed_1_2 := comes_1 fun _ _ _ _ _ _ h hF => ⟨h.2.1, hF⟩
end Jvm.Pilot.@@N@@
namespace Jvm.Pilot.@@N@@
open Jvm Jvm.ClassFile Sem Op Lib Jvm.Free Jvm.Stand Jvm.Pilot.@@N@@.Jvm.D
/-! MADE BY PROGRAM (witnessworld.py) out of the Statement's table words and the real class files: 15 classes; the members and pool entries that the words name. The judged class is class 1, her method 1. -/
namespace start1
open Jvm.ClassFile
def u (s : String) : CpInfo := .utf8 (stringToUtf16 s)
/-- a pool by its gaps: so many unusable entries, then the entry; so many at the end -/
def gap : Nat → List CpInfo → List CpInfo
  | 0, r => r
  | n + 1, r => .unusable :: gap n r
def poolList (es : List (Nat × CpInfo)) (last : Nat) : List CpInfo := es.foldr (fun e r => gap e.1 (e.2 :: r)) (gap last [])
def pool (es : List (Nat × CpInfo)) (last : Nat) : Array CpInfo := ⟨poolList es last⟩
def fileOf (pool : Array CpInfo) (this : Nat) (attrs : Array Attribute := #[]) (ms : Array MethodInfo := #[]) (fl : Nat := 33) (sup : Nat := 0) (ifs : Array Nat := #[]) (fds : Array FieldInfo := #[]) : ClassFile where
  minorVersion := 0
  majorVersion := 65
  constantPool := pool
  accessFlags := fl
  thisClass := this
  superClass := sup
  interfaces := ifs
  fields := fds
  methods := ms
  attributes := attrs
def plain (name : String) (sup : Option ClassId) : Class where
  name := name
  kind := .ordinary
  loader := none
  accessFlags := 33
  super := sup
  interfaces := #[]
  cf := none
  fields := #[]
  methods := #[]
  instanceTypes := #[]
  staticTypes := #[]
  resolved := #[]
  callSites := []
  init := .initialized
  statics := none
  mirror := none

def pool0 : Array CpInfo := pool [(5, u "<init>"), (0, u "()V"), (1, .class_ 10), (1, u "java/lang/Object"), (85, u "clone"), (0, u "()Ljava/lang/Object;")] 26

def k0m0 : Method := { name := "<init>", desc := "()V", sig := { parameters := [], returnType := none }, accessFlags := 1, code := none }
def k0m1 : Method := { name := "clone", desc := "()Ljava/lang/Object;", sig := { parameters := [], returnType := some (.object "java/lang/Object") }, accessFlags := 260, code := none }
/-- java/lang/Object -/
def k0 : Class := { plain "java/lang/Object" none with
  accessFlags := 33
  interfaces := #[]
  cf := some (fileOf pool0 8 #[] #[{ accessFlags := 1, nameIndex := 5, descriptorIndex := 6, attributes := #[] }, { accessFlags := 260, nameIndex := 96, descriptorIndex := 97, attributes := #[] }] 33 0 #[] #[])
  fields := #[]
  methods := #[k0m0, k0m1]
  instanceTypes := #[]
  staticTypes := #[]
  resolved := Array.replicate 124 none
  statics := none }

def pool1 : Array CpInfo := pool [(2, .class_ 4), (1, u "java/lang/Object"), (0, u "<init>"), (0, u "()V"), (0, .integer 65535), (0, .methodref 9 10), (0, .class_ 11), (0, .nameAndType 12 13), (0, u "com/example/smazzata/smazzata/card/RankFromCodePinLaw"), (0, u "expectedRank"), (0, u "(C)Lcom/example/smazzata/smazzata/card/Rank;"), (0, .methodref 15 16), (0, .class_ 17), (0, .nameAndType 18 13), (0, u "com/example/smazzata/smazzata/card/Rank"), (0, u "fromCode"), (0, .fieldref 15 20), (0, .nameAndType 21 22), (0, u "ACE"), (0, u "Lcom/example/smazzata/smazzata/card/Rank;"), (0, .fieldref 15 24), (0, .nameAndType 25 22), (0, u "TWO"), (0, .fieldref 15 27), (0, .nameAndType 28 22), (0, u "THREE"), (0, .fieldref 15 30), (0, .nameAndType 31 22), (0, u "FOUR"), (0, .fieldref 15 33), (0, .nameAndType 34 22), (0, u "FIVE"), (0, .fieldref 15 36), (0, .nameAndType 37 22), (0, u "SIX"), (0, .fieldref 15 39), (0, .nameAndType 40 22), (0, u "SEVEN"), (0, .fieldref 15 42), (0, .nameAndType 43 22), (0, u "JACK"), (0, .fieldref 15 45), (0, .nameAndType 46 22), (0, u "QUEEN"), (0, .fieldref 15 48), (0, .nameAndType 49 22), (0, u "KING"), (2, u "law"), (0, u "(II)Z")] 5

def k1m0 : Method := { name := "<init>", desc := "()V", sig := { parameters := [], returnType := none }, accessFlags := 1, code := none }
def k1c1 : Code := { maxStack := 4, maxLocals := 7, code := code, exceptionTable := #[], attributes := #[] }
def k1m1 : Method := { name := "law", desc := "(II)Z", sig := { parameters := [.int, .int], returnType := some .boolean }, accessFlags := 9, code := some k1c1 }
def k1c2 : Code := { maxStack := 2, maxLocals := 1, code := method_3_code, exceptionTable := #[], attributes := #[] }
def k1m2 : Method := { name := "expectedRank", desc := "(C)Lcom/example/smazzata/smazzata/card/Rank;", sig := { parameters := [.char], returnType := some (.object "com/example/smazzata/smazzata/card/Rank") }, accessFlags := 10, code := some k1c2 }
/-- com/example/smazzata/smazzata/card/RankFromCodePinLaw -/
def k1 : Class := { plain "com/example/smazzata/smazzata/card/RankFromCodePinLaw" (some 0) with
  accessFlags := 49
  interfaces := #[]
  cf := some (fileOf pool1 9 #[] #[{ accessFlags := 1, nameIndex := 5, descriptorIndex := 6, attributes := #[] }, { accessFlags := 9, nameIndex := 52, descriptorIndex := 53, attributes := #[] }, { accessFlags := 10, nameIndex := 12, descriptorIndex := 13, attributes := #[] }] 49 2 #[] #[])
  fields := #[]
  methods := #[k1m0, k1m1, k1m2]
  instanceTypes := #[]
  staticTypes := #[]
  resolved := Array.replicate 59 none
  statics := none }

def pool2 : Array CpInfo := pool [(1, .class_ 2), (0, u "java/lang/constant/Constable"), (0, .class_ 4), (0, u "java/lang/Object")] 6

/-- java/lang/constant/Constable -/
def k2 : Class := { plain "java/lang/constant/Constable" (some 0) with
  accessFlags := 1537
  interfaces := #[]
  cf := some (fileOf pool2 1 #[] #[] 1537 3 #[] #[])
  fields := #[]
  methods := #[]
  instanceTypes := #[]
  staticTypes := #[]
  resolved := Array.replicate 11 none
  statics := none }

def pool3 : Array CpInfo := pool [(1, .class_ 2), (0, u "java/lang/Comparable"), (0, .class_ 4), (0, u "java/lang/Object")] 7

/-- java/lang/Comparable -/
def k3 : Class := { plain "java/lang/Comparable" (some 0) with
  accessFlags := 1537
  interfaces := #[]
  cf := some (fileOf pool3 1 #[] #[] 1537 3 #[] #[])
  fields := #[]
  methods := #[]
  instanceTypes := #[]
  staticTypes := #[]
  resolved := Array.replicate 12 none
  statics := none }

def pool4 : Array CpInfo := pool [(1, .class_ 2), (0, u "java/io/Serializable"), (0, .class_ 4), (0, u "java/lang/Object")] 2

/-- java/io/Serializable -/
def k4 : Class := { plain "java/io/Serializable" (some 0) with
  accessFlags := 1537
  interfaces := #[]
  cf := some (fileOf pool4 1 #[] #[] 1537 3 #[] #[])
  fields := #[]
  methods := #[]
  instanceTypes := #[]
  staticTypes := #[]
  resolved := Array.replicate 7 none
  statics := none }

def pool5 : Array CpInfo := pool [(2, .class_ 4), (1, u "java/lang/Enum"), (0, u "name"), (0, u "Ljava/lang/String;"), (2, u "ordinal"), (0, u "I"), (1, .class_ 14), (1, u "java/lang/Object"), (4, u "hash"), (86, .class_ 108), (1, u "java/lang/Enum$EnumDesc"), (2, .class_ 112), (0, u "java/lang/constant/Constable"), (0, .class_ 114), (0, u "java/lang/Comparable"), (0, .class_ 116), (0, u "java/io/Serializable")] 87

/-- java/lang/Enum -/
def k5 : Class := { plain "java/lang/Enum" (some 0) with
  accessFlags := 1057
  interfaces := #[2, 3, 4]
  cf := some (fileOf pool5 2 #[.nestMembers #[106]] #[] 1057 12 #[111, 113, 115] #[{ accessFlags := 18, nameIndex := 5, descriptorIndex := 6, attributes := #[] }, { accessFlags := 18, nameIndex := 9, descriptorIndex := 10, attributes := #[] }, { accessFlags := 2, nameIndex := 19, descriptorIndex := 10, attributes := #[] }])
  fields := #[{ name := "name", type := (.object "java/lang/String"), accessFlags := 18, slot := 0, constantValue := 0 }, { name := "ordinal", type := .int, accessFlags := 18, slot := 1, constantValue := 0 }, { name := "hash", type := .int, accessFlags := 2, slot := 2, constantValue := 0 }]
  methods := #[]
  instanceTypes := #[(.object "java/lang/String"), .int, .int]
  staticTypes := #[]
  resolved := Array.replicate 204 none
  statics := none }

def pool6 : Array CpInfo := pool [(1, .class_ 2), (0, u "com/example/smazzata/smazzata/card/Rank"), (2, u "ACE"), (0, u "Lcom/example/smazzata/smazzata/card/Rank;"), (2, u "TWO"), (2, u "THREE"), (2, u "FOUR"), (2, u "FIVE"), (2, u "SIX"), (2, u "SEVEN"), (2, u "JACK"), (2, u "QUEEN"), (2, u "KING"), (0, .fieldref 1 35), (0, .nameAndType 36 37), (0, u "$VALUES"), (0, u "[Lcom/example/smazzata/smazzata/card/Rank;"), (0, .methodref 39 40), (0, .class_ 37), (0, .nameAndType 41 42), (0, u "clone"), (0, u "()Ljava/lang/Object;"), (1, .class_ 46), (1, u "java/lang/Enum"), (6, .fieldref 1 54), (0, .nameAndType 55 56), (0, u "code"), (0, u "C"), (2, u "captureValue"), (0, u "I"), (0, .methodref 1 62), (0, .nameAndType 63 64), (0, u "values"), (0, u "()[Lcom/example/smazzata/smazzata/card/Rank;"), (24, u "fromCode"), (0, u "(C)Lcom/example/smazzata/smazzata/card/Rank;")] 6

def k6c0 : Code := { maxStack := 1, maxLocals := 0, code := prog_12_method_1_code, exceptionTable := #[], attributes := #[] }
def k6m0 : Method := { name := "values", desc := "()[Lcom/example/smazzata/smazzata/card/Rank;", sig := { parameters := [], returnType := some (.array (.object "com/example/smazzata/smazzata/card/Rank")) }, accessFlags := 9, code := some k6c0 }
def k6c1 : Code := { maxStack := 2, maxLocals := 5, code := prog_12_method_6_code, exceptionTable := #[], attributes := #[] }
def k6m1 : Method := { name := "fromCode", desc := "(C)Lcom/example/smazzata/smazzata/card/Rank;", sig := { parameters := [.char], returnType := some (.object "com/example/smazzata/smazzata/card/Rank") }, accessFlags := 8, code := some k6c1 }
/-- com/example/smazzata/smazzata/card/Rank -/
def k6 : Class := { plain "com/example/smazzata/smazzata/card/Rank" (some 5) with
  accessFlags := 16433
  interfaces := #[]
  cf := some (fileOf pool6 1 #[] #[{ accessFlags := 9, nameIndex := 63, descriptorIndex := 64, attributes := #[] }, { accessFlags := 8, nameIndex := 89, descriptorIndex := 90, attributes := #[] }] 16433 44 #[] #[{ accessFlags := 16409, nameIndex := 5, descriptorIndex := 6, attributes := #[] }, { accessFlags := 16409, nameIndex := 9, descriptorIndex := 6, attributes := #[] }, { accessFlags := 16409, nameIndex := 12, descriptorIndex := 6, attributes := #[] }, { accessFlags := 16409, nameIndex := 15, descriptorIndex := 6, attributes := #[] }, { accessFlags := 16409, nameIndex := 18, descriptorIndex := 6, attributes := #[] }, { accessFlags := 16409, nameIndex := 21, descriptorIndex := 6, attributes := #[] }, { accessFlags := 16409, nameIndex := 24, descriptorIndex := 6, attributes := #[] }, { accessFlags := 16409, nameIndex := 27, descriptorIndex := 6, attributes := #[] }, { accessFlags := 16409, nameIndex := 30, descriptorIndex := 6, attributes := #[] }, { accessFlags := 16409, nameIndex := 33, descriptorIndex := 6, attributes := #[] }, { accessFlags := 18, nameIndex := 55, descriptorIndex := 56, attributes := #[] }, { accessFlags := 18, nameIndex := 59, descriptorIndex := 60, attributes := #[] }, { accessFlags := 4122, nameIndex := 36, descriptorIndex := 37, attributes := #[] }])
  fields := #[{ name := "ACE", type := (.object "com/example/smazzata/smazzata/card/Rank"), accessFlags := 16409, slot := 0, constantValue := 0 }, { name := "TWO", type := (.object "com/example/smazzata/smazzata/card/Rank"), accessFlags := 16409, slot := 1, constantValue := 0 }, { name := "THREE", type := (.object "com/example/smazzata/smazzata/card/Rank"), accessFlags := 16409, slot := 2, constantValue := 0 }, { name := "FOUR", type := (.object "com/example/smazzata/smazzata/card/Rank"), accessFlags := 16409, slot := 3, constantValue := 0 }, { name := "FIVE", type := (.object "com/example/smazzata/smazzata/card/Rank"), accessFlags := 16409, slot := 4, constantValue := 0 }, { name := "SIX", type := (.object "com/example/smazzata/smazzata/card/Rank"), accessFlags := 16409, slot := 5, constantValue := 0 }, { name := "SEVEN", type := (.object "com/example/smazzata/smazzata/card/Rank"), accessFlags := 16409, slot := 6, constantValue := 0 }, { name := "JACK", type := (.object "com/example/smazzata/smazzata/card/Rank"), accessFlags := 16409, slot := 7, constantValue := 0 }, { name := "QUEEN", type := (.object "com/example/smazzata/smazzata/card/Rank"), accessFlags := 16409, slot := 8, constantValue := 0 }, { name := "KING", type := (.object "com/example/smazzata/smazzata/card/Rank"), accessFlags := 16409, slot := 9, constantValue := 0 }, { name := "code", type := .char, accessFlags := 18, slot := 3, constantValue := 0 }, { name := "captureValue", type := .int, accessFlags := 18, slot := 4, constantValue := 0 }, { name := "$VALUES", type := (.array (.object "com/example/smazzata/smazzata/card/Rank")), accessFlags := 4122, slot := 10, constantValue := 0 }]
  methods := #[k6m0, k6m1]
  instanceTypes := #[(.object "java/lang/String"), .int, .int, .char, .int]
  staticTypes := #[(.object "com/example/smazzata/smazzata/card/Rank"), (.object "com/example/smazzata/smazzata/card/Rank"), (.object "com/example/smazzata/smazzata/card/Rank"), (.object "com/example/smazzata/smazzata/card/Rank"), (.object "com/example/smazzata/smazzata/card/Rank"), (.object "com/example/smazzata/smazzata/card/Rank"), (.object "com/example/smazzata/smazzata/card/Rank"), (.object "com/example/smazzata/smazzata/card/Rank"), (.object "com/example/smazzata/smazzata/card/Rank"), (.object "com/example/smazzata/smazzata/card/Rank"), (.array (.object "com/example/smazzata/smazzata/card/Rank"))]
  resolved := Array.replicate 97 none
  statics := some 0 }

def pool7 : Array CpInfo := pool [(1, .class_ 2), (0, u "java/lang/Cloneable"), (0, .class_ 4), (0, u "java/lang/Object")] 2

/-- java/lang/Cloneable -/
def k7 : Class := { plain "java/lang/Cloneable" (some 0) with
  accessFlags := 1537
  interfaces := #[]
  cf := some (fileOf pool7 1 #[] #[] 1537 3 #[] #[])
  fields := #[]
  methods := #[]
  instanceTypes := #[]
  staticTypes := #[]
  resolved := Array.replicate 7 none
  statics := none }

/-- the primitive byte -/
def k8 : Class := { plain "byte" none with kind := .primitive 'B', accessFlags := 0x411 }
/-- [B -/
def k9 : Class := { plain "[B" (some 0) with kind := .array 8 .byte, interfaces := #[7, 4], accessFlags := 1041 }

/-- the primitive char -/
def k10 : Class := { plain "char" none with kind := .primitive 'C', accessFlags := 0x411 }
/-- [C -/
def k11 : Class := { plain "[C" (some 0) with kind := .array 10 .char, interfaces := #[7, 4], accessFlags := 1041 }

/-- the primitive int -/
def k12 : Class := { plain "int" none with kind := .primitive 'I', accessFlags := 0x411 }
/-- [I -/
def k13 : Class := { plain "[I" (some 0) with kind := .array 12 .int, interfaces := #[7, 4], accessFlags := 1041 }

/-- [Lcom/example/smazzata/smazzata/card/Rank; -/
def k14 : Class := { plain "[Lcom/example/smazzata/smazzata/card/Rank;" (some 0) with kind := .array 6 (.object "com/example/smazzata/smazzata/card/Rank"), interfaces := #[7, 4], accessFlags := 1041 }

def heap : Heap := #[{ cls := 6, slots := #[.ref 3, .ref 4, .ref 5, .ref 2, .ref 6, .ref 7, .ref 8, .ref 9, .ref 10, .ref 11, .ref 1], vm := .statics 6 },
  { cls := 14, slots := #[.ref 3, .ref 4, .ref 5, .ref 2, .ref 6, .ref 7, .ref 8, .ref 9, .ref 10, .ref 11], vm := .none },
  { cls := 6, slots := #[.null, .int 0, .int 0, .int (52), .int 0], vm := .none },
  { cls := 6, slots := #[.null, .int 0, .int 0, .int (65), .int 0], vm := .none },
  { cls := 6, slots := #[.null, .int 0, .int 0, .int (50), .int 0], vm := .none },
  { cls := 6, slots := #[.null, .int 0, .int 0, .int (51), .int 0], vm := .none },
  { cls := 6, slots := #[.null, .int 0, .int 0, .int (53), .int 0], vm := .none },
  { cls := 6, slots := #[.null, .int 0, .int 0, .int (54), .int 0], vm := .none },
  { cls := 6, slots := #[.null, .int 0, .int 0, .int (55), .int 0], vm := .none },
  { cls := 6, slots := #[.null, .int 0, .int 0, .int (74), .int 0], vm := .none },
  { cls := 6, slots := #[.null, .int 0, .int 0, .int (81), .int 0], vm := .none },
  { cls := 6, slots := #[.null, .int 0, .int 0, .int (75), .int 0], vm := .none }]
def classes : Array Class := #[k0, k1, k2, k3, k4, k5, k6, k7, k8, k9, k10, k11, k12, k13, k14]
def interned : List (Array UInt16 × Addr) := []
def slotsUsed : Nat := 71
def theMethod : MethodId := ⟨1, 1⟩
def args0 : Array Value := #[.int 5, .int 6]
def aboutOver (below : List Frame) : State where
  vm := { classes := classes, interned := interned.toArray }
  heap := heap
  slotsUsed := slotsUsed
  threads := #[{ frames := .invoking theMethod args0 :: below }]
def below0 : List Frame := [.native { method := ⟨0, 0⟩, args := #[] }]
def about1 : State := aboutOver below0
def p0 : Program := .bare "" "" ""
def e0 : Env := launch0.env 0 0 0
theorem w_frames : about1.frames = Frame.invoking theMethod args0 :: below0 := rfl
set_option maxRecDepth 65536 in
theorem w_args : argsFit about1.vm theMethod args0 = true := by decide +kernel
set_option maxRecDepth 65536 in
theorem w_heap : heapFits about1 = true := by decide +kernel
set_option maxRecDepth 65536 in
theorem w_runnable : about1.curStatus? = some .runnable := by decide +kernel
set_option maxRecDepth 65536 in
theorem w_alone : about1.alone = true := by decide +kernel
set_option maxRecDepth 65536 in
theorem w_named : about1.methodNamed? x = some theMethod := by decide +kernel
set_option maxRecDepth 65536 in
theorem w_hears : about1.hears theMethod below0 = true := by decide +kernel
set_option maxRecDepth 65536 in
theorem w_ripe : about1.ripe theMethod args0 below0 = true := by decide +kernel
theorem w_running : about1.status = .running := rfl
set_option maxRecDepth 65536 in
theorem w_room : about1.hasRoom e0.platform room_1 = true :=
  launch0.hasRoom_least _ room_1 (by decide +kernel) (by decide +kernel) (by decide +kernel) (by decide +kernel) (by decide +kernel) (by decide +kernel)
theorem allAtoms_all (ts : List Jvm.Cond) (a : Array Jvm.Value) (st : Jvm.State) : (allAtoms ts).before a st = ts.all (fun c => c.before a st) := by
  induction ts with
  | nil => rfl
  | cons c t ih =>
    show (Jvm.Cond.and c (allAtoms t)).before a st = _
    rw [Jvm.Cond.before_and, ih, List.all_cons]
def words1 : List Jvm.Cond := Jvm.Cond.code x code maxLocals ret :: tables_1
/-- a 'code' word, met by the world's own term for the bytes: nothing is compared byte by byte -/
theorem code_word {y : MethodName} {bytes : ByteArray} {mx : Nat} {rt : Option FieldType} {a : Array Value} {s : State} {m : MethodId} {meth : Method} {c : Code} (h1 : s.methodNamed? y = some m) (h2 : s.vm.method? m = some meth) (h3 : meth.code = some c) (h4 : c.code = bytes)
    (h5 : (c.maxLocals == mx && c.exceptionTable.isEmpty && decide (c.maxStack ≤ mostOperands) && decide (meth.sig.returnType = rt) && !meth.locks && decide (parseMethodDescriptor y.desc = some meth.sig)) = true) : (Jvm.Cond.code y bytes mx rt).before a s = true := by
  simp only [Bool.and_eq_true, beq_iff_eq, Bool.not_eq_true', decide_eq_true_eq] at h5
  obtain ⟨⟨⟨⟨⟨g1, g2⟩, g3⟩, g4⟩, g5⟩, g6⟩ := h5
  simp [Cond.before, Cond.holds, Cond.value, h1, h2, h3, h4, g1, g2, g3, g4, g5, g6]
def isCode : Jvm.Cond → Bool
  | .code _ _ _ _ => true
  | _ => false
theorem all_split {L : List Jvm.Cond} {P : Jvm.Cond → Bool} (h1 : L.all (fun c => isCode c || P c) = true) (h2 : ∀ c ∈ L.filter isCode, P c = true) : L.all P = true := by
  refine List.all_eq_true.mpr fun c hc => ?_
  have h := List.all_eq_true.mp h1 c hc
  rcases Bool.eq_false_or_eq_true (isCode c) with hi | hi
  · exact h2 c (List.mem_filter.mpr ⟨hc, hi⟩)
  · simpa [hi] using h
set_option maxRecDepth 65536 in
theorem w_c0 : (Jvm.Cond.code x code maxLocals ret).before args0 about1 = true := code_word (m := ⟨1, 1⟩) (meth := k1m1) (c := k1c1) (by decide +kernel) rfl rfl rfl (by decide +kernel)
set_option maxRecDepth 65536 in
theorem w_c1 : (Jvm.Cond.code ({ cls := "com/example/smazzata/smazzata/card/RankFromCodePinLaw", name := "expectedRank", desc := "(C)Lcom/example/smazzata/smazzata/card/Rank;" } : Jvm.MethodName) method_3_code (1 : Nat) (Option.some (Jvm.ClassFile.FieldType.object "com/example/smazzata/smazzata/card/Rank"))).before args0 about1 = true := code_word (m := ⟨1, 2⟩) (meth := k1m2) (c := k1c2) (by decide +kernel) rfl rfl rfl (by decide +kernel)
set_option maxRecDepth 65536 in
theorem w_c2 : (Jvm.Cond.code ({ cls := "com/example/smazzata/smazzata/card/Rank", name := "fromCode", desc := "(C)Lcom/example/smazzata/smazzata/card/Rank;" } : Jvm.MethodName) prog_12_method_6_code (5 : Nat) (Option.some (Jvm.ClassFile.FieldType.object "com/example/smazzata/smazzata/card/Rank"))).before args0 about1 = true := code_word (m := ⟨6, 1⟩) (meth := k6m1) (c := k6c1) (by decide +kernel) rfl rfl rfl (by decide +kernel)
set_option maxRecDepth 65536 in
theorem w_c3 : (Jvm.Cond.code ({ cls := "com/example/smazzata/smazzata/card/Rank", name := "values", desc := "()[Lcom/example/smazzata/smazzata/card/Rank;" } : Jvm.MethodName) prog_12_method_1_code (0 : Nat) (Option.some (Jvm.ClassFile.FieldType.array (Jvm.ClassFile.FieldType.object "com/example/smazzata/smazzata/card/Rank")))).before args0 about1 = true := code_word (m := ⟨6, 0⟩) (meth := k6m0) (c := k6c0) (by decide +kernel) rfl rfl rfl (by decide +kernel)
def codes1 : List Jvm.Cond := [Jvm.Cond.code x code maxLocals ret, Jvm.Cond.code ({ cls := "com/example/smazzata/smazzata/card/RankFromCodePinLaw", name := "expectedRank", desc := "(C)Lcom/example/smazzata/smazzata/card/Rank;" } : Jvm.MethodName) method_3_code (1 : Nat) (Option.some (Jvm.ClassFile.FieldType.object "com/example/smazzata/smazzata/card/Rank")), Jvm.Cond.code ({ cls := "com/example/smazzata/smazzata/card/Rank", name := "fromCode", desc := "(C)Lcom/example/smazzata/smazzata/card/Rank;" } : Jvm.MethodName) prog_12_method_6_code (5 : Nat) (Option.some (Jvm.ClassFile.FieldType.object "com/example/smazzata/smazzata/card/Rank")), Jvm.Cond.code ({ cls := "com/example/smazzata/smazzata/card/Rank", name := "values", desc := "()[Lcom/example/smazzata/smazzata/card/Rank;" } : Jvm.MethodName) prog_12_method_1_code (0 : Nat) (Option.some (Jvm.ClassFile.FieldType.array (Jvm.ClassFile.FieldType.object "com/example/smazzata/smazzata/card/Rank")))]
set_option maxRecDepth 65536 in
theorem codes_eq : words1.filter isCode = codes1 := rfl
theorem w_codes : ∀ c ∈ words1.filter isCode, c.before args0 about1 = true := by
  rw [codes_eq]
  intro c hc
  simp only [codes1, List.mem_cons, List.not_mem_nil, or_false] at hc
  rcases hc with rfl | rfl | rfl | rfl
  · exact w_c0
  · exact w_c1
  · exact w_c2
  · exact w_c3
set_option maxRecDepth 65536 in
theorem w_t1 : (words1.take 24).all (fun c => isCode c || c.before args0 about1) = true := by decide +kernel
set_option maxRecDepth 65536 in
theorem w_t2 : (words1.drop 24).all (fun c => isCode c || c.before args0 about1) = true := by decide +kernel
theorem w_tables : (allAtoms (Jvm.Cond.code x code maxLocals ret :: tables_1)).before args0 about1 = true := by
  rw [allAtoms_all]
  show words1.all (fun c => c.before args0 about1) = true
  refine all_split ?_ w_codes
  rw [← List.take_append_drop 24 words1, List.all_append, w_t1, w_t2]
  rfl
set_option maxRecDepth 65536 in
theorem w_case : (Jvm.Cond.and given_1 narrow_1).before args0 about1 = true := by decide +kernel
theorem w_applies : (headSpec (Jvm.Cond.code x code maxLocals ret :: tables_1) room_1).applies x e0.platform about1 = true :=
  (Spec.applies_iff w_frames).mpr ⟨w_running, w_runnable, w_alone, w_named, w_hears, w_ripe, w_room, w_tables⟩
theorem atStart : AtStart classFile x code maxLocals ret World_1 tables_1 room_1 Calls_1 rest_1 Pre_1 launch0 p0 e0 about1 theMethod args0 below0 :=
  ⟨lists_1, trivial, launch0.admits_env _ _ _, launch0.least_env, fairChoices_fair.cas, fairChoices_fair.clock, w_frames, w_args, w_heap, w_applies, trivial, trivial, w_case⟩
end start1
theorem witness_1 : WitnessClaimed_1 := ⟨start1.p0, start1.e0, start1.about1, start1.theMethod, start1.args0, start1.below0, start1.atStart⟩
end Jvm.Pilot.@@N@@
