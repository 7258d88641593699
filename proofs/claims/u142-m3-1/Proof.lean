import JvmDerived
import JvmDerived.Pilot.@@N@@Statement
import JvmDerived.Pilot.@@N@@Code
set_option linter.unusedVariables false
set_option linter.unusedSimpArgs false
namespace Jvm.RoadKit
open Sem ClassFile Op Lib Jvm.Stand Jvm.Free Jvm.LawKit
section New
variable {p : Program} {l : Launch} {e : Env} {R : Room} {s : State} {m : MethodId} {args : Array Value} {below : List Frame} {meth : Method} {c : Code} {T : State} {locs : List Loc} {cells slots : Nat}
theorem retI (X : Stand p l e R s m args below meth c T locs cells slots) (hx : p.tables.exec = Jvm.exec) {pc : Nat} {Ls : Array Slot} {z : Int32} {rest : List Value} (hret : meth.sig.returnType = some .int) (hd : decode c.code pc = .ok (.ireturn, 1)) {fs : List Frame}
    (hl : ∀ (f : JFrame) (acts : List Action), f.method = m → f.locked = none → f.entered = [] → (doReturn e (T.setTop f) acts (some (.int z))).1 = T.setFrames fs) : Steps p.tables e below (T.setTop (mkF m pc Ls (.int z :: rest))) (T.setFrames fs) :=
  retOut X hx hret rfl (Or.inl ⟨rfl, Or.inl rfl, z, rfl⟩) hd hl
end New
end Jvm.RoadKit
namespace Jvm.Pilot.@@N@@
open Jvm Jvm.ClassFile Sem Op Lib Jvm.Free Jvm.Stand Jvm.LawKit Jvm.RoadKit Bundle Jvm.Pilot.@@N@@.Jvm.D
/-! small laws of this text's own -/
theorem own_eqv {args : Array Value} {first s : State} {o : Option Outcome} {idx : List Nat} {a b : Term} {v : Value} (h : (Jvm.Cond.eq a b).value args first o s idx = some true) (hb : b.eval args first o idx s = some v) : a.eval args first o idx s = some v := by
  cases ha : a.eval args first o idx s with
  | none => simp [Cond.value, ha] at h
  | some x => cases x <;> cases v <;> simp_all [Cond.value]
theorem own_fld {args : Array Value} {s : State} {t b : Term} {x : Addr} {C n d : String} {v : Value} (ht : t.eval args s none [] s = some (.ref x)) (h : (Jvm.Cond.eq (.field t C n d) b).value args s none s [] = some true) (hb : b.eval args s none [] s = some v) : Fld s s.heap x C n d v :=
  Fld.start ((fld_at ht).symm.trans (own_eqv h hb))
theorem own_len {args : Array Value} {s : State} {t : Term} {x : Addr} {c : Cell} {n : Int32} (ht : t.eval args s none [] s = some (.ref x)) (hc : s.heap[x]? = some c) (h : (Jvm.Cond.eq (.length t) (.int n)).value args s none s [] = some true) : c.slots.size < 2 ^ 31 ∧ c.slots.size.toInt32 = n := by
  have e := own_eqv h (v := .int n) rfl
  simp only [Term.eval, ht, Option.bind_eq_bind, Option.bind_some] at e
  cases hq : s.arrayAt? x with
  | none => simp [hq] at e
  | some c' =>
    have h1 := (State.arrayAt?_spec hq).1
    cases hc.symm.trans h1
    simp only [hq, Option.bind_some] at e
    split at e
    · rename_i hl; exact ⟨hl, by simpa using e⟩
    · cases e
theorem own_elem {args : Array Value} {s : State} {t b : Term} {x : Addr} {c : Cell} {j : Int32} {v : Value} (ht : t.eval args s none [] s = some (.ref x)) (hc : s.heap[x]? = some c) (h : (Jvm.Cond.eq (.elem t (.int j)) b).value args s none s [] = some true) (hb : b.eval args s none [] s = some v) : c.slots[j.toNatClampNeg]? = some v :=
  (elem_in (own_eqv h hb) ht rfl hc).2
theorem own_selpriv {y : MethodName} {s : State} {args : Array Value} {n : Nat} (hy : y.cls ≠ "java/lang/invoke/MethodHandle" ∧ y.cls ≠ "java/lang/invoke/VarHandle") (hins : (Jvm.Cond.instantiable y.cls n).before args s = true) (hpriv : (Jvm.Cond.privateMethod y).before args s = true) (hinst : (Jvm.Cond.instanceMethod y).before args s = true) : (Jvm.Cond.selects y.cls y y).before args s = true := by
  obtain ⟨c, k, hc, hk, -, hniab, -, -⟩ := Cond.instantiable_spec hins
  exact Stand.selects_self_of_private hc hk (Bool.or_eq_false_iff.mp hniab).1 (Cond.privateMethod_at hpriv) hinst hy
theorem own_ext {h0 h : Heap} (K : Keep h0 h []) : Ext h0 h := ⟨K.1, fun x c q => K.2.1 x c q (fun z => nomatch z)⟩
theorem own_cat1 {v : Value} (h : v.isRef = true) : v.category = 1 := by cases v <;> first | rfl | simp [Value.isRef] at h
theorem own_narref {t : FieldType} {v : Value} (h : t.isReference = true) (hv : v.isRef = true) : narrow t v = v := by
  cases v <;> first | (simp [Value.isRef] at hv; done) | (cases t <;> first | rfl | simp [FieldType.isReference] at h)
theorem own_store1 {l : Array Slot} {i : Nat} {v : Value} {o : Slot} (hold : l[i]? = some o) (ho : o = .unset ∨ ∃ w, o = .val w ∧ w.category = 1) (hv : v.category = 1) : storeLocals l i v = some (l.setIfInBounds i (.val v)) := XS.store1 hold ho hv
def own_Base (Z : State) (u : Nat → Addr) : Prop :=
  (Sta Z Z.heap "com/example/portcullis/portcullis/giop/ComponentTag" "$VALUES" "[Lcom/example/portcullis/portcullis/giop/ComponentTag;" (.ref (u 0))) ∧
  (Exa Z Z.heap (u 0) "[Lcom/example/portcullis/portcullis/giop/ComponentTag;") ∧
  (Sta Z Z.heap "com/example/portcullis/portcullis/giop/ComponentTag" "ORB_TYPE" "Lcom/example/portcullis/portcullis/giop/ComponentTag;" (.ref (u 1))) ∧
  (Exa Z Z.heap (u 1) "com/example/portcullis/portcullis/giop/ComponentTag") ∧
  (Sta Z Z.heap "com/example/portcullis/portcullis/giop/ComponentTag" "CODE_SETS" "Lcom/example/portcullis/portcullis/giop/ComponentTag;" (.ref (u 2))) ∧
  (Exa Z Z.heap (u 2) "com/example/portcullis/portcullis/giop/ComponentTag") ∧
  (Sta Z Z.heap "com/example/portcullis/portcullis/giop/ComponentTag" "POLICIES" "Lcom/example/portcullis/portcullis/giop/ComponentTag;" (.ref (u 3))) ∧
  (Exa Z Z.heap (u 3) "com/example/portcullis/portcullis/giop/ComponentTag") ∧
  (Sta Z Z.heap "com/example/portcullis/portcullis/giop/ComponentTag" "ALTERNATE_IIOP_ADDRESS" "Lcom/example/portcullis/portcullis/giop/ComponentTag;" (.ref (u 4))) ∧
  (Exa Z Z.heap (u 4) "com/example/portcullis/portcullis/giop/ComponentTag") ∧
  (Sta Z Z.heap "com/example/portcullis/portcullis/giop/ComponentTag" "CSI_SEC_MECH_LIST" "Lcom/example/portcullis/portcullis/giop/ComponentTag;" (.ref (u 5))) ∧
  (Exa Z Z.heap (u 5) "com/example/portcullis/portcullis/giop/ComponentTag") ∧
  (Sta Z Z.heap "com/example/portcullis/portcullis/giop/ComponentTag" "NULL_TAG" "Lcom/example/portcullis/portcullis/giop/ComponentTag;" (.ref (u 6))) ∧
  (Exa Z Z.heap (u 6) "com/example/portcullis/portcullis/giop/ComponentTag") ∧
  (Sta Z Z.heap "com/example/portcullis/portcullis/giop/ComponentTag" "SECIOP_SEC_TRANS" "Lcom/example/portcullis/portcullis/giop/ComponentTag;" (.ref (u 7))) ∧
  (Exa Z Z.heap (u 7) "com/example/portcullis/portcullis/giop/ComponentTag") ∧
  (Sta Z Z.heap "com/example/portcullis/portcullis/giop/ComponentTag" "TLS_SEC_TRANS" "Lcom/example/portcullis/portcullis/giop/ComponentTag;" (.ref (u 8))) ∧
  (Exa Z Z.heap (u 8) "com/example/portcullis/portcullis/giop/ComponentTag") ∧
  (Sta Z Z.heap "com/example/portcullis/portcullis/giop/ComponentTag" "PASSTHRU_TRANS" "Lcom/example/portcullis/portcullis/giop/ComponentTag;" (.ref (u 9))) ∧
  (Exa Z Z.heap (u 9) "com/example/portcullis/portcullis/giop/ComponentTag") ∧
  (Sta Z Z.heap "com/example/portcullis/portcullis/giop/ComponentTag" "FIREWALL_PATH" "Lcom/example/portcullis/portcullis/giop/ComponentTag;" (.ref (u 10))) ∧
  (Exa Z Z.heap (u 10) "com/example/portcullis/portcullis/giop/ComponentTag") ∧
  (Sta Z Z.heap "com/example/portcullis/portcullis/giop/ComponentTag" "IIOP_SEC_TRANS" "Lcom/example/portcullis/portcullis/giop/ComponentTag;" (.ref (u 11))) ∧
  (Exa Z Z.heap (u 11) "com/example/portcullis/portcullis/giop/ComponentTag") ∧
  (∃ k, Arv Z Z.heap (u 0) k (.object "com/example/portcullis/portcullis/giop/ComponentTag") (11 : Int32) [.ref (u 1), .ref (u 2), .ref (u 3), .ref (u 4), .ref (u 5), .ref (u 6), .ref (u 7), .ref (u 8), .ref (u 9), .ref (u 10), .ref (u 11)] .null) ∧
  (Fld Z Z.heap (u 1) "com/example/portcullis/portcullis/giop/ComponentTag" "code" "I" (.int (0 : Int32))) ∧
  (Fld Z Z.heap (u 2) "com/example/portcullis/portcullis/giop/ComponentTag" "code" "I" (.int (1 : Int32))) ∧
  (Fld Z Z.heap (u 3) "com/example/portcullis/portcullis/giop/ComponentTag" "code" "I" (.int (2 : Int32))) ∧
  (Fld Z Z.heap (u 4) "com/example/portcullis/portcullis/giop/ComponentTag" "code" "I" (.int (3 : Int32))) ∧
  (Fld Z Z.heap (u 5) "com/example/portcullis/portcullis/giop/ComponentTag" "code" "I" (.int (33 : Int32))) ∧
  (Fld Z Z.heap (u 6) "com/example/portcullis/portcullis/giop/ComponentTag" "code" "I" (.int (34 : Int32))) ∧
  (Fld Z Z.heap (u 7) "com/example/portcullis/portcullis/giop/ComponentTag" "code" "I" (.int (35 : Int32))) ∧
  (Fld Z Z.heap (u 8) "com/example/portcullis/portcullis/giop/ComponentTag" "code" "I" (.int (36 : Int32))) ∧
  (Fld Z Z.heap (u 9) "com/example/portcullis/portcullis/giop/ComponentTag" "code" "I" (.int (41 : Int32))) ∧
  (Fld Z Z.heap (u 10) "com/example/portcullis/portcullis/giop/ComponentTag" "code" "I" (.int (42 : Int32))) ∧
  (Fld Z Z.heap (u 11) "com/example/portcullis/portcullis/giop/ComponentTag" "code" "I" (.int (43 : Int32)))
theorem own_pd0 : parseMethodDescriptor "()[Lcom/example/portcullis/portcullis/giop/ComponentTag;" = some ⟨[], some (.array (.object "com/example/portcullis/portcullis/giop/ComponentTag"))⟩ := by decide +kernel
theorem own_pd1 : parseMethodDescriptor "(I)Lcom/example/portcullis/portcullis/giop/ComponentTag;" = some ⟨[.int], some (.object "com/example/portcullis/portcullis/giop/ComponentTag")⟩ := by decide +kernel
theorem own_pd2 : parseMethodDescriptor "()I" = some ⟨[], some .int⟩ := by decide +kernel
theorem d2_0 : decode prog_6_method_1_code 0 = .ok (.getstatic 37, 3) := by decide +kernel
theorem d2_3 : decode prog_6_method_1_code 3 = .ok (.invokevirtual 41, 3) := by decide +kernel
theorem d2_6 : decode prog_6_method_1_code 6 = .ok (.checkcast 42, 3) := by decide +kernel
theorem d2_9 : decode prog_6_method_1_code 9 = .ok (.areturn, 1) := by decide +kernel
theorem own_pn_2 : plainName "com/example/portcullis/portcullis/giop/ComponentTag" = true := by first | (simp [plainName, overriddenIn]; done) | decide +kernel
theorem own_ef_2 (m : MethodId)  : entryFrame m #[] 0 = mkF m 0 #[] [] := by first | (simp [entryFrame, mkF, argsToLocals, Value.category]; done) | rfl
def own_Q2 (Z : State) (u : Nat → Addr)  (h0 : Heap) (n0 : Nat) (v : Option Value) (h : Heap) (L : List Loc) : Prop := ∃ b : Addr, v = some (.ref b) ∧ Fr n0 L ∧ Ext h0 h ∧ n0 ≤ b ∧ h0.size ≤ b ∧ ∃ k, Arv Z h b k (.object "com/example/portcullis/portcullis/giop/ComponentTag") (11 : Int32) [.ref (u 1), .ref (u 2), .ref (u 3), .ref (u 4), .ref (u 5), .ref (u 6), .ref (u 7), .ref (u 8), .ref (u 9), .ref (u 10), .ref (u 11)] .null
set_option maxRecDepth 65536 in
set_option maxHeartbeats 40000000 in
theorem rm2 (l : Launch) (Z : State) (a0 : Array Value) (hw : ∀ d ∈ tables_1, d.before a0 Z = true) (ws : List Jvm.Cond) (u : Nat → Addr)  (B : own_Base Z u) (h0 : Heap) (n0 : Nat) (O : Old Z n0 h0) :
    MetFree l (⟨"com/example/portcullis/portcullis/giop/ComponentTag", "values", "()[Lcom/example/portcullis/portcullis/giop/ComponentTag;"⟩ : MethodName) (head1 (Jvm.Cond.code (⟨"com/example/portcullis/portcullis/giop/ComponentTag", "values", "()[Lcom/example/portcullis/portcullis/giop/ComponentTag;"⟩ : MethodName) prog_6_method_1_code 0 (some (.array (.object "com/example/portcullis/portcullis/giop/ComponentTag"))) :: ws) ({ frames := 1, cells := 1, slots := 11, locals := 14 } : Room)) (fun a U => a = #[] ∧ Z.Warmed39 U.vm ∧ U.heap = h0) (fun _ _ _ _ _ => True) (fun _ U o U' => ∃ v L, o = .returned v ∧ own_Q2 Z u  h0 n0 v U'.heap L ∧ FrameEnd U o U' L ({ frames := 1, cells := 1, slots := 11, locals := 14 } : Room).cells ({ frames := 1, cells := 1, slots := 11, locals := 14 } : Room).slots) := by
  refine MetFree.of_bodySF (plainFor_of_name own_pn_2) hisR ?_
  intro p e s m args below meth c s₁ Bd hml0 hP hK
  obtain ⟨rfl, hZ, hh⟩ := hP
  have hx := Bd.exec
  have hby := Bd.bytes
  have hml : c.maxLocals = 0 := hml0
  have hown : s.vm.findClass "com/example/portcullis/portcullis/giop/ComponentTag" = some m.cls := findClass_of_methodNamed Bd.named
  have hnm := (name_of_methodNamed Bd.named Bd.method).1
  have X0 : Stand p l e ({ frames := 1, cells := 1, slots := 11, locals := 14 } : Room) s m #[] below meth c s₁ [] 0 0 := Stand.of_body Bd
  have e0 : s₁.heap = h0 := by rw [← hh, Bd.state]; rfl
  have N0 := Fr.nil n0
  have K0 := Keep.refl h0 []
  have Z0 : n0 ≤ h0.size := O.1 ▸ O.2.1
  have pre0 : ∀ t, Steps p.tables e below (s₁.setTop (mkF m 0 #[] [])) t → Steps p.tables e below (s₁.setTop (entryFrame m #[] 0)) t := fun t k => castTop (own_ef_2 m ) k
  obtain ⟨T1, X1, e1, st1⟩ := getS2 X0 hx hZ hown (host := "") (Or.inl (hw _ (List.mem_of_getElem? (i := 7) rfl))) Via.refl e0 (B.1.ext O.2) (g := (mkF m 0 #[] [])) rfl (hb hby d2_0)
  obtain ⟨kA0, VA0⟩ := id B.2.2.2.2.2.2.2.2.2.2.2.2.2.2.2.2.2.2.2.2.2.2.2.2.1
  obtain ⟨T2, h2, X2, e2, E2, A2, G2, st2⟩ := cloneH X1 hx hZ hown (hw _ (List.mem_of_getElem? (i := 9) rfl)) (hw _ (List.mem_of_getElem? (i := 10) rfl)) (hw _ (List.mem_of_getElem? (i := 14) rfl)) (hw _ (List.mem_of_getElem? (i := 12) rfl)) (hw _ (List.mem_of_getElem? (i := 13) rfl)) (hw _ (List.mem_of_getElem? (i := 15) rfl)) e1 (Arv.arh (VA0.ext O.2)) (B.2.1.ext O.2) (g := (mkF m 3 #[] [(.ref (u 0))])) rfl (by rw [hml]; rfl) rfl (hb hby d2_3) (by decide) (W := 0) (cap := 11) (by show 2 * 0 + _ ≤ _; exact Nat.le_of_eq rfl) (by decide) (by decide) (by decide) (by decide)
  obtain ⟨b2, g2⟩ : ∃ z, z = h0.size := ⟨_, rfl⟩
  rw [← g2] at A2 G2 st2
  have gx_b2 : n0 ≤ b2 := Nat.le_trans (O.1 ▸ O.2.1) (Nat.le_of_eq g2.symm)
  have sz_b2 : h0.size ≤ b2 := Nat.le_trans K0.1 (Nat.le_of_eq g2.symm)
  have O2 := O.ext E2
  have K2 := K0.ext E2
  have V_b2 : Arv Z h2 b2 kA0 (.object "com/example/portcullis/portcullis/giop/ComponentTag") (11 : Int32) [.ref (u 1), .ref (u 2), .ref (u 3), .ref (u 4), .ref (u 5), .ref (u 6), .ref (u 7), .ref (u 8), .ref (u 9), .ref (u 10), .ref (u 11)] .null := A2
  obtain ⟨T3, X3, e3, st3⟩ := castY X2 hx hZ hown (hw _ (List.mem_of_getElem? (i := 28) rfl)) e2 (Ins.self G2) (g := (mkF m 6 #[] [(.ref b2)])) rfl rfl (hb hby d2_6)
  obtain ⟨fs, hr, hrun, hended, hW, hsame⟩ := X3.leave (v := some (.ref b2)) (fun h => by rw [Bd.returns] at h; cases h)
  refine ⟨_, _, pre0 _ ?_, hrun, hended, _, _, rfl, ?_, ⟨_, rfl⟩, hW, hsame.mono (by decide) (by decide)⟩
  · show Steps p.tables e below (s₁.setTop (mkF m 0 #[] [])) _
    refine st1 _ ?_
    show Steps p.tables e below (T1.setTop (mkF m 3 #[] [(.ref (u 0))])) _
    refine st2 _ ?_
    show Steps p.tables e below (T2.setTop (mkF m 6 #[] [(.ref b2)])) _
    refine st3 _ ?_
    show Steps p.tables e below (T3.setTop (mkF m 9 #[] [(.ref b2)])) _
    exact retOut X3 hx Bd.returns (own_narref rfl rfl) (Or.inr (Or.inr (Or.inr (Or.inr ⟨rfl, rfl, rfl⟩)))) (hb hby d2_9) hr
  · show own_Q2 Z u  h0 n0 _ T3.heap _
    rw [e3]
    exact ⟨b2, rfl, N0, own_ext K2, gx_b2, sz_b2, _, V_b2⟩
theorem d1_0 : decode prog_6_method_6_code 0 = .ok (.invokestatic 64, 3) := by decide +kernel
theorem d1_3 : decode prog_6_method_6_code 3 = .ok (.astore_n 1, 1) := by decide +kernel
theorem d1_4 : decode prog_6_method_6_code 4 = .ok (.aload_n 1, 1) := by decide +kernel
theorem d1_5 : decode prog_6_method_6_code 5 = .ok (.arraylength, 1) := by decide +kernel
theorem d1_6 : decode prog_6_method_6_code 6 = .ok (.istore_n 2, 1) := by decide +kernel
theorem d1_7 : decode prog_6_method_6_code 7 = .ok (.iconst 0, 1) := by decide +kernel
theorem d1_8 : decode prog_6_method_6_code 8 = .ok (.istore_n 3, 1) := by decide +kernel
theorem d1_9 : decode prog_6_method_6_code 9 = .ok (.iload_n 3, 1) := by decide +kernel
theorem d1_10 : decode prog_6_method_6_code 10 = .ok (.iload_n 2, 1) := by decide +kernel
theorem d1_11 : decode prog_6_method_6_code 11 = .ok (.if_icmp .ge 26, 3) := by decide +kernel
theorem d1_14 : decode prog_6_method_6_code 14 = .ok (.aload_n 1, 1) := by decide +kernel
theorem d1_15 : decode prog_6_method_6_code 15 = .ok (.iload_n 3, 1) := by decide +kernel
theorem d1_16 : decode prog_6_method_6_code 16 = .ok (.aaload, 1) := by decide +kernel
theorem d1_17 : decode prog_6_method_6_code 17 = .ok (.astore 4, 2) := by decide +kernel
theorem d1_19 : decode prog_6_method_6_code 19 = .ok (.aload 4, 2) := by decide +kernel
theorem d1_21 : decode prog_6_method_6_code 21 = .ok (.getfield 56, 3) := by decide +kernel
theorem d1_24 : decode prog_6_method_6_code 24 = .ok (.iload_n 0, 1) := by decide +kernel
theorem d1_25 : decode prog_6_method_6_code 25 = .ok (.if_icmp .ne 6, 3) := by decide +kernel
theorem d1_28 : decode prog_6_method_6_code 28 = .ok (.aload 4, 2) := by decide +kernel
theorem d1_30 : decode prog_6_method_6_code 30 = .ok (.areturn, 1) := by decide +kernel
theorem d1_31 : decode prog_6_method_6_code 31 = .ok (.iinc 3 1, 3) := by decide +kernel
theorem d1_34 : decode prog_6_method_6_code 34 = .ok (.goto (-25), 3) := by decide +kernel
theorem d1_37 : decode prog_6_method_6_code 37 = .ok (.aconst_null, 1) := by decide +kernel
theorem d1_38 : decode prog_6_method_6_code 38 = .ok (.areturn, 1) := by decide +kernel
theorem own_pn_1 : plainName "com/example/portcullis/portcullis/giop/ComponentTag" = true := by first | (simp [plainName, overriddenIn]; done) | decide +kernel
theorem own_ef_1 (m : MethodId) (x0 : Int32) : entryFrame m #[(.int x0)] 5 = mkF m 0 #[.val (.int x0), .unset, .unset, .unset, .unset] [] := by first | (simp [entryFrame, mkF, argsToLocals, Value.category]; done) | rfl
def own_r1 (u : Nat → Addr) (p0 : Int32) : Value :=
  if (0 : Int32) = p0 then
    (.ref (u 1))
  else
    if (1 : Int32) = p0 then
      (.ref (u 2))
    else
      if (2 : Int32) = p0 then
        (.ref (u 3))
      else
        if (3 : Int32) = p0 then
          (.ref (u 4))
        else
          if (33 : Int32) = p0 then
            (.ref (u 5))
          else
            if (34 : Int32) = p0 then
              (.ref (u 6))
            else
              if (35 : Int32) = p0 then
                (.ref (u 7))
              else
                if (36 : Int32) = p0 then
                  (.ref (u 8))
                else
                  if (41 : Int32) = p0 then
                    (.ref (u 9))
                  else
                    if (42 : Int32) = p0 then
                      (.ref (u 10))
                    else
                      if (43 : Int32) = p0 then
                        (.ref (u 11))
                      else
                        .null
theorem own_r1_ref {u : Nat → Addr} {p0 : Int32} : (own_r1 u p0).isRef = true := by
  unfold own_r1
  repeat' split
  all_goals rfl
def own_Q1 (Z : State) (u : Nat → Addr) (p0 : Int32) (h0 : Heap) (n0 : Nat) (v : Option Value) (h : Heap) (L : List Loc) : Prop := v = some (own_r1 u p0) ∧ Fr n0 L ∧ Ext h0 h
set_option maxRecDepth 65536 in
set_option maxHeartbeats 40000000 in
theorem rm1 (l : Launch) (Z : State) (a0 : Array Value) (hw : ∀ d ∈ tables_1, d.before a0 Z = true) (ws : List Jvm.Cond) (u : Nat → Addr) (p0 : Int32) (B : own_Base Z u) (h0 : Heap) (n0 : Nat) (O : Old Z n0 h0) :
    MetFree l (⟨"com/example/portcullis/portcullis/giop/ComponentTag", "of", "(I)Lcom/example/portcullis/portcullis/giop/ComponentTag;"⟩ : MethodName) (head1 (Jvm.Cond.code (⟨"com/example/portcullis/portcullis/giop/ComponentTag", "of", "(I)Lcom/example/portcullis/portcullis/giop/ComponentTag;"⟩ : MethodName) prog_6_method_6_code 5 (some (.object "com/example/portcullis/portcullis/giop/ComponentTag")) :: ws) ({ frames := 2, cells := 1, slots := 11, locals := 25 } : Room)) (fun a U => a = #[(.int p0)] ∧ Z.Warmed39 U.vm ∧ U.heap = h0) (fun _ _ _ _ _ => True) (fun _ U o U' => ∃ v L, o = .returned v ∧ own_Q1 Z u p0 h0 n0 v U'.heap L ∧ FrameEnd U o U' L ({ frames := 2, cells := 1, slots := 11, locals := 25 } : Room).cells ({ frames := 2, cells := 1, slots := 11, locals := 25 } : Room).slots) := by
  refine MetFree.of_bodySF (plainFor_of_name own_pn_1) hisR ?_
  intro p e s m args below meth c s₁ Bd hml0 hP hK
  obtain ⟨rfl, hZ, hh⟩ := hP
  have hx := Bd.exec
  have hby := Bd.bytes
  have hml : c.maxLocals = 5 := hml0
  have hown : s.vm.findClass "com/example/portcullis/portcullis/giop/ComponentTag" = some m.cls := findClass_of_methodNamed Bd.named
  have hnm := (name_of_methodNamed Bd.named Bd.method).1
  have X0 : Stand p l e ({ frames := 2, cells := 1, slots := 11, locals := 25 } : Room) s m #[(.int p0)] below meth c s₁ [] 0 0 := Stand.of_body Bd
  have e0 : s₁.heap = h0 := by rw [← hh, Bd.state]; rfl
  have N0 := Fr.nil n0
  have K0 := Keep.refl h0 []
  have Z0 : n0 ≤ h0.size := O.1 ▸ O.2.1
  have pre0 : ∀ t, Steps p.tables e below (s₁.setTop (mkF m 0 #[.val (.int p0), .unset, .unset, .unset, .unset] [])) t → Steps p.tables e below (s₁.setTop (entryFrame m #[(.int p0)] 5)) t := fun t k => castTop (own_ef_1 m p0) k
  obtain ⟨vr5, _, ⟨T5, L5, k5, n5⟩, -, X5, ⟨Lc5, hQ5, l5, y5, z5⟩, st5⟩ := Jvm.LawKit.callS X0 hx (y := (⟨"com/example/portcullis/portcullis/giop/ComponentTag", "values", "()[Lcom/example/portcullis/portcullis/giop/ComponentTag;"⟩ : MethodName)) hown (mvT hZ (hw _ (List.mem_of_getElem? (i := 4) rfl))) (mvT hZ (hw _ (List.mem_of_getElem? (i := 5) rfl))) (mvT hZ (hw _ (List.mem_of_getElem? (i := 2) rfl))) (mvT hZ (hw _ (List.mem_of_getElem? (i := 6) rfl))) (by decide) (backOf (W := 0) (rm2 l Z a0 hw [] u  B h0 n0 O ) hZ (hw _ (List.mem_of_getElem? (i := 6) rfl)) (hw _ (List.mem_of_getElem? (i := 2) rfl)) (by decide) (by decide)) (g := (mkF m 0 #[.val (.int p0), .unset, .unset, .unset, .unset] [])) rfl (by rw [hml]; rfl) (argsL := []) (rest := []) (lenOf own_pd0 rfl) rfl (by show 2 * 0 + _ ≤ _; exact Nat.le_of_eq rfl) (hb hby d1_0) (fun _ _ => ⟨rfl, e0, (by decide : 0 + 1 ≤ _), (by decide : 0 + 11 ≤ _)⟩)
  dsimp only [Pt.U, Pt.locs, Pt.cells, Pt.slots] at X5 l5 y5 z5 st5 hQ5
  subst l5 y5 z5
  obtain ⟨b5, rfl, N5q, E5, gx_b5, zz5, k5v, V_b5⟩ := hQ5
  have N5 := Fr.app N0 N5q
  have sz_b5 : h0.size ≤ b5 := Nat.le_trans K0.1 zz5
  have O5 := O.ext E5
  have K5 := K0.ext E5
  obtain ⟨cl6, Ar6, -, S6, N6, -, -⟩ := id V_b5
  obtain ⟨cl7, Ar7, -, S7, N7, H7, -⟩ := id V_b5
  have hin7 : ¬ ((0 : Int32) < 0 ∨ cl7.slots.size ≤ ((0 : Int32)).toNatClampNeg) := inb_of S7 ⟨by decide, by decide⟩
  obtain ⟨T8, X8, e8, st8⟩ := getF X5 hx hZ hown (host := "") (Or.inl (hw _ (List.mem_of_getElem? (i := 30) rfl))) Via.refl rfl (B.2.2.2.2.2.2.2.2.2.2.2.2.2.2.2.2.2.2.2.2.2.2.2.2.2.1.ext O5.2) (g := (mkF m 21 #[.val (.int p0), .val (.ref b5), .val (.int (11 : Int32)), .val (.int (0 : Int32)), .val (.ref (u 1))] [(.ref (u 1))])) rfl rfl (hb hby d1_21)
  have pre9 : ∀ t, Steps p.tables e below (T8.setTop (mkF m 25 #[.val (.int p0), .val (.ref b5), .val (.int (11 : Int32)), .val (.int (0 : Int32)), .val (.ref (u 1))] [(.int p0), (.int (0 : Int32))])) t → Steps p.tables e below (s₁.setTop (entryFrame m #[(.int p0)] 5)) t := fun t kt => pre0 t (by
    show Steps p.tables e below (s₁.setTop (mkF m 0 #[.val (.int p0), .unset, .unset, .unset, .unset] [])) _
    refine st5 _ ?_
    show Steps p.tables e below (T5.setTop (mkF m 3 #[.val (.int p0), .unset, .unset, .unset, .unset] [(.ref b5)])) _
    refine XS.astoreN X5.here hx rfl (hb hby d1_3) rfl rfl (l' := #[.val (.int p0), .val (.ref b5), .unset, .unset, .unset]) rfl ?_
    show Steps p.tables e below (T5.setTop (mkF m 4 #[.val (.int p0), .val (.ref b5), .unset, .unset, .unset] [])) _
    refine XS.aloadN X5.here hx rfl (hb hby d1_4) rfl rfl ?_
    show Steps p.tables e below (T5.setTop (mkF m 5 #[.val (.int p0), .val (.ref b5), .unset, .unset, .unset] [(.ref b5)])) _
    refine X5.arraylength hx Ar6.1 (State.isArrayOf_alike hZ.alike Ar6.2.1) (g := (mkF m 5 #[.val (.int p0), .val (.ref b5), .unset, .unset, .unset] [(.ref b5)])) rfl rfl (hb hby d1_5) _ ?_
    rw [len_of S6 N6]
    show Steps p.tables e below (T5.setTop (mkF m 6 #[.val (.int p0), .val (.ref b5), .unset, .unset, .unset] [(.int (11 : Int32))])) _
    refine XS.istoreN X5.here hx rfl (hb hby d1_6) rfl (l' := #[.val (.int p0), .val (.ref b5), .val (.int (11 : Int32)), .unset, .unset]) rfl ?_
    show Steps p.tables e below (T5.setTop (mkF m 7 #[.val (.int p0), .val (.ref b5), .val (.int (11 : Int32)), .unset, .unset] [])) _
    refine XS.iconst X5.here hx rfl (hb hby d1_7) ?_
    show Steps p.tables e below (T5.setTop (mkF m 8 #[.val (.int p0), .val (.ref b5), .val (.int (11 : Int32)), .unset, .unset] [(.int (0 : Int32))])) _
    refine XS.istoreN X5.here hx rfl (hb hby d1_8) rfl (l' := #[.val (.int p0), .val (.ref b5), .val (.int (11 : Int32)), .val (.int (0 : Int32)), .unset]) rfl ?_
    show Steps p.tables e below (T5.setTop (mkF m 9 #[.val (.int p0), .val (.ref b5), .val (.int (11 : Int32)), .val (.int (0 : Int32)), .unset] [])) _
    refine XS.iloadN X5.here hx rfl (hb hby d1_9) rfl ?_
    show Steps p.tables e below (T5.setTop (mkF m 10 #[.val (.int p0), .val (.ref b5), .val (.int (11 : Int32)), .val (.int (0 : Int32)), .unset] [(.int (0 : Int32))])) _
    refine XS.iloadN X5.here hx rfl (hb hby d1_10) rfl ?_
    show Steps p.tables e below (T5.setTop (mkF m 11 #[.val (.int p0), .val (.ref b5), .val (.int (11 : Int32)), .val (.int (0 : Int32)), .unset] [(.int (11 : Int32)), (.int (0 : Int32))])) _
    refine XS.icmpNo X5.here hx rfl (hb hby d1_11) rfl (tlt (by decide : (0 : Int32) < (11 : Int32))).2.1 ?_
    show Steps p.tables e below (T5.setTop (mkF m 14 #[.val (.int p0), .val (.ref b5), .val (.int (11 : Int32)), .val (.int (0 : Int32)), .unset] [])) _
    refine XS.aloadN X5.here hx rfl (hb hby d1_14) rfl rfl ?_
    show Steps p.tables e below (T5.setTop (mkF m 15 #[.val (.int p0), .val (.ref b5), .val (.int (11 : Int32)), .val (.int (0 : Int32)), .unset] [(.ref b5)])) _
    refine XS.iloadN X5.here hx rfl (hb hby d1_15) rfl ?_
    show Steps p.tables e below (T5.setTop (mkF m 16 #[.val (.int p0), .val (.ref b5), .val (.int (11 : Int32)), .val (.int (0 : Int32)), .unset] [(.int (0 : Int32)), (.ref b5)])) _
    refine X5.aaload hx (j := (0 : Int32)) (v := (.ref (u 1))) Ar7.1 (State.isArrayOf_alike hZ.alike Ar7.2.1) rfl Ar7.2.2 hin7 (H7.at hin7 rfl) (g := (mkF m 16 #[.val (.int p0), .val (.ref b5), .val (.int (11 : Int32)), .val (.int (0 : Int32)), .unset] [(.int (0 : Int32)), (.ref b5)])) rfl rfl (hb hby d1_16) _ ?_
    show Steps p.tables e below (T5.setTop (mkF m 17 #[.val (.int p0), .val (.ref b5), .val (.int (11 : Int32)), .val (.int (0 : Int32)), .unset] [(.ref (u 1))])) _
    refine XS.astore X5.here hx rfl (hb hby d1_17) rfl rfl (l' := #[.val (.int p0), .val (.ref b5), .val (.int (11 : Int32)), .val (.int (0 : Int32)), .val (.ref (u 1))]) rfl ?_
    show Steps p.tables e below (T5.setTop (mkF m 19 #[.val (.int p0), .val (.ref b5), .val (.int (11 : Int32)), .val (.int (0 : Int32)), .val (.ref (u 1))] [])) _
    refine XS.aload X5.here hx rfl (hb hby d1_19) rfl rfl ?_
    show Steps p.tables e below (T5.setTop (mkF m 21 #[.val (.int p0), .val (.ref b5), .val (.int (11 : Int32)), .val (.int (0 : Int32)), .val (.ref (u 1))] [(.ref (u 1))])) _
    refine st8 _ ?_
    show Steps p.tables e below (T8.setTop (mkF m 24 #[.val (.int p0), .val (.ref b5), .val (.int (11 : Int32)), .val (.int (0 : Int32)), .val (.ref (u 1))] [(.int (0 : Int32))])) _
    refine XS.iloadN X8.here hx rfl (hb hby d1_24) rfl ?_
    exact kt)
  by_cases hc10 : (0 : Int32) = p0
  · --
    obtain ⟨fs, hr, hrun, hended, hW, hsame⟩ := X8.leave (v := some (.ref (u 1))) (fun h => by rw [Bd.returns] at h; cases h)
    refine ⟨_, _, pre9 _ ?_, hrun, hended, _, _, rfl, ?_, ⟨_, rfl⟩, hW, hsame.mono (by decide) (by decide)⟩
    · show Steps p.tables e below (T8.setTop (mkF m 25 #[.val (.int p0), .val (.ref b5), .val (.int (11 : Int32)), .val (.int (0 : Int32)), .val (.ref (u 1))] [(.int p0), (.int (0 : Int32))])) _
      refine XS.icmpNo X8.here hx rfl (hb hby d1_25) rfl (teq hc10).2 ?_
      show Steps p.tables e below (T8.setTop (mkF m 28 #[.val (.int p0), .val (.ref b5), .val (.int (11 : Int32)), .val (.int (0 : Int32)), .val (.ref (u 1))] [])) _
      refine XS.aload X8.here hx rfl (hb hby d1_28) rfl rfl ?_
      show Steps p.tables e below (T8.setTop (mkF m 30 #[.val (.int p0), .val (.ref b5), .val (.int (11 : Int32)), .val (.int (0 : Int32)), .val (.ref (u 1))] [(.ref (u 1))])) _
      exact retOut X8 hx Bd.returns (own_narref rfl rfl) (Or.inr (Or.inr (Or.inr (Or.inr ⟨rfl, rfl, rfl⟩)))) (hb hby d1_30) hr
    · show own_Q1 Z u p0 h0 n0 _ T8.heap _
      rw [e8]
      exact ⟨(by unfold own_r1; rw [if_pos hc10]), N5, own_ext K5⟩
  · --
    obtain ⟨cl12, Ar12, -, S12, N12, H12, -⟩ := id V_b5
    have hin12 : ¬ ((1 : Int32) < 0 ∨ cl12.slots.size ≤ ((1 : Int32)).toNatClampNeg) := inb_of S12 ⟨by decide, by decide⟩
    obtain ⟨T13, X13, e13, st13⟩ := getF X8 hx hZ hown (host := "") (Or.inl (hw _ (List.mem_of_getElem? (i := 30) rfl))) Via.refl e8 (B.2.2.2.2.2.2.2.2.2.2.2.2.2.2.2.2.2.2.2.2.2.2.2.2.2.2.1.ext O5.2) (g := (mkF m 21 #[.val (.int p0), .val (.ref b5), .val (.int (11 : Int32)), .val (.int (1 : Int32)), .val (.ref (u 2))] [(.ref (u 2))])) rfl rfl (hb hby d1_21)
    have pre14 : ∀ t, Steps p.tables e below (T13.setTop (mkF m 25 #[.val (.int p0), .val (.ref b5), .val (.int (11 : Int32)), .val (.int (1 : Int32)), .val (.ref (u 2))] [(.int p0), (.int (1 : Int32))])) t → Steps p.tables e below (s₁.setTop (entryFrame m #[(.int p0)] 5)) t := fun t kt => pre9 t (by
      show Steps p.tables e below (T8.setTop (mkF m 25 #[.val (.int p0), .val (.ref b5), .val (.int (11 : Int32)), .val (.int (0 : Int32)), .val (.ref (u 1))] [(.int p0), (.int (0 : Int32))])) _
      refine XS.icmpYes X8.here hx rfl (pc0 := 25) (pc' := 31) rfl (hb hby d1_25) rfl (feq hc10).2 (by decide) (by decide) ?_
      show Steps p.tables e below (T8.setTop (mkF m 31 #[.val (.int p0), .val (.ref b5), .val (.int (11 : Int32)), .val (.int (0 : Int32)), .val (.ref (u 1))] [])) _
      refine XS.iinc X8.here hx rfl (hb hby d1_31) rfl (l' := #[.val (.int p0), .val (.ref b5), .val (.int (11 : Int32)), .val (.int (1 : Int32)), .val (.ref (u 1))]) rfl ?_
      show Steps p.tables e below (T8.setTop (mkF m 34 #[.val (.int p0), .val (.ref b5), .val (.int (11 : Int32)), .val (.int (1 : Int32)), .val (.ref (u 1))] [])) _
      refine XS.goto X8.here hx rfl (pc0 := 34) (pc' := 9) rfl (hb hby d1_34) (by decide) (by decide) ?_
      show Steps p.tables e below (T8.setTop (mkF m 9 #[.val (.int p0), .val (.ref b5), .val (.int (11 : Int32)), .val (.int (1 : Int32)), .val (.ref (u 1))] [])) _
      refine XS.iloadN X8.here hx rfl (hb hby d1_9) rfl ?_
      show Steps p.tables e below (T8.setTop (mkF m 10 #[.val (.int p0), .val (.ref b5), .val (.int (11 : Int32)), .val (.int (1 : Int32)), .val (.ref (u 1))] [(.int (1 : Int32))])) _
      refine XS.iloadN X8.here hx rfl (hb hby d1_10) rfl ?_
      show Steps p.tables e below (T8.setTop (mkF m 11 #[.val (.int p0), .val (.ref b5), .val (.int (11 : Int32)), .val (.int (1 : Int32)), .val (.ref (u 1))] [(.int (11 : Int32)), (.int (1 : Int32))])) _
      refine XS.icmpNo X8.here hx rfl (hb hby d1_11) rfl (tlt (by decide : (1 : Int32) < (11 : Int32))).2.1 ?_
      show Steps p.tables e below (T8.setTop (mkF m 14 #[.val (.int p0), .val (.ref b5), .val (.int (11 : Int32)), .val (.int (1 : Int32)), .val (.ref (u 1))] [])) _
      refine XS.aloadN X8.here hx rfl (hb hby d1_14) rfl rfl ?_
      show Steps p.tables e below (T8.setTop (mkF m 15 #[.val (.int p0), .val (.ref b5), .val (.int (11 : Int32)), .val (.int (1 : Int32)), .val (.ref (u 1))] [(.ref b5)])) _
      refine XS.iloadN X8.here hx rfl (hb hby d1_15) rfl ?_
      show Steps p.tables e below (T8.setTop (mkF m 16 #[.val (.int p0), .val (.ref b5), .val (.int (11 : Int32)), .val (.int (1 : Int32)), .val (.ref (u 1))] [(.int (1 : Int32)), (.ref b5)])) _
      refine X8.aaload hx (j := (1 : Int32)) (v := (.ref (u 2))) (by rw [e8]; exact Ar12.1) (State.isArrayOf_alike hZ.alike Ar12.2.1) rfl Ar12.2.2 hin12 (H12.at hin12 rfl) (g := (mkF m 16 #[.val (.int p0), .val (.ref b5), .val (.int (11 : Int32)), .val (.int (1 : Int32)), .val (.ref (u 1))] [(.int (1 : Int32)), (.ref b5)])) rfl rfl (hb hby d1_16) _ ?_
      show Steps p.tables e below (T8.setTop (mkF m 17 #[.val (.int p0), .val (.ref b5), .val (.int (11 : Int32)), .val (.int (1 : Int32)), .val (.ref (u 1))] [(.ref (u 2))])) _
      refine XS.astore X8.here hx rfl (hb hby d1_17) rfl rfl (l' := #[.val (.int p0), .val (.ref b5), .val (.int (11 : Int32)), .val (.int (1 : Int32)), .val (.ref (u 2))]) rfl ?_
      show Steps p.tables e below (T8.setTop (mkF m 19 #[.val (.int p0), .val (.ref b5), .val (.int (11 : Int32)), .val (.int (1 : Int32)), .val (.ref (u 2))] [])) _
      refine XS.aload X8.here hx rfl (hb hby d1_19) rfl rfl ?_
      show Steps p.tables e below (T8.setTop (mkF m 21 #[.val (.int p0), .val (.ref b5), .val (.int (11 : Int32)), .val (.int (1 : Int32)), .val (.ref (u 2))] [(.ref (u 2))])) _
      refine st13 _ ?_
      show Steps p.tables e below (T13.setTop (mkF m 24 #[.val (.int p0), .val (.ref b5), .val (.int (11 : Int32)), .val (.int (1 : Int32)), .val (.ref (u 2))] [(.int (1 : Int32))])) _
      refine XS.iloadN X13.here hx rfl (hb hby d1_24) rfl ?_
      exact kt)
    by_cases hc15 : (1 : Int32) = p0
    · --
      obtain ⟨fs, hr, hrun, hended, hW, hsame⟩ := X13.leave (v := some (.ref (u 2))) (fun h => by rw [Bd.returns] at h; cases h)
      refine ⟨_, _, pre14 _ ?_, hrun, hended, _, _, rfl, ?_, ⟨_, rfl⟩, hW, hsame.mono (by decide) (by decide)⟩
      · show Steps p.tables e below (T13.setTop (mkF m 25 #[.val (.int p0), .val (.ref b5), .val (.int (11 : Int32)), .val (.int (1 : Int32)), .val (.ref (u 2))] [(.int p0), (.int (1 : Int32))])) _
        refine XS.icmpNo X13.here hx rfl (hb hby d1_25) rfl (teq hc15).2 ?_
        show Steps p.tables e below (T13.setTop (mkF m 28 #[.val (.int p0), .val (.ref b5), .val (.int (11 : Int32)), .val (.int (1 : Int32)), .val (.ref (u 2))] [])) _
        refine XS.aload X13.here hx rfl (hb hby d1_28) rfl rfl ?_
        show Steps p.tables e below (T13.setTop (mkF m 30 #[.val (.int p0), .val (.ref b5), .val (.int (11 : Int32)), .val (.int (1 : Int32)), .val (.ref (u 2))] [(.ref (u 2))])) _
        exact retOut X13 hx Bd.returns (own_narref rfl rfl) (Or.inr (Or.inr (Or.inr (Or.inr ⟨rfl, rfl, rfl⟩)))) (hb hby d1_30) hr
      · show own_Q1 Z u p0 h0 n0 _ T13.heap _
        rw [e13]
        exact ⟨(by unfold own_r1; rw [if_neg hc10, if_pos hc15]), N5, own_ext K5⟩
    · --
      obtain ⟨cl17, Ar17, -, S17, N17, H17, -⟩ := id V_b5
      have hin17 : ¬ ((2 : Int32) < 0 ∨ cl17.slots.size ≤ ((2 : Int32)).toNatClampNeg) := inb_of S17 ⟨by decide, by decide⟩
      obtain ⟨T18, X18, e18, st18⟩ := getF X13 hx hZ hown (host := "") (Or.inl (hw _ (List.mem_of_getElem? (i := 30) rfl))) Via.refl e13 (B.2.2.2.2.2.2.2.2.2.2.2.2.2.2.2.2.2.2.2.2.2.2.2.2.2.2.2.1.ext O5.2) (g := (mkF m 21 #[.val (.int p0), .val (.ref b5), .val (.int (11 : Int32)), .val (.int (2 : Int32)), .val (.ref (u 3))] [(.ref (u 3))])) rfl rfl (hb hby d1_21)
      have pre19 : ∀ t, Steps p.tables e below (T18.setTop (mkF m 25 #[.val (.int p0), .val (.ref b5), .val (.int (11 : Int32)), .val (.int (2 : Int32)), .val (.ref (u 3))] [(.int p0), (.int (2 : Int32))])) t → Steps p.tables e below (s₁.setTop (entryFrame m #[(.int p0)] 5)) t := fun t kt => pre14 t (by
        show Steps p.tables e below (T13.setTop (mkF m 25 #[.val (.int p0), .val (.ref b5), .val (.int (11 : Int32)), .val (.int (1 : Int32)), .val (.ref (u 2))] [(.int p0), (.int (1 : Int32))])) _
        refine XS.icmpYes X13.here hx rfl (pc0 := 25) (pc' := 31) rfl (hb hby d1_25) rfl (feq hc15).2 (by decide) (by decide) ?_
        show Steps p.tables e below (T13.setTop (mkF m 31 #[.val (.int p0), .val (.ref b5), .val (.int (11 : Int32)), .val (.int (1 : Int32)), .val (.ref (u 2))] [])) _
        refine XS.iinc X13.here hx rfl (hb hby d1_31) rfl (l' := #[.val (.int p0), .val (.ref b5), .val (.int (11 : Int32)), .val (.int (2 : Int32)), .val (.ref (u 2))]) rfl ?_
        show Steps p.tables e below (T13.setTop (mkF m 34 #[.val (.int p0), .val (.ref b5), .val (.int (11 : Int32)), .val (.int (2 : Int32)), .val (.ref (u 2))] [])) _
        refine XS.goto X13.here hx rfl (pc0 := 34) (pc' := 9) rfl (hb hby d1_34) (by decide) (by decide) ?_
        show Steps p.tables e below (T13.setTop (mkF m 9 #[.val (.int p0), .val (.ref b5), .val (.int (11 : Int32)), .val (.int (2 : Int32)), .val (.ref (u 2))] [])) _
        refine XS.iloadN X13.here hx rfl (hb hby d1_9) rfl ?_
        show Steps p.tables e below (T13.setTop (mkF m 10 #[.val (.int p0), .val (.ref b5), .val (.int (11 : Int32)), .val (.int (2 : Int32)), .val (.ref (u 2))] [(.int (2 : Int32))])) _
        refine XS.iloadN X13.here hx rfl (hb hby d1_10) rfl ?_
        show Steps p.tables e below (T13.setTop (mkF m 11 #[.val (.int p0), .val (.ref b5), .val (.int (11 : Int32)), .val (.int (2 : Int32)), .val (.ref (u 2))] [(.int (11 : Int32)), (.int (2 : Int32))])) _
        refine XS.icmpNo X13.here hx rfl (hb hby d1_11) rfl (tlt (by decide : (2 : Int32) < (11 : Int32))).2.1 ?_
        show Steps p.tables e below (T13.setTop (mkF m 14 #[.val (.int p0), .val (.ref b5), .val (.int (11 : Int32)), .val (.int (2 : Int32)), .val (.ref (u 2))] [])) _
        refine XS.aloadN X13.here hx rfl (hb hby d1_14) rfl rfl ?_
        show Steps p.tables e below (T13.setTop (mkF m 15 #[.val (.int p0), .val (.ref b5), .val (.int (11 : Int32)), .val (.int (2 : Int32)), .val (.ref (u 2))] [(.ref b5)])) _
        refine XS.iloadN X13.here hx rfl (hb hby d1_15) rfl ?_
        show Steps p.tables e below (T13.setTop (mkF m 16 #[.val (.int p0), .val (.ref b5), .val (.int (11 : Int32)), .val (.int (2 : Int32)), .val (.ref (u 2))] [(.int (2 : Int32)), (.ref b5)])) _
        refine X13.aaload hx (j := (2 : Int32)) (v := (.ref (u 3))) (by rw [e13]; exact Ar17.1) (State.isArrayOf_alike hZ.alike Ar17.2.1) rfl Ar17.2.2 hin17 (H17.at hin17 rfl) (g := (mkF m 16 #[.val (.int p0), .val (.ref b5), .val (.int (11 : Int32)), .val (.int (2 : Int32)), .val (.ref (u 2))] [(.int (2 : Int32)), (.ref b5)])) rfl rfl (hb hby d1_16) _ ?_
        show Steps p.tables e below (T13.setTop (mkF m 17 #[.val (.int p0), .val (.ref b5), .val (.int (11 : Int32)), .val (.int (2 : Int32)), .val (.ref (u 2))] [(.ref (u 3))])) _
        refine XS.astore X13.here hx rfl (hb hby d1_17) rfl rfl (l' := #[.val (.int p0), .val (.ref b5), .val (.int (11 : Int32)), .val (.int (2 : Int32)), .val (.ref (u 3))]) rfl ?_
        show Steps p.tables e below (T13.setTop (mkF m 19 #[.val (.int p0), .val (.ref b5), .val (.int (11 : Int32)), .val (.int (2 : Int32)), .val (.ref (u 3))] [])) _
        refine XS.aload X13.here hx rfl (hb hby d1_19) rfl rfl ?_
        show Steps p.tables e below (T13.setTop (mkF m 21 #[.val (.int p0), .val (.ref b5), .val (.int (11 : Int32)), .val (.int (2 : Int32)), .val (.ref (u 3))] [(.ref (u 3))])) _
        refine st18 _ ?_
        show Steps p.tables e below (T18.setTop (mkF m 24 #[.val (.int p0), .val (.ref b5), .val (.int (11 : Int32)), .val (.int (2 : Int32)), .val (.ref (u 3))] [(.int (2 : Int32))])) _
        refine XS.iloadN X18.here hx rfl (hb hby d1_24) rfl ?_
        exact kt)
      by_cases hc20 : (2 : Int32) = p0
      · --
        obtain ⟨fs, hr, hrun, hended, hW, hsame⟩ := X18.leave (v := some (.ref (u 3))) (fun h => by rw [Bd.returns] at h; cases h)
        refine ⟨_, _, pre19 _ ?_, hrun, hended, _, _, rfl, ?_, ⟨_, rfl⟩, hW, hsame.mono (by decide) (by decide)⟩
        · show Steps p.tables e below (T18.setTop (mkF m 25 #[.val (.int p0), .val (.ref b5), .val (.int (11 : Int32)), .val (.int (2 : Int32)), .val (.ref (u 3))] [(.int p0), (.int (2 : Int32))])) _
          refine XS.icmpNo X18.here hx rfl (hb hby d1_25) rfl (teq hc20).2 ?_
          show Steps p.tables e below (T18.setTop (mkF m 28 #[.val (.int p0), .val (.ref b5), .val (.int (11 : Int32)), .val (.int (2 : Int32)), .val (.ref (u 3))] [])) _
          refine XS.aload X18.here hx rfl (hb hby d1_28) rfl rfl ?_
          show Steps p.tables e below (T18.setTop (mkF m 30 #[.val (.int p0), .val (.ref b5), .val (.int (11 : Int32)), .val (.int (2 : Int32)), .val (.ref (u 3))] [(.ref (u 3))])) _
          exact retOut X18 hx Bd.returns (own_narref rfl rfl) (Or.inr (Or.inr (Or.inr (Or.inr ⟨rfl, rfl, rfl⟩)))) (hb hby d1_30) hr
        · show own_Q1 Z u p0 h0 n0 _ T18.heap _
          rw [e18]
          exact ⟨(by unfold own_r1; rw [if_neg hc10, if_neg hc15, if_pos hc20]), N5, own_ext K5⟩
      · --
        obtain ⟨cl22, Ar22, -, S22, N22, H22, -⟩ := id V_b5
        have hin22 : ¬ ((3 : Int32) < 0 ∨ cl22.slots.size ≤ ((3 : Int32)).toNatClampNeg) := inb_of S22 ⟨by decide, by decide⟩
        obtain ⟨T23, X23, e23, st23⟩ := getF X18 hx hZ hown (host := "") (Or.inl (hw _ (List.mem_of_getElem? (i := 30) rfl))) Via.refl e18 (B.2.2.2.2.2.2.2.2.2.2.2.2.2.2.2.2.2.2.2.2.2.2.2.2.2.2.2.2.1.ext O5.2) (g := (mkF m 21 #[.val (.int p0), .val (.ref b5), .val (.int (11 : Int32)), .val (.int (3 : Int32)), .val (.ref (u 4))] [(.ref (u 4))])) rfl rfl (hb hby d1_21)
        have pre24 : ∀ t, Steps p.tables e below (T23.setTop (mkF m 25 #[.val (.int p0), .val (.ref b5), .val (.int (11 : Int32)), .val (.int (3 : Int32)), .val (.ref (u 4))] [(.int p0), (.int (3 : Int32))])) t → Steps p.tables e below (s₁.setTop (entryFrame m #[(.int p0)] 5)) t := fun t kt => pre19 t (by
          show Steps p.tables e below (T18.setTop (mkF m 25 #[.val (.int p0), .val (.ref b5), .val (.int (11 : Int32)), .val (.int (2 : Int32)), .val (.ref (u 3))] [(.int p0), (.int (2 : Int32))])) _
          refine XS.icmpYes X18.here hx rfl (pc0 := 25) (pc' := 31) rfl (hb hby d1_25) rfl (feq hc20).2 (by decide) (by decide) ?_
          show Steps p.tables e below (T18.setTop (mkF m 31 #[.val (.int p0), .val (.ref b5), .val (.int (11 : Int32)), .val (.int (2 : Int32)), .val (.ref (u 3))] [])) _
          refine XS.iinc X18.here hx rfl (hb hby d1_31) rfl (l' := #[.val (.int p0), .val (.ref b5), .val (.int (11 : Int32)), .val (.int (3 : Int32)), .val (.ref (u 3))]) rfl ?_
          show Steps p.tables e below (T18.setTop (mkF m 34 #[.val (.int p0), .val (.ref b5), .val (.int (11 : Int32)), .val (.int (3 : Int32)), .val (.ref (u 3))] [])) _
          refine XS.goto X18.here hx rfl (pc0 := 34) (pc' := 9) rfl (hb hby d1_34) (by decide) (by decide) ?_
          show Steps p.tables e below (T18.setTop (mkF m 9 #[.val (.int p0), .val (.ref b5), .val (.int (11 : Int32)), .val (.int (3 : Int32)), .val (.ref (u 3))] [])) _
          refine XS.iloadN X18.here hx rfl (hb hby d1_9) rfl ?_
          show Steps p.tables e below (T18.setTop (mkF m 10 #[.val (.int p0), .val (.ref b5), .val (.int (11 : Int32)), .val (.int (3 : Int32)), .val (.ref (u 3))] [(.int (3 : Int32))])) _
          refine XS.iloadN X18.here hx rfl (hb hby d1_10) rfl ?_
          show Steps p.tables e below (T18.setTop (mkF m 11 #[.val (.int p0), .val (.ref b5), .val (.int (11 : Int32)), .val (.int (3 : Int32)), .val (.ref (u 3))] [(.int (11 : Int32)), (.int (3 : Int32))])) _
          refine XS.icmpNo X18.here hx rfl (hb hby d1_11) rfl (tlt (by decide : (3 : Int32) < (11 : Int32))).2.1 ?_
          show Steps p.tables e below (T18.setTop (mkF m 14 #[.val (.int p0), .val (.ref b5), .val (.int (11 : Int32)), .val (.int (3 : Int32)), .val (.ref (u 3))] [])) _
          refine XS.aloadN X18.here hx rfl (hb hby d1_14) rfl rfl ?_
          show Steps p.tables e below (T18.setTop (mkF m 15 #[.val (.int p0), .val (.ref b5), .val (.int (11 : Int32)), .val (.int (3 : Int32)), .val (.ref (u 3))] [(.ref b5)])) _
          refine XS.iloadN X18.here hx rfl (hb hby d1_15) rfl ?_
          show Steps p.tables e below (T18.setTop (mkF m 16 #[.val (.int p0), .val (.ref b5), .val (.int (11 : Int32)), .val (.int (3 : Int32)), .val (.ref (u 3))] [(.int (3 : Int32)), (.ref b5)])) _
          refine X18.aaload hx (j := (3 : Int32)) (v := (.ref (u 4))) (by rw [e18]; exact Ar22.1) (State.isArrayOf_alike hZ.alike Ar22.2.1) rfl Ar22.2.2 hin22 (H22.at hin22 rfl) (g := (mkF m 16 #[.val (.int p0), .val (.ref b5), .val (.int (11 : Int32)), .val (.int (3 : Int32)), .val (.ref (u 3))] [(.int (3 : Int32)), (.ref b5)])) rfl rfl (hb hby d1_16) _ ?_
          show Steps p.tables e below (T18.setTop (mkF m 17 #[.val (.int p0), .val (.ref b5), .val (.int (11 : Int32)), .val (.int (3 : Int32)), .val (.ref (u 3))] [(.ref (u 4))])) _
          refine XS.astore X18.here hx rfl (hb hby d1_17) rfl rfl (l' := #[.val (.int p0), .val (.ref b5), .val (.int (11 : Int32)), .val (.int (3 : Int32)), .val (.ref (u 4))]) rfl ?_
          show Steps p.tables e below (T18.setTop (mkF m 19 #[.val (.int p0), .val (.ref b5), .val (.int (11 : Int32)), .val (.int (3 : Int32)), .val (.ref (u 4))] [])) _
          refine XS.aload X18.here hx rfl (hb hby d1_19) rfl rfl ?_
          show Steps p.tables e below (T18.setTop (mkF m 21 #[.val (.int p0), .val (.ref b5), .val (.int (11 : Int32)), .val (.int (3 : Int32)), .val (.ref (u 4))] [(.ref (u 4))])) _
          refine st23 _ ?_
          show Steps p.tables e below (T23.setTop (mkF m 24 #[.val (.int p0), .val (.ref b5), .val (.int (11 : Int32)), .val (.int (3 : Int32)), .val (.ref (u 4))] [(.int (3 : Int32))])) _
          refine XS.iloadN X23.here hx rfl (hb hby d1_24) rfl ?_
          exact kt)
        by_cases hc25 : (3 : Int32) = p0
        · --
          obtain ⟨fs, hr, hrun, hended, hW, hsame⟩ := X23.leave (v := some (.ref (u 4))) (fun h => by rw [Bd.returns] at h; cases h)
          refine ⟨_, _, pre24 _ ?_, hrun, hended, _, _, rfl, ?_, ⟨_, rfl⟩, hW, hsame.mono (by decide) (by decide)⟩
          · show Steps p.tables e below (T23.setTop (mkF m 25 #[.val (.int p0), .val (.ref b5), .val (.int (11 : Int32)), .val (.int (3 : Int32)), .val (.ref (u 4))] [(.int p0), (.int (3 : Int32))])) _
            refine XS.icmpNo X23.here hx rfl (hb hby d1_25) rfl (teq hc25).2 ?_
            show Steps p.tables e below (T23.setTop (mkF m 28 #[.val (.int p0), .val (.ref b5), .val (.int (11 : Int32)), .val (.int (3 : Int32)), .val (.ref (u 4))] [])) _
            refine XS.aload X23.here hx rfl (hb hby d1_28) rfl rfl ?_
            show Steps p.tables e below (T23.setTop (mkF m 30 #[.val (.int p0), .val (.ref b5), .val (.int (11 : Int32)), .val (.int (3 : Int32)), .val (.ref (u 4))] [(.ref (u 4))])) _
            exact retOut X23 hx Bd.returns (own_narref rfl rfl) (Or.inr (Or.inr (Or.inr (Or.inr ⟨rfl, rfl, rfl⟩)))) (hb hby d1_30) hr
          · show own_Q1 Z u p0 h0 n0 _ T23.heap _
            rw [e23]
            exact ⟨(by unfold own_r1; rw [if_neg hc10, if_neg hc15, if_neg hc20, if_pos hc25]), N5, own_ext K5⟩
        · --
          obtain ⟨cl27, Ar27, -, S27, N27, H27, -⟩ := id V_b5
          have hin27 : ¬ ((4 : Int32) < 0 ∨ cl27.slots.size ≤ ((4 : Int32)).toNatClampNeg) := inb_of S27 ⟨by decide, by decide⟩
          obtain ⟨T28, X28, e28, st28⟩ := getF X23 hx hZ hown (host := "") (Or.inl (hw _ (List.mem_of_getElem? (i := 30) rfl))) Via.refl e23 (B.2.2.2.2.2.2.2.2.2.2.2.2.2.2.2.2.2.2.2.2.2.2.2.2.2.2.2.2.2.1.ext O5.2) (g := (mkF m 21 #[.val (.int p0), .val (.ref b5), .val (.int (11 : Int32)), .val (.int (4 : Int32)), .val (.ref (u 5))] [(.ref (u 5))])) rfl rfl (hb hby d1_21)
          have pre29 : ∀ t, Steps p.tables e below (T28.setTop (mkF m 25 #[.val (.int p0), .val (.ref b5), .val (.int (11 : Int32)), .val (.int (4 : Int32)), .val (.ref (u 5))] [(.int p0), (.int (33 : Int32))])) t → Steps p.tables e below (s₁.setTop (entryFrame m #[(.int p0)] 5)) t := fun t kt => pre24 t (by
            show Steps p.tables e below (T23.setTop (mkF m 25 #[.val (.int p0), .val (.ref b5), .val (.int (11 : Int32)), .val (.int (3 : Int32)), .val (.ref (u 4))] [(.int p0), (.int (3 : Int32))])) _
            refine XS.icmpYes X23.here hx rfl (pc0 := 25) (pc' := 31) rfl (hb hby d1_25) rfl (feq hc25).2 (by decide) (by decide) ?_
            show Steps p.tables e below (T23.setTop (mkF m 31 #[.val (.int p0), .val (.ref b5), .val (.int (11 : Int32)), .val (.int (3 : Int32)), .val (.ref (u 4))] [])) _
            refine XS.iinc X23.here hx rfl (hb hby d1_31) rfl (l' := #[.val (.int p0), .val (.ref b5), .val (.int (11 : Int32)), .val (.int (4 : Int32)), .val (.ref (u 4))]) rfl ?_
            show Steps p.tables e below (T23.setTop (mkF m 34 #[.val (.int p0), .val (.ref b5), .val (.int (11 : Int32)), .val (.int (4 : Int32)), .val (.ref (u 4))] [])) _
            refine XS.goto X23.here hx rfl (pc0 := 34) (pc' := 9) rfl (hb hby d1_34) (by decide) (by decide) ?_
            show Steps p.tables e below (T23.setTop (mkF m 9 #[.val (.int p0), .val (.ref b5), .val (.int (11 : Int32)), .val (.int (4 : Int32)), .val (.ref (u 4))] [])) _
            refine XS.iloadN X23.here hx rfl (hb hby d1_9) rfl ?_
            show Steps p.tables e below (T23.setTop (mkF m 10 #[.val (.int p0), .val (.ref b5), .val (.int (11 : Int32)), .val (.int (4 : Int32)), .val (.ref (u 4))] [(.int (4 : Int32))])) _
            refine XS.iloadN X23.here hx rfl (hb hby d1_10) rfl ?_
            show Steps p.tables e below (T23.setTop (mkF m 11 #[.val (.int p0), .val (.ref b5), .val (.int (11 : Int32)), .val (.int (4 : Int32)), .val (.ref (u 4))] [(.int (11 : Int32)), (.int (4 : Int32))])) _
            refine XS.icmpNo X23.here hx rfl (hb hby d1_11) rfl (tlt (by decide : (4 : Int32) < (11 : Int32))).2.1 ?_
            show Steps p.tables e below (T23.setTop (mkF m 14 #[.val (.int p0), .val (.ref b5), .val (.int (11 : Int32)), .val (.int (4 : Int32)), .val (.ref (u 4))] [])) _
            refine XS.aloadN X23.here hx rfl (hb hby d1_14) rfl rfl ?_
            show Steps p.tables e below (T23.setTop (mkF m 15 #[.val (.int p0), .val (.ref b5), .val (.int (11 : Int32)), .val (.int (4 : Int32)), .val (.ref (u 4))] [(.ref b5)])) _
            refine XS.iloadN X23.here hx rfl (hb hby d1_15) rfl ?_
            show Steps p.tables e below (T23.setTop (mkF m 16 #[.val (.int p0), .val (.ref b5), .val (.int (11 : Int32)), .val (.int (4 : Int32)), .val (.ref (u 4))] [(.int (4 : Int32)), (.ref b5)])) _
            refine X23.aaload hx (j := (4 : Int32)) (v := (.ref (u 5))) (by rw [e23]; exact Ar27.1) (State.isArrayOf_alike hZ.alike Ar27.2.1) rfl Ar27.2.2 hin27 (H27.at hin27 rfl) (g := (mkF m 16 #[.val (.int p0), .val (.ref b5), .val (.int (11 : Int32)), .val (.int (4 : Int32)), .val (.ref (u 4))] [(.int (4 : Int32)), (.ref b5)])) rfl rfl (hb hby d1_16) _ ?_
            show Steps p.tables e below (T23.setTop (mkF m 17 #[.val (.int p0), .val (.ref b5), .val (.int (11 : Int32)), .val (.int (4 : Int32)), .val (.ref (u 4))] [(.ref (u 5))])) _
            refine XS.astore X23.here hx rfl (hb hby d1_17) rfl rfl (l' := #[.val (.int p0), .val (.ref b5), .val (.int (11 : Int32)), .val (.int (4 : Int32)), .val (.ref (u 5))]) rfl ?_
            show Steps p.tables e below (T23.setTop (mkF m 19 #[.val (.int p0), .val (.ref b5), .val (.int (11 : Int32)), .val (.int (4 : Int32)), .val (.ref (u 5))] [])) _
            refine XS.aload X23.here hx rfl (hb hby d1_19) rfl rfl ?_
            show Steps p.tables e below (T23.setTop (mkF m 21 #[.val (.int p0), .val (.ref b5), .val (.int (11 : Int32)), .val (.int (4 : Int32)), .val (.ref (u 5))] [(.ref (u 5))])) _
            refine st28 _ ?_
            show Steps p.tables e below (T28.setTop (mkF m 24 #[.val (.int p0), .val (.ref b5), .val (.int (11 : Int32)), .val (.int (4 : Int32)), .val (.ref (u 5))] [(.int (33 : Int32))])) _
            refine XS.iloadN X28.here hx rfl (hb hby d1_24) rfl ?_
            exact kt)
          by_cases hc30 : (33 : Int32) = p0
          · --
            obtain ⟨fs, hr, hrun, hended, hW, hsame⟩ := X28.leave (v := some (.ref (u 5))) (fun h => by rw [Bd.returns] at h; cases h)
            refine ⟨_, _, pre29 _ ?_, hrun, hended, _, _, rfl, ?_, ⟨_, rfl⟩, hW, hsame.mono (by decide) (by decide)⟩
            · show Steps p.tables e below (T28.setTop (mkF m 25 #[.val (.int p0), .val (.ref b5), .val (.int (11 : Int32)), .val (.int (4 : Int32)), .val (.ref (u 5))] [(.int p0), (.int (33 : Int32))])) _
              refine XS.icmpNo X28.here hx rfl (hb hby d1_25) rfl (teq hc30).2 ?_
              show Steps p.tables e below (T28.setTop (mkF m 28 #[.val (.int p0), .val (.ref b5), .val (.int (11 : Int32)), .val (.int (4 : Int32)), .val (.ref (u 5))] [])) _
              refine XS.aload X28.here hx rfl (hb hby d1_28) rfl rfl ?_
              show Steps p.tables e below (T28.setTop (mkF m 30 #[.val (.int p0), .val (.ref b5), .val (.int (11 : Int32)), .val (.int (4 : Int32)), .val (.ref (u 5))] [(.ref (u 5))])) _
              exact retOut X28 hx Bd.returns (own_narref rfl rfl) (Or.inr (Or.inr (Or.inr (Or.inr ⟨rfl, rfl, rfl⟩)))) (hb hby d1_30) hr
            · show own_Q1 Z u p0 h0 n0 _ T28.heap _
              rw [e28]
              exact ⟨(by unfold own_r1; rw [if_neg hc10, if_neg hc15, if_neg hc20, if_neg hc25, if_pos hc30]), N5, own_ext K5⟩
          · --
            obtain ⟨cl32, Ar32, -, S32, N32, H32, -⟩ := id V_b5
            have hin32 : ¬ ((5 : Int32) < 0 ∨ cl32.slots.size ≤ ((5 : Int32)).toNatClampNeg) := inb_of S32 ⟨by decide, by decide⟩
            obtain ⟨T33, X33, e33, st33⟩ := getF X28 hx hZ hown (host := "") (Or.inl (hw _ (List.mem_of_getElem? (i := 30) rfl))) Via.refl e28 (B.2.2.2.2.2.2.2.2.2.2.2.2.2.2.2.2.2.2.2.2.2.2.2.2.2.2.2.2.2.2.1.ext O5.2) (g := (mkF m 21 #[.val (.int p0), .val (.ref b5), .val (.int (11 : Int32)), .val (.int (5 : Int32)), .val (.ref (u 6))] [(.ref (u 6))])) rfl rfl (hb hby d1_21)
            have pre34 : ∀ t, Steps p.tables e below (T33.setTop (mkF m 25 #[.val (.int p0), .val (.ref b5), .val (.int (11 : Int32)), .val (.int (5 : Int32)), .val (.ref (u 6))] [(.int p0), (.int (34 : Int32))])) t → Steps p.tables e below (s₁.setTop (entryFrame m #[(.int p0)] 5)) t := fun t kt => pre29 t (by
              show Steps p.tables e below (T28.setTop (mkF m 25 #[.val (.int p0), .val (.ref b5), .val (.int (11 : Int32)), .val (.int (4 : Int32)), .val (.ref (u 5))] [(.int p0), (.int (33 : Int32))])) _
              refine XS.icmpYes X28.here hx rfl (pc0 := 25) (pc' := 31) rfl (hb hby d1_25) rfl (feq hc30).2 (by decide) (by decide) ?_
              show Steps p.tables e below (T28.setTop (mkF m 31 #[.val (.int p0), .val (.ref b5), .val (.int (11 : Int32)), .val (.int (4 : Int32)), .val (.ref (u 5))] [])) _
              refine XS.iinc X28.here hx rfl (hb hby d1_31) rfl (l' := #[.val (.int p0), .val (.ref b5), .val (.int (11 : Int32)), .val (.int (5 : Int32)), .val (.ref (u 5))]) rfl ?_
              show Steps p.tables e below (T28.setTop (mkF m 34 #[.val (.int p0), .val (.ref b5), .val (.int (11 : Int32)), .val (.int (5 : Int32)), .val (.ref (u 5))] [])) _
              refine XS.goto X28.here hx rfl (pc0 := 34) (pc' := 9) rfl (hb hby d1_34) (by decide) (by decide) ?_
              show Steps p.tables e below (T28.setTop (mkF m 9 #[.val (.int p0), .val (.ref b5), .val (.int (11 : Int32)), .val (.int (5 : Int32)), .val (.ref (u 5))] [])) _
              refine XS.iloadN X28.here hx rfl (hb hby d1_9) rfl ?_
              show Steps p.tables e below (T28.setTop (mkF m 10 #[.val (.int p0), .val (.ref b5), .val (.int (11 : Int32)), .val (.int (5 : Int32)), .val (.ref (u 5))] [(.int (5 : Int32))])) _
              refine XS.iloadN X28.here hx rfl (hb hby d1_10) rfl ?_
              show Steps p.tables e below (T28.setTop (mkF m 11 #[.val (.int p0), .val (.ref b5), .val (.int (11 : Int32)), .val (.int (5 : Int32)), .val (.ref (u 5))] [(.int (11 : Int32)), (.int (5 : Int32))])) _
              refine XS.icmpNo X28.here hx rfl (hb hby d1_11) rfl (tlt (by decide : (5 : Int32) < (11 : Int32))).2.1 ?_
              show Steps p.tables e below (T28.setTop (mkF m 14 #[.val (.int p0), .val (.ref b5), .val (.int (11 : Int32)), .val (.int (5 : Int32)), .val (.ref (u 5))] [])) _
              refine XS.aloadN X28.here hx rfl (hb hby d1_14) rfl rfl ?_
              show Steps p.tables e below (T28.setTop (mkF m 15 #[.val (.int p0), .val (.ref b5), .val (.int (11 : Int32)), .val (.int (5 : Int32)), .val (.ref (u 5))] [(.ref b5)])) _
              refine XS.iloadN X28.here hx rfl (hb hby d1_15) rfl ?_
              show Steps p.tables e below (T28.setTop (mkF m 16 #[.val (.int p0), .val (.ref b5), .val (.int (11 : Int32)), .val (.int (5 : Int32)), .val (.ref (u 5))] [(.int (5 : Int32)), (.ref b5)])) _
              refine X28.aaload hx (j := (5 : Int32)) (v := (.ref (u 6))) (by rw [e28]; exact Ar32.1) (State.isArrayOf_alike hZ.alike Ar32.2.1) rfl Ar32.2.2 hin32 (H32.at hin32 rfl) (g := (mkF m 16 #[.val (.int p0), .val (.ref b5), .val (.int (11 : Int32)), .val (.int (5 : Int32)), .val (.ref (u 5))] [(.int (5 : Int32)), (.ref b5)])) rfl rfl (hb hby d1_16) _ ?_
              show Steps p.tables e below (T28.setTop (mkF m 17 #[.val (.int p0), .val (.ref b5), .val (.int (11 : Int32)), .val (.int (5 : Int32)), .val (.ref (u 5))] [(.ref (u 6))])) _
              refine XS.astore X28.here hx rfl (hb hby d1_17) rfl rfl (l' := #[.val (.int p0), .val (.ref b5), .val (.int (11 : Int32)), .val (.int (5 : Int32)), .val (.ref (u 6))]) rfl ?_
              show Steps p.tables e below (T28.setTop (mkF m 19 #[.val (.int p0), .val (.ref b5), .val (.int (11 : Int32)), .val (.int (5 : Int32)), .val (.ref (u 6))] [])) _
              refine XS.aload X28.here hx rfl (hb hby d1_19) rfl rfl ?_
              show Steps p.tables e below (T28.setTop (mkF m 21 #[.val (.int p0), .val (.ref b5), .val (.int (11 : Int32)), .val (.int (5 : Int32)), .val (.ref (u 6))] [(.ref (u 6))])) _
              refine st33 _ ?_
              show Steps p.tables e below (T33.setTop (mkF m 24 #[.val (.int p0), .val (.ref b5), .val (.int (11 : Int32)), .val (.int (5 : Int32)), .val (.ref (u 6))] [(.int (34 : Int32))])) _
              refine XS.iloadN X33.here hx rfl (hb hby d1_24) rfl ?_
              exact kt)
            by_cases hc35 : (34 : Int32) = p0
            · --
              obtain ⟨fs, hr, hrun, hended, hW, hsame⟩ := X33.leave (v := some (.ref (u 6))) (fun h => by rw [Bd.returns] at h; cases h)
              refine ⟨_, _, pre34 _ ?_, hrun, hended, _, _, rfl, ?_, ⟨_, rfl⟩, hW, hsame.mono (by decide) (by decide)⟩
              · show Steps p.tables e below (T33.setTop (mkF m 25 #[.val (.int p0), .val (.ref b5), .val (.int (11 : Int32)), .val (.int (5 : Int32)), .val (.ref (u 6))] [(.int p0), (.int (34 : Int32))])) _
                refine XS.icmpNo X33.here hx rfl (hb hby d1_25) rfl (teq hc35).2 ?_
                show Steps p.tables e below (T33.setTop (mkF m 28 #[.val (.int p0), .val (.ref b5), .val (.int (11 : Int32)), .val (.int (5 : Int32)), .val (.ref (u 6))] [])) _
                refine XS.aload X33.here hx rfl (hb hby d1_28) rfl rfl ?_
                show Steps p.tables e below (T33.setTop (mkF m 30 #[.val (.int p0), .val (.ref b5), .val (.int (11 : Int32)), .val (.int (5 : Int32)), .val (.ref (u 6))] [(.ref (u 6))])) _
                exact retOut X33 hx Bd.returns (own_narref rfl rfl) (Or.inr (Or.inr (Or.inr (Or.inr ⟨rfl, rfl, rfl⟩)))) (hb hby d1_30) hr
              · show own_Q1 Z u p0 h0 n0 _ T33.heap _
                rw [e33]
                exact ⟨(by unfold own_r1; rw [if_neg hc10, if_neg hc15, if_neg hc20, if_neg hc25, if_neg hc30, if_pos hc35]), N5, own_ext K5⟩
            · --
              obtain ⟨cl37, Ar37, -, S37, N37, H37, -⟩ := id V_b5
              have hin37 : ¬ ((6 : Int32) < 0 ∨ cl37.slots.size ≤ ((6 : Int32)).toNatClampNeg) := inb_of S37 ⟨by decide, by decide⟩
              obtain ⟨T38, X38, e38, st38⟩ := getF X33 hx hZ hown (host := "") (Or.inl (hw _ (List.mem_of_getElem? (i := 30) rfl))) Via.refl e33 (B.2.2.2.2.2.2.2.2.2.2.2.2.2.2.2.2.2.2.2.2.2.2.2.2.2.2.2.2.2.2.2.1.ext O5.2) (g := (mkF m 21 #[.val (.int p0), .val (.ref b5), .val (.int (11 : Int32)), .val (.int (6 : Int32)), .val (.ref (u 7))] [(.ref (u 7))])) rfl rfl (hb hby d1_21)
              have pre39 : ∀ t, Steps p.tables e below (T38.setTop (mkF m 25 #[.val (.int p0), .val (.ref b5), .val (.int (11 : Int32)), .val (.int (6 : Int32)), .val (.ref (u 7))] [(.int p0), (.int (35 : Int32))])) t → Steps p.tables e below (s₁.setTop (entryFrame m #[(.int p0)] 5)) t := fun t kt => pre34 t (by
                show Steps p.tables e below (T33.setTop (mkF m 25 #[.val (.int p0), .val (.ref b5), .val (.int (11 : Int32)), .val (.int (5 : Int32)), .val (.ref (u 6))] [(.int p0), (.int (34 : Int32))])) _
                refine XS.icmpYes X33.here hx rfl (pc0 := 25) (pc' := 31) rfl (hb hby d1_25) rfl (feq hc35).2 (by decide) (by decide) ?_
                show Steps p.tables e below (T33.setTop (mkF m 31 #[.val (.int p0), .val (.ref b5), .val (.int (11 : Int32)), .val (.int (5 : Int32)), .val (.ref (u 6))] [])) _
                refine XS.iinc X33.here hx rfl (hb hby d1_31) rfl (l' := #[.val (.int p0), .val (.ref b5), .val (.int (11 : Int32)), .val (.int (6 : Int32)), .val (.ref (u 6))]) rfl ?_
                show Steps p.tables e below (T33.setTop (mkF m 34 #[.val (.int p0), .val (.ref b5), .val (.int (11 : Int32)), .val (.int (6 : Int32)), .val (.ref (u 6))] [])) _
                refine XS.goto X33.here hx rfl (pc0 := 34) (pc' := 9) rfl (hb hby d1_34) (by decide) (by decide) ?_
                show Steps p.tables e below (T33.setTop (mkF m 9 #[.val (.int p0), .val (.ref b5), .val (.int (11 : Int32)), .val (.int (6 : Int32)), .val (.ref (u 6))] [])) _
                refine XS.iloadN X33.here hx rfl (hb hby d1_9) rfl ?_
                show Steps p.tables e below (T33.setTop (mkF m 10 #[.val (.int p0), .val (.ref b5), .val (.int (11 : Int32)), .val (.int (6 : Int32)), .val (.ref (u 6))] [(.int (6 : Int32))])) _
                refine XS.iloadN X33.here hx rfl (hb hby d1_10) rfl ?_
                show Steps p.tables e below (T33.setTop (mkF m 11 #[.val (.int p0), .val (.ref b5), .val (.int (11 : Int32)), .val (.int (6 : Int32)), .val (.ref (u 6))] [(.int (11 : Int32)), (.int (6 : Int32))])) _
                refine XS.icmpNo X33.here hx rfl (hb hby d1_11) rfl (tlt (by decide : (6 : Int32) < (11 : Int32))).2.1 ?_
                show Steps p.tables e below (T33.setTop (mkF m 14 #[.val (.int p0), .val (.ref b5), .val (.int (11 : Int32)), .val (.int (6 : Int32)), .val (.ref (u 6))] [])) _
                refine XS.aloadN X33.here hx rfl (hb hby d1_14) rfl rfl ?_
                show Steps p.tables e below (T33.setTop (mkF m 15 #[.val (.int p0), .val (.ref b5), .val (.int (11 : Int32)), .val (.int (6 : Int32)), .val (.ref (u 6))] [(.ref b5)])) _
                refine XS.iloadN X33.here hx rfl (hb hby d1_15) rfl ?_
                show Steps p.tables e below (T33.setTop (mkF m 16 #[.val (.int p0), .val (.ref b5), .val (.int (11 : Int32)), .val (.int (6 : Int32)), .val (.ref (u 6))] [(.int (6 : Int32)), (.ref b5)])) _
                refine X33.aaload hx (j := (6 : Int32)) (v := (.ref (u 7))) (by rw [e33]; exact Ar37.1) (State.isArrayOf_alike hZ.alike Ar37.2.1) rfl Ar37.2.2 hin37 (H37.at hin37 rfl) (g := (mkF m 16 #[.val (.int p0), .val (.ref b5), .val (.int (11 : Int32)), .val (.int (6 : Int32)), .val (.ref (u 6))] [(.int (6 : Int32)), (.ref b5)])) rfl rfl (hb hby d1_16) _ ?_
                show Steps p.tables e below (T33.setTop (mkF m 17 #[.val (.int p0), .val (.ref b5), .val (.int (11 : Int32)), .val (.int (6 : Int32)), .val (.ref (u 6))] [(.ref (u 7))])) _
                refine XS.astore X33.here hx rfl (hb hby d1_17) rfl rfl (l' := #[.val (.int p0), .val (.ref b5), .val (.int (11 : Int32)), .val (.int (6 : Int32)), .val (.ref (u 7))]) rfl ?_
                show Steps p.tables e below (T33.setTop (mkF m 19 #[.val (.int p0), .val (.ref b5), .val (.int (11 : Int32)), .val (.int (6 : Int32)), .val (.ref (u 7))] [])) _
                refine XS.aload X33.here hx rfl (hb hby d1_19) rfl rfl ?_
                show Steps p.tables e below (T33.setTop (mkF m 21 #[.val (.int p0), .val (.ref b5), .val (.int (11 : Int32)), .val (.int (6 : Int32)), .val (.ref (u 7))] [(.ref (u 7))])) _
                refine st38 _ ?_
                show Steps p.tables e below (T38.setTop (mkF m 24 #[.val (.int p0), .val (.ref b5), .val (.int (11 : Int32)), .val (.int (6 : Int32)), .val (.ref (u 7))] [(.int (35 : Int32))])) _
                refine XS.iloadN X38.here hx rfl (hb hby d1_24) rfl ?_
                exact kt)
              by_cases hc40 : (35 : Int32) = p0
              · --
                obtain ⟨fs, hr, hrun, hended, hW, hsame⟩ := X38.leave (v := some (.ref (u 7))) (fun h => by rw [Bd.returns] at h; cases h)
                refine ⟨_, _, pre39 _ ?_, hrun, hended, _, _, rfl, ?_, ⟨_, rfl⟩, hW, hsame.mono (by decide) (by decide)⟩
                · show Steps p.tables e below (T38.setTop (mkF m 25 #[.val (.int p0), .val (.ref b5), .val (.int (11 : Int32)), .val (.int (6 : Int32)), .val (.ref (u 7))] [(.int p0), (.int (35 : Int32))])) _
                  refine XS.icmpNo X38.here hx rfl (hb hby d1_25) rfl (teq hc40).2 ?_
                  show Steps p.tables e below (T38.setTop (mkF m 28 #[.val (.int p0), .val (.ref b5), .val (.int (11 : Int32)), .val (.int (6 : Int32)), .val (.ref (u 7))] [])) _
                  refine XS.aload X38.here hx rfl (hb hby d1_28) rfl rfl ?_
                  show Steps p.tables e below (T38.setTop (mkF m 30 #[.val (.int p0), .val (.ref b5), .val (.int (11 : Int32)), .val (.int (6 : Int32)), .val (.ref (u 7))] [(.ref (u 7))])) _
                  exact retOut X38 hx Bd.returns (own_narref rfl rfl) (Or.inr (Or.inr (Or.inr (Or.inr ⟨rfl, rfl, rfl⟩)))) (hb hby d1_30) hr
                · show own_Q1 Z u p0 h0 n0 _ T38.heap _
                  rw [e38]
                  exact ⟨(by unfold own_r1; rw [if_neg hc10, if_neg hc15, if_neg hc20, if_neg hc25, if_neg hc30, if_neg hc35, if_pos hc40]), N5, own_ext K5⟩
              · --
                obtain ⟨cl42, Ar42, -, S42, N42, H42, -⟩ := id V_b5
                have hin42 : ¬ ((7 : Int32) < 0 ∨ cl42.slots.size ≤ ((7 : Int32)).toNatClampNeg) := inb_of S42 ⟨by decide, by decide⟩
                obtain ⟨T43, X43, e43, st43⟩ := getF X38 hx hZ hown (host := "") (Or.inl (hw _ (List.mem_of_getElem? (i := 30) rfl))) Via.refl e38 (B.2.2.2.2.2.2.2.2.2.2.2.2.2.2.2.2.2.2.2.2.2.2.2.2.2.2.2.2.2.2.2.2.1.ext O5.2) (g := (mkF m 21 #[.val (.int p0), .val (.ref b5), .val (.int (11 : Int32)), .val (.int (7 : Int32)), .val (.ref (u 8))] [(.ref (u 8))])) rfl rfl (hb hby d1_21)
                have pre44 : ∀ t, Steps p.tables e below (T43.setTop (mkF m 25 #[.val (.int p0), .val (.ref b5), .val (.int (11 : Int32)), .val (.int (7 : Int32)), .val (.ref (u 8))] [(.int p0), (.int (36 : Int32))])) t → Steps p.tables e below (s₁.setTop (entryFrame m #[(.int p0)] 5)) t := fun t kt => pre39 t (by
                  show Steps p.tables e below (T38.setTop (mkF m 25 #[.val (.int p0), .val (.ref b5), .val (.int (11 : Int32)), .val (.int (6 : Int32)), .val (.ref (u 7))] [(.int p0), (.int (35 : Int32))])) _
                  refine XS.icmpYes X38.here hx rfl (pc0 := 25) (pc' := 31) rfl (hb hby d1_25) rfl (feq hc40).2 (by decide) (by decide) ?_
                  show Steps p.tables e below (T38.setTop (mkF m 31 #[.val (.int p0), .val (.ref b5), .val (.int (11 : Int32)), .val (.int (6 : Int32)), .val (.ref (u 7))] [])) _
                  refine XS.iinc X38.here hx rfl (hb hby d1_31) rfl (l' := #[.val (.int p0), .val (.ref b5), .val (.int (11 : Int32)), .val (.int (7 : Int32)), .val (.ref (u 7))]) rfl ?_
                  show Steps p.tables e below (T38.setTop (mkF m 34 #[.val (.int p0), .val (.ref b5), .val (.int (11 : Int32)), .val (.int (7 : Int32)), .val (.ref (u 7))] [])) _
                  refine XS.goto X38.here hx rfl (pc0 := 34) (pc' := 9) rfl (hb hby d1_34) (by decide) (by decide) ?_
                  show Steps p.tables e below (T38.setTop (mkF m 9 #[.val (.int p0), .val (.ref b5), .val (.int (11 : Int32)), .val (.int (7 : Int32)), .val (.ref (u 7))] [])) _
                  refine XS.iloadN X38.here hx rfl (hb hby d1_9) rfl ?_
                  show Steps p.tables e below (T38.setTop (mkF m 10 #[.val (.int p0), .val (.ref b5), .val (.int (11 : Int32)), .val (.int (7 : Int32)), .val (.ref (u 7))] [(.int (7 : Int32))])) _
                  refine XS.iloadN X38.here hx rfl (hb hby d1_10) rfl ?_
                  show Steps p.tables e below (T38.setTop (mkF m 11 #[.val (.int p0), .val (.ref b5), .val (.int (11 : Int32)), .val (.int (7 : Int32)), .val (.ref (u 7))] [(.int (11 : Int32)), (.int (7 : Int32))])) _
                  refine XS.icmpNo X38.here hx rfl (hb hby d1_11) rfl (tlt (by decide : (7 : Int32) < (11 : Int32))).2.1 ?_
                  show Steps p.tables e below (T38.setTop (mkF m 14 #[.val (.int p0), .val (.ref b5), .val (.int (11 : Int32)), .val (.int (7 : Int32)), .val (.ref (u 7))] [])) _
                  refine XS.aloadN X38.here hx rfl (hb hby d1_14) rfl rfl ?_
                  show Steps p.tables e below (T38.setTop (mkF m 15 #[.val (.int p0), .val (.ref b5), .val (.int (11 : Int32)), .val (.int (7 : Int32)), .val (.ref (u 7))] [(.ref b5)])) _
                  refine XS.iloadN X38.here hx rfl (hb hby d1_15) rfl ?_
                  show Steps p.tables e below (T38.setTop (mkF m 16 #[.val (.int p0), .val (.ref b5), .val (.int (11 : Int32)), .val (.int (7 : Int32)), .val (.ref (u 7))] [(.int (7 : Int32)), (.ref b5)])) _
                  refine X38.aaload hx (j := (7 : Int32)) (v := (.ref (u 8))) (by rw [e38]; exact Ar42.1) (State.isArrayOf_alike hZ.alike Ar42.2.1) rfl Ar42.2.2 hin42 (H42.at hin42 rfl) (g := (mkF m 16 #[.val (.int p0), .val (.ref b5), .val (.int (11 : Int32)), .val (.int (7 : Int32)), .val (.ref (u 7))] [(.int (7 : Int32)), (.ref b5)])) rfl rfl (hb hby d1_16) _ ?_
                  show Steps p.tables e below (T38.setTop (mkF m 17 #[.val (.int p0), .val (.ref b5), .val (.int (11 : Int32)), .val (.int (7 : Int32)), .val (.ref (u 7))] [(.ref (u 8))])) _
                  refine XS.astore X38.here hx rfl (hb hby d1_17) rfl rfl (l' := #[.val (.int p0), .val (.ref b5), .val (.int (11 : Int32)), .val (.int (7 : Int32)), .val (.ref (u 8))]) rfl ?_
                  show Steps p.tables e below (T38.setTop (mkF m 19 #[.val (.int p0), .val (.ref b5), .val (.int (11 : Int32)), .val (.int (7 : Int32)), .val (.ref (u 8))] [])) _
                  refine XS.aload X38.here hx rfl (hb hby d1_19) rfl rfl ?_
                  show Steps p.tables e below (T38.setTop (mkF m 21 #[.val (.int p0), .val (.ref b5), .val (.int (11 : Int32)), .val (.int (7 : Int32)), .val (.ref (u 8))] [(.ref (u 8))])) _
                  refine st43 _ ?_
                  show Steps p.tables e below (T43.setTop (mkF m 24 #[.val (.int p0), .val (.ref b5), .val (.int (11 : Int32)), .val (.int (7 : Int32)), .val (.ref (u 8))] [(.int (36 : Int32))])) _
                  refine XS.iloadN X43.here hx rfl (hb hby d1_24) rfl ?_
                  exact kt)
                by_cases hc45 : (36 : Int32) = p0
                · --
                  obtain ⟨fs, hr, hrun, hended, hW, hsame⟩ := X43.leave (v := some (.ref (u 8))) (fun h => by rw [Bd.returns] at h; cases h)
                  refine ⟨_, _, pre44 _ ?_, hrun, hended, _, _, rfl, ?_, ⟨_, rfl⟩, hW, hsame.mono (by decide) (by decide)⟩
                  · show Steps p.tables e below (T43.setTop (mkF m 25 #[.val (.int p0), .val (.ref b5), .val (.int (11 : Int32)), .val (.int (7 : Int32)), .val (.ref (u 8))] [(.int p0), (.int (36 : Int32))])) _
                    refine XS.icmpNo X43.here hx rfl (hb hby d1_25) rfl (teq hc45).2 ?_
                    show Steps p.tables e below (T43.setTop (mkF m 28 #[.val (.int p0), .val (.ref b5), .val (.int (11 : Int32)), .val (.int (7 : Int32)), .val (.ref (u 8))] [])) _
                    refine XS.aload X43.here hx rfl (hb hby d1_28) rfl rfl ?_
                    show Steps p.tables e below (T43.setTop (mkF m 30 #[.val (.int p0), .val (.ref b5), .val (.int (11 : Int32)), .val (.int (7 : Int32)), .val (.ref (u 8))] [(.ref (u 8))])) _
                    exact retOut X43 hx Bd.returns (own_narref rfl rfl) (Or.inr (Or.inr (Or.inr (Or.inr ⟨rfl, rfl, rfl⟩)))) (hb hby d1_30) hr
                  · show own_Q1 Z u p0 h0 n0 _ T43.heap _
                    rw [e43]
                    exact ⟨(by unfold own_r1; rw [if_neg hc10, if_neg hc15, if_neg hc20, if_neg hc25, if_neg hc30, if_neg hc35, if_neg hc40, if_pos hc45]), N5, own_ext K5⟩
                · --
                  obtain ⟨cl47, Ar47, -, S47, N47, H47, -⟩ := id V_b5
                  have hin47 : ¬ ((8 : Int32) < 0 ∨ cl47.slots.size ≤ ((8 : Int32)).toNatClampNeg) := inb_of S47 ⟨by decide, by decide⟩
                  obtain ⟨T48, X48, e48, st48⟩ := getF X43 hx hZ hown (host := "") (Or.inl (hw _ (List.mem_of_getElem? (i := 30) rfl))) Via.refl e43 (B.2.2.2.2.2.2.2.2.2.2.2.2.2.2.2.2.2.2.2.2.2.2.2.2.2.2.2.2.2.2.2.2.2.1.ext O5.2) (g := (mkF m 21 #[.val (.int p0), .val (.ref b5), .val (.int (11 : Int32)), .val (.int (8 : Int32)), .val (.ref (u 9))] [(.ref (u 9))])) rfl rfl (hb hby d1_21)
                  have pre49 : ∀ t, Steps p.tables e below (T48.setTop (mkF m 25 #[.val (.int p0), .val (.ref b5), .val (.int (11 : Int32)), .val (.int (8 : Int32)), .val (.ref (u 9))] [(.int p0), (.int (41 : Int32))])) t → Steps p.tables e below (s₁.setTop (entryFrame m #[(.int p0)] 5)) t := fun t kt => pre44 t (by
                    show Steps p.tables e below (T43.setTop (mkF m 25 #[.val (.int p0), .val (.ref b5), .val (.int (11 : Int32)), .val (.int (7 : Int32)), .val (.ref (u 8))] [(.int p0), (.int (36 : Int32))])) _
                    refine XS.icmpYes X43.here hx rfl (pc0 := 25) (pc' := 31) rfl (hb hby d1_25) rfl (feq hc45).2 (by decide) (by decide) ?_
                    show Steps p.tables e below (T43.setTop (mkF m 31 #[.val (.int p0), .val (.ref b5), .val (.int (11 : Int32)), .val (.int (7 : Int32)), .val (.ref (u 8))] [])) _
                    refine XS.iinc X43.here hx rfl (hb hby d1_31) rfl (l' := #[.val (.int p0), .val (.ref b5), .val (.int (11 : Int32)), .val (.int (8 : Int32)), .val (.ref (u 8))]) rfl ?_
                    show Steps p.tables e below (T43.setTop (mkF m 34 #[.val (.int p0), .val (.ref b5), .val (.int (11 : Int32)), .val (.int (8 : Int32)), .val (.ref (u 8))] [])) _
                    refine XS.goto X43.here hx rfl (pc0 := 34) (pc' := 9) rfl (hb hby d1_34) (by decide) (by decide) ?_
                    show Steps p.tables e below (T43.setTop (mkF m 9 #[.val (.int p0), .val (.ref b5), .val (.int (11 : Int32)), .val (.int (8 : Int32)), .val (.ref (u 8))] [])) _
                    refine XS.iloadN X43.here hx rfl (hb hby d1_9) rfl ?_
                    show Steps p.tables e below (T43.setTop (mkF m 10 #[.val (.int p0), .val (.ref b5), .val (.int (11 : Int32)), .val (.int (8 : Int32)), .val (.ref (u 8))] [(.int (8 : Int32))])) _
                    refine XS.iloadN X43.here hx rfl (hb hby d1_10) rfl ?_
                    show Steps p.tables e below (T43.setTop (mkF m 11 #[.val (.int p0), .val (.ref b5), .val (.int (11 : Int32)), .val (.int (8 : Int32)), .val (.ref (u 8))] [(.int (11 : Int32)), (.int (8 : Int32))])) _
                    refine XS.icmpNo X43.here hx rfl (hb hby d1_11) rfl (tlt (by decide : (8 : Int32) < (11 : Int32))).2.1 ?_
                    show Steps p.tables e below (T43.setTop (mkF m 14 #[.val (.int p0), .val (.ref b5), .val (.int (11 : Int32)), .val (.int (8 : Int32)), .val (.ref (u 8))] [])) _
                    refine XS.aloadN X43.here hx rfl (hb hby d1_14) rfl rfl ?_
                    show Steps p.tables e below (T43.setTop (mkF m 15 #[.val (.int p0), .val (.ref b5), .val (.int (11 : Int32)), .val (.int (8 : Int32)), .val (.ref (u 8))] [(.ref b5)])) _
                    refine XS.iloadN X43.here hx rfl (hb hby d1_15) rfl ?_
                    show Steps p.tables e below (T43.setTop (mkF m 16 #[.val (.int p0), .val (.ref b5), .val (.int (11 : Int32)), .val (.int (8 : Int32)), .val (.ref (u 8))] [(.int (8 : Int32)), (.ref b5)])) _
                    refine X43.aaload hx (j := (8 : Int32)) (v := (.ref (u 9))) (by rw [e43]; exact Ar47.1) (State.isArrayOf_alike hZ.alike Ar47.2.1) rfl Ar47.2.2 hin47 (H47.at hin47 rfl) (g := (mkF m 16 #[.val (.int p0), .val (.ref b5), .val (.int (11 : Int32)), .val (.int (8 : Int32)), .val (.ref (u 8))] [(.int (8 : Int32)), (.ref b5)])) rfl rfl (hb hby d1_16) _ ?_
                    show Steps p.tables e below (T43.setTop (mkF m 17 #[.val (.int p0), .val (.ref b5), .val (.int (11 : Int32)), .val (.int (8 : Int32)), .val (.ref (u 8))] [(.ref (u 9))])) _
                    refine XS.astore X43.here hx rfl (hb hby d1_17) rfl rfl (l' := #[.val (.int p0), .val (.ref b5), .val (.int (11 : Int32)), .val (.int (8 : Int32)), .val (.ref (u 9))]) rfl ?_
                    show Steps p.tables e below (T43.setTop (mkF m 19 #[.val (.int p0), .val (.ref b5), .val (.int (11 : Int32)), .val (.int (8 : Int32)), .val (.ref (u 9))] [])) _
                    refine XS.aload X43.here hx rfl (hb hby d1_19) rfl rfl ?_
                    show Steps p.tables e below (T43.setTop (mkF m 21 #[.val (.int p0), .val (.ref b5), .val (.int (11 : Int32)), .val (.int (8 : Int32)), .val (.ref (u 9))] [(.ref (u 9))])) _
                    refine st48 _ ?_
                    show Steps p.tables e below (T48.setTop (mkF m 24 #[.val (.int p0), .val (.ref b5), .val (.int (11 : Int32)), .val (.int (8 : Int32)), .val (.ref (u 9))] [(.int (41 : Int32))])) _
                    refine XS.iloadN X48.here hx rfl (hb hby d1_24) rfl ?_
                    exact kt)
                  by_cases hc50 : (41 : Int32) = p0
                  · --
                    obtain ⟨fs, hr, hrun, hended, hW, hsame⟩ := X48.leave (v := some (.ref (u 9))) (fun h => by rw [Bd.returns] at h; cases h)
                    refine ⟨_, _, pre49 _ ?_, hrun, hended, _, _, rfl, ?_, ⟨_, rfl⟩, hW, hsame.mono (by decide) (by decide)⟩
                    · show Steps p.tables e below (T48.setTop (mkF m 25 #[.val (.int p0), .val (.ref b5), .val (.int (11 : Int32)), .val (.int (8 : Int32)), .val (.ref (u 9))] [(.int p0), (.int (41 : Int32))])) _
                      refine XS.icmpNo X48.here hx rfl (hb hby d1_25) rfl (teq hc50).2 ?_
                      show Steps p.tables e below (T48.setTop (mkF m 28 #[.val (.int p0), .val (.ref b5), .val (.int (11 : Int32)), .val (.int (8 : Int32)), .val (.ref (u 9))] [])) _
                      refine XS.aload X48.here hx rfl (hb hby d1_28) rfl rfl ?_
                      show Steps p.tables e below (T48.setTop (mkF m 30 #[.val (.int p0), .val (.ref b5), .val (.int (11 : Int32)), .val (.int (8 : Int32)), .val (.ref (u 9))] [(.ref (u 9))])) _
                      exact retOut X48 hx Bd.returns (own_narref rfl rfl) (Or.inr (Or.inr (Or.inr (Or.inr ⟨rfl, rfl, rfl⟩)))) (hb hby d1_30) hr
                    · show own_Q1 Z u p0 h0 n0 _ T48.heap _
                      rw [e48]
                      exact ⟨(by unfold own_r1; rw [if_neg hc10, if_neg hc15, if_neg hc20, if_neg hc25, if_neg hc30, if_neg hc35, if_neg hc40, if_neg hc45, if_pos hc50]), N5, own_ext K5⟩
                  · --
                    obtain ⟨cl52, Ar52, -, S52, N52, H52, -⟩ := id V_b5
                    have hin52 : ¬ ((9 : Int32) < 0 ∨ cl52.slots.size ≤ ((9 : Int32)).toNatClampNeg) := inb_of S52 ⟨by decide, by decide⟩
                    obtain ⟨T53, X53, e53, st53⟩ := getF X48 hx hZ hown (host := "") (Or.inl (hw _ (List.mem_of_getElem? (i := 30) rfl))) Via.refl e48 (B.2.2.2.2.2.2.2.2.2.2.2.2.2.2.2.2.2.2.2.2.2.2.2.2.2.2.2.2.2.2.2.2.2.2.1.ext O5.2) (g := (mkF m 21 #[.val (.int p0), .val (.ref b5), .val (.int (11 : Int32)), .val (.int (9 : Int32)), .val (.ref (u 10))] [(.ref (u 10))])) rfl rfl (hb hby d1_21)
                    have pre54 : ∀ t, Steps p.tables e below (T53.setTop (mkF m 25 #[.val (.int p0), .val (.ref b5), .val (.int (11 : Int32)), .val (.int (9 : Int32)), .val (.ref (u 10))] [(.int p0), (.int (42 : Int32))])) t → Steps p.tables e below (s₁.setTop (entryFrame m #[(.int p0)] 5)) t := fun t kt => pre49 t (by
                      show Steps p.tables e below (T48.setTop (mkF m 25 #[.val (.int p0), .val (.ref b5), .val (.int (11 : Int32)), .val (.int (8 : Int32)), .val (.ref (u 9))] [(.int p0), (.int (41 : Int32))])) _
                      refine XS.icmpYes X48.here hx rfl (pc0 := 25) (pc' := 31) rfl (hb hby d1_25) rfl (feq hc50).2 (by decide) (by decide) ?_
                      show Steps p.tables e below (T48.setTop (mkF m 31 #[.val (.int p0), .val (.ref b5), .val (.int (11 : Int32)), .val (.int (8 : Int32)), .val (.ref (u 9))] [])) _
                      refine XS.iinc X48.here hx rfl (hb hby d1_31) rfl (l' := #[.val (.int p0), .val (.ref b5), .val (.int (11 : Int32)), .val (.int (9 : Int32)), .val (.ref (u 9))]) rfl ?_
                      show Steps p.tables e below (T48.setTop (mkF m 34 #[.val (.int p0), .val (.ref b5), .val (.int (11 : Int32)), .val (.int (9 : Int32)), .val (.ref (u 9))] [])) _
                      refine XS.goto X48.here hx rfl (pc0 := 34) (pc' := 9) rfl (hb hby d1_34) (by decide) (by decide) ?_
                      show Steps p.tables e below (T48.setTop (mkF m 9 #[.val (.int p0), .val (.ref b5), .val (.int (11 : Int32)), .val (.int (9 : Int32)), .val (.ref (u 9))] [])) _
                      refine XS.iloadN X48.here hx rfl (hb hby d1_9) rfl ?_
                      show Steps p.tables e below (T48.setTop (mkF m 10 #[.val (.int p0), .val (.ref b5), .val (.int (11 : Int32)), .val (.int (9 : Int32)), .val (.ref (u 9))] [(.int (9 : Int32))])) _
                      refine XS.iloadN X48.here hx rfl (hb hby d1_10) rfl ?_
                      show Steps p.tables e below (T48.setTop (mkF m 11 #[.val (.int p0), .val (.ref b5), .val (.int (11 : Int32)), .val (.int (9 : Int32)), .val (.ref (u 9))] [(.int (11 : Int32)), (.int (9 : Int32))])) _
                      refine XS.icmpNo X48.here hx rfl (hb hby d1_11) rfl (tlt (by decide : (9 : Int32) < (11 : Int32))).2.1 ?_
                      show Steps p.tables e below (T48.setTop (mkF m 14 #[.val (.int p0), .val (.ref b5), .val (.int (11 : Int32)), .val (.int (9 : Int32)), .val (.ref (u 9))] [])) _
                      refine XS.aloadN X48.here hx rfl (hb hby d1_14) rfl rfl ?_
                      show Steps p.tables e below (T48.setTop (mkF m 15 #[.val (.int p0), .val (.ref b5), .val (.int (11 : Int32)), .val (.int (9 : Int32)), .val (.ref (u 9))] [(.ref b5)])) _
                      refine XS.iloadN X48.here hx rfl (hb hby d1_15) rfl ?_
                      show Steps p.tables e below (T48.setTop (mkF m 16 #[.val (.int p0), .val (.ref b5), .val (.int (11 : Int32)), .val (.int (9 : Int32)), .val (.ref (u 9))] [(.int (9 : Int32)), (.ref b5)])) _
                      refine X48.aaload hx (j := (9 : Int32)) (v := (.ref (u 10))) (by rw [e48]; exact Ar52.1) (State.isArrayOf_alike hZ.alike Ar52.2.1) rfl Ar52.2.2 hin52 (H52.at hin52 rfl) (g := (mkF m 16 #[.val (.int p0), .val (.ref b5), .val (.int (11 : Int32)), .val (.int (9 : Int32)), .val (.ref (u 9))] [(.int (9 : Int32)), (.ref b5)])) rfl rfl (hb hby d1_16) _ ?_
                      show Steps p.tables e below (T48.setTop (mkF m 17 #[.val (.int p0), .val (.ref b5), .val (.int (11 : Int32)), .val (.int (9 : Int32)), .val (.ref (u 9))] [(.ref (u 10))])) _
                      refine XS.astore X48.here hx rfl (hb hby d1_17) rfl rfl (l' := #[.val (.int p0), .val (.ref b5), .val (.int (11 : Int32)), .val (.int (9 : Int32)), .val (.ref (u 10))]) rfl ?_
                      show Steps p.tables e below (T48.setTop (mkF m 19 #[.val (.int p0), .val (.ref b5), .val (.int (11 : Int32)), .val (.int (9 : Int32)), .val (.ref (u 10))] [])) _
                      refine XS.aload X48.here hx rfl (hb hby d1_19) rfl rfl ?_
                      show Steps p.tables e below (T48.setTop (mkF m 21 #[.val (.int p0), .val (.ref b5), .val (.int (11 : Int32)), .val (.int (9 : Int32)), .val (.ref (u 10))] [(.ref (u 10))])) _
                      refine st53 _ ?_
                      show Steps p.tables e below (T53.setTop (mkF m 24 #[.val (.int p0), .val (.ref b5), .val (.int (11 : Int32)), .val (.int (9 : Int32)), .val (.ref (u 10))] [(.int (42 : Int32))])) _
                      refine XS.iloadN X53.here hx rfl (hb hby d1_24) rfl ?_
                      exact kt)
                    by_cases hc55 : (42 : Int32) = p0
                    · --
                      obtain ⟨fs, hr, hrun, hended, hW, hsame⟩ := X53.leave (v := some (.ref (u 10))) (fun h => by rw [Bd.returns] at h; cases h)
                      refine ⟨_, _, pre54 _ ?_, hrun, hended, _, _, rfl, ?_, ⟨_, rfl⟩, hW, hsame.mono (by decide) (by decide)⟩
                      · show Steps p.tables e below (T53.setTop (mkF m 25 #[.val (.int p0), .val (.ref b5), .val (.int (11 : Int32)), .val (.int (9 : Int32)), .val (.ref (u 10))] [(.int p0), (.int (42 : Int32))])) _
                        refine XS.icmpNo X53.here hx rfl (hb hby d1_25) rfl (teq hc55).2 ?_
                        show Steps p.tables e below (T53.setTop (mkF m 28 #[.val (.int p0), .val (.ref b5), .val (.int (11 : Int32)), .val (.int (9 : Int32)), .val (.ref (u 10))] [])) _
                        refine XS.aload X53.here hx rfl (hb hby d1_28) rfl rfl ?_
                        show Steps p.tables e below (T53.setTop (mkF m 30 #[.val (.int p0), .val (.ref b5), .val (.int (11 : Int32)), .val (.int (9 : Int32)), .val (.ref (u 10))] [(.ref (u 10))])) _
                        exact retOut X53 hx Bd.returns (own_narref rfl rfl) (Or.inr (Or.inr (Or.inr (Or.inr ⟨rfl, rfl, rfl⟩)))) (hb hby d1_30) hr
                      · show own_Q1 Z u p0 h0 n0 _ T53.heap _
                        rw [e53]
                        exact ⟨(by unfold own_r1; rw [if_neg hc10, if_neg hc15, if_neg hc20, if_neg hc25, if_neg hc30, if_neg hc35, if_neg hc40, if_neg hc45, if_neg hc50, if_pos hc55]), N5, own_ext K5⟩
                    · --
                      obtain ⟨cl57, Ar57, -, S57, N57, H57, -⟩ := id V_b5
                      have hin57 : ¬ ((10 : Int32) < 0 ∨ cl57.slots.size ≤ ((10 : Int32)).toNatClampNeg) := inb_of S57 ⟨by decide, by decide⟩
                      obtain ⟨T58, X58, e58, st58⟩ := getF X53 hx hZ hown (host := "") (Or.inl (hw _ (List.mem_of_getElem? (i := 30) rfl))) Via.refl e53 (B.2.2.2.2.2.2.2.2.2.2.2.2.2.2.2.2.2.2.2.2.2.2.2.2.2.2.2.2.2.2.2.2.2.2.2.ext O5.2) (g := (mkF m 21 #[.val (.int p0), .val (.ref b5), .val (.int (11 : Int32)), .val (.int (10 : Int32)), .val (.ref (u 11))] [(.ref (u 11))])) rfl rfl (hb hby d1_21)
                      have pre59 : ∀ t, Steps p.tables e below (T58.setTop (mkF m 25 #[.val (.int p0), .val (.ref b5), .val (.int (11 : Int32)), .val (.int (10 : Int32)), .val (.ref (u 11))] [(.int p0), (.int (43 : Int32))])) t → Steps p.tables e below (s₁.setTop (entryFrame m #[(.int p0)] 5)) t := fun t kt => pre54 t (by
                        show Steps p.tables e below (T53.setTop (mkF m 25 #[.val (.int p0), .val (.ref b5), .val (.int (11 : Int32)), .val (.int (9 : Int32)), .val (.ref (u 10))] [(.int p0), (.int (42 : Int32))])) _
                        refine XS.icmpYes X53.here hx rfl (pc0 := 25) (pc' := 31) rfl (hb hby d1_25) rfl (feq hc55).2 (by decide) (by decide) ?_
                        show Steps p.tables e below (T53.setTop (mkF m 31 #[.val (.int p0), .val (.ref b5), .val (.int (11 : Int32)), .val (.int (9 : Int32)), .val (.ref (u 10))] [])) _
                        refine XS.iinc X53.here hx rfl (hb hby d1_31) rfl (l' := #[.val (.int p0), .val (.ref b5), .val (.int (11 : Int32)), .val (.int (10 : Int32)), .val (.ref (u 10))]) rfl ?_
                        show Steps p.tables e below (T53.setTop (mkF m 34 #[.val (.int p0), .val (.ref b5), .val (.int (11 : Int32)), .val (.int (10 : Int32)), .val (.ref (u 10))] [])) _
                        refine XS.goto X53.here hx rfl (pc0 := 34) (pc' := 9) rfl (hb hby d1_34) (by decide) (by decide) ?_
                        show Steps p.tables e below (T53.setTop (mkF m 9 #[.val (.int p0), .val (.ref b5), .val (.int (11 : Int32)), .val (.int (10 : Int32)), .val (.ref (u 10))] [])) _
                        refine XS.iloadN X53.here hx rfl (hb hby d1_9) rfl ?_
                        show Steps p.tables e below (T53.setTop (mkF m 10 #[.val (.int p0), .val (.ref b5), .val (.int (11 : Int32)), .val (.int (10 : Int32)), .val (.ref (u 10))] [(.int (10 : Int32))])) _
                        refine XS.iloadN X53.here hx rfl (hb hby d1_10) rfl ?_
                        show Steps p.tables e below (T53.setTop (mkF m 11 #[.val (.int p0), .val (.ref b5), .val (.int (11 : Int32)), .val (.int (10 : Int32)), .val (.ref (u 10))] [(.int (11 : Int32)), (.int (10 : Int32))])) _
                        refine XS.icmpNo X53.here hx rfl (hb hby d1_11) rfl (tlt (by decide : (10 : Int32) < (11 : Int32))).2.1 ?_
                        show Steps p.tables e below (T53.setTop (mkF m 14 #[.val (.int p0), .val (.ref b5), .val (.int (11 : Int32)), .val (.int (10 : Int32)), .val (.ref (u 10))] [])) _
                        refine XS.aloadN X53.here hx rfl (hb hby d1_14) rfl rfl ?_
                        show Steps p.tables e below (T53.setTop (mkF m 15 #[.val (.int p0), .val (.ref b5), .val (.int (11 : Int32)), .val (.int (10 : Int32)), .val (.ref (u 10))] [(.ref b5)])) _
                        refine XS.iloadN X53.here hx rfl (hb hby d1_15) rfl ?_
                        show Steps p.tables e below (T53.setTop (mkF m 16 #[.val (.int p0), .val (.ref b5), .val (.int (11 : Int32)), .val (.int (10 : Int32)), .val (.ref (u 10))] [(.int (10 : Int32)), (.ref b5)])) _
                        refine X53.aaload hx (j := (10 : Int32)) (v := (.ref (u 11))) (by rw [e53]; exact Ar57.1) (State.isArrayOf_alike hZ.alike Ar57.2.1) rfl Ar57.2.2 hin57 (H57.at hin57 rfl) (g := (mkF m 16 #[.val (.int p0), .val (.ref b5), .val (.int (11 : Int32)), .val (.int (10 : Int32)), .val (.ref (u 10))] [(.int (10 : Int32)), (.ref b5)])) rfl rfl (hb hby d1_16) _ ?_
                        show Steps p.tables e below (T53.setTop (mkF m 17 #[.val (.int p0), .val (.ref b5), .val (.int (11 : Int32)), .val (.int (10 : Int32)), .val (.ref (u 10))] [(.ref (u 11))])) _
                        refine XS.astore X53.here hx rfl (hb hby d1_17) rfl rfl (l' := #[.val (.int p0), .val (.ref b5), .val (.int (11 : Int32)), .val (.int (10 : Int32)), .val (.ref (u 11))]) rfl ?_
                        show Steps p.tables e below (T53.setTop (mkF m 19 #[.val (.int p0), .val (.ref b5), .val (.int (11 : Int32)), .val (.int (10 : Int32)), .val (.ref (u 11))] [])) _
                        refine XS.aload X53.here hx rfl (hb hby d1_19) rfl rfl ?_
                        show Steps p.tables e below (T53.setTop (mkF m 21 #[.val (.int p0), .val (.ref b5), .val (.int (11 : Int32)), .val (.int (10 : Int32)), .val (.ref (u 11))] [(.ref (u 11))])) _
                        refine st58 _ ?_
                        show Steps p.tables e below (T58.setTop (mkF m 24 #[.val (.int p0), .val (.ref b5), .val (.int (11 : Int32)), .val (.int (10 : Int32)), .val (.ref (u 11))] [(.int (43 : Int32))])) _
                        refine XS.iloadN X58.here hx rfl (hb hby d1_24) rfl ?_
                        exact kt)
                      by_cases hc60 : (43 : Int32) = p0
                      · --
                        obtain ⟨fs, hr, hrun, hended, hW, hsame⟩ := X58.leave (v := some (.ref (u 11))) (fun h => by rw [Bd.returns] at h; cases h)
                        refine ⟨_, _, pre59 _ ?_, hrun, hended, _, _, rfl, ?_, ⟨_, rfl⟩, hW, hsame.mono (by decide) (by decide)⟩
                        · show Steps p.tables e below (T58.setTop (mkF m 25 #[.val (.int p0), .val (.ref b5), .val (.int (11 : Int32)), .val (.int (10 : Int32)), .val (.ref (u 11))] [(.int p0), (.int (43 : Int32))])) _
                          refine XS.icmpNo X58.here hx rfl (hb hby d1_25) rfl (teq hc60).2 ?_
                          show Steps p.tables e below (T58.setTop (mkF m 28 #[.val (.int p0), .val (.ref b5), .val (.int (11 : Int32)), .val (.int (10 : Int32)), .val (.ref (u 11))] [])) _
                          refine XS.aload X58.here hx rfl (hb hby d1_28) rfl rfl ?_
                          show Steps p.tables e below (T58.setTop (mkF m 30 #[.val (.int p0), .val (.ref b5), .val (.int (11 : Int32)), .val (.int (10 : Int32)), .val (.ref (u 11))] [(.ref (u 11))])) _
                          exact retOut X58 hx Bd.returns (own_narref rfl rfl) (Or.inr (Or.inr (Or.inr (Or.inr ⟨rfl, rfl, rfl⟩)))) (hb hby d1_30) hr
                        · show own_Q1 Z u p0 h0 n0 _ T58.heap _
                          rw [e58]
                          exact ⟨(by unfold own_r1; rw [if_neg hc10, if_neg hc15, if_neg hc20, if_neg hc25, if_neg hc30, if_neg hc35, if_neg hc40, if_neg hc45, if_neg hc50, if_neg hc55, if_pos hc60]), N5, own_ext K5⟩
                      · --
                        obtain ⟨fs, hr, hrun, hended, hW, hsame⟩ := X58.leave (v := some .null) (fun h => by rw [Bd.returns] at h; cases h)
                        refine ⟨_, _, pre59 _ ?_, hrun, hended, _, _, rfl, ?_, ⟨_, rfl⟩, hW, hsame.mono (by decide) (by decide)⟩
                        · show Steps p.tables e below (T58.setTop (mkF m 25 #[.val (.int p0), .val (.ref b5), .val (.int (11 : Int32)), .val (.int (10 : Int32)), .val (.ref (u 11))] [(.int p0), (.int (43 : Int32))])) _
                          refine XS.icmpYes X58.here hx rfl (pc0 := 25) (pc' := 31) rfl (hb hby d1_25) rfl (feq hc60).2 (by decide) (by decide) ?_
                          show Steps p.tables e below (T58.setTop (mkF m 31 #[.val (.int p0), .val (.ref b5), .val (.int (11 : Int32)), .val (.int (10 : Int32)), .val (.ref (u 11))] [])) _
                          refine XS.iinc X58.here hx rfl (hb hby d1_31) rfl (l' := #[.val (.int p0), .val (.ref b5), .val (.int (11 : Int32)), .val (.int (11 : Int32)), .val (.ref (u 11))]) rfl ?_
                          show Steps p.tables e below (T58.setTop (mkF m 34 #[.val (.int p0), .val (.ref b5), .val (.int (11 : Int32)), .val (.int (11 : Int32)), .val (.ref (u 11))] [])) _
                          refine XS.goto X58.here hx rfl (pc0 := 34) (pc' := 9) rfl (hb hby d1_34) (by decide) (by decide) ?_
                          show Steps p.tables e below (T58.setTop (mkF m 9 #[.val (.int p0), .val (.ref b5), .val (.int (11 : Int32)), .val (.int (11 : Int32)), .val (.ref (u 11))] [])) _
                          refine XS.iloadN X58.here hx rfl (hb hby d1_9) rfl ?_
                          show Steps p.tables e below (T58.setTop (mkF m 10 #[.val (.int p0), .val (.ref b5), .val (.int (11 : Int32)), .val (.int (11 : Int32)), .val (.ref (u 11))] [(.int (11 : Int32))])) _
                          refine XS.iloadN X58.here hx rfl (hb hby d1_10) rfl ?_
                          show Steps p.tables e below (T58.setTop (mkF m 11 #[.val (.int p0), .val (.ref b5), .val (.int (11 : Int32)), .val (.int (11 : Int32)), .val (.ref (u 11))] [(.int (11 : Int32)), (.int (11 : Int32))])) _
                          refine XS.icmpYes X58.here hx rfl (pc0 := 11) (pc' := 37) rfl (hb hby d1_11) rfl (flt (by decide : ¬ ((11 : Int32) < (11 : Int32)))).2.1 (by decide) (by decide) ?_
                          show Steps p.tables e below (T58.setTop (mkF m 37 #[.val (.int p0), .val (.ref b5), .val (.int (11 : Int32)), .val (.int (11 : Int32)), .val (.ref (u 11))] [])) _
                          refine XS.aconstNull X58.here hx rfl (hb hby d1_37) ?_
                          show Steps p.tables e below (T58.setTop (mkF m 38 #[.val (.int p0), .val (.ref b5), .val (.int (11 : Int32)), .val (.int (11 : Int32)), .val (.ref (u 11))] [.null])) _
                          exact retOut X58 hx Bd.returns (own_narref rfl rfl) (Or.inr (Or.inr (Or.inr (Or.inr ⟨rfl, rfl, rfl⟩)))) (hb hby d1_38) hr
                        · show own_Q1 Z u p0 h0 n0 _ T58.heap _
                          rw [e58]
                          exact ⟨(by unfold own_r1; rw [if_neg hc10, if_neg hc15, if_neg hc20, if_neg hc25, if_neg hc30, if_neg hc35, if_neg hc40, if_neg hc45, if_neg hc50, if_neg hc55, if_neg hc60]), N5, own_ext K5⟩
theorem d3_0 : decode method_2_code 0 = .ok (.iload_n 0, 1) := by decide +kernel
theorem d3_1 : decode method_2_code 1 = .ok (.ifCond .ne 7, 3) := by decide +kernel
theorem d3_4 : decode method_2_code 4 = .ok (.getstatic 7, 3) := by decide +kernel
theorem d3_7 : decode method_2_code 7 = .ok (.areturn, 1) := by decide +kernel
theorem d3_8 : decode method_2_code 8 = .ok (.iload_n 0, 1) := by decide +kernel
theorem d3_9 : decode method_2_code 9 = .ok (.iconst 1, 1) := by decide +kernel
theorem d3_10 : decode method_2_code 10 = .ok (.if_icmp .ne 7, 3) := by decide +kernel
theorem d3_13 : decode method_2_code 13 = .ok (.getstatic 13, 3) := by decide +kernel
theorem d3_16 : decode method_2_code 16 = .ok (.areturn, 1) := by decide +kernel
theorem d3_17 : decode method_2_code 17 = .ok (.iload_n 0, 1) := by decide +kernel
theorem d3_18 : decode method_2_code 18 = .ok (.iconst 2, 1) := by decide +kernel
theorem d3_19 : decode method_2_code 19 = .ok (.if_icmp .ne 7, 3) := by decide +kernel
theorem d3_22 : decode method_2_code 22 = .ok (.getstatic 16, 3) := by decide +kernel
theorem d3_25 : decode method_2_code 25 = .ok (.areturn, 1) := by decide +kernel
theorem d3_26 : decode method_2_code 26 = .ok (.iload_n 0, 1) := by decide +kernel
theorem d3_27 : decode method_2_code 27 = .ok (.iconst 3, 1) := by decide +kernel
theorem d3_28 : decode method_2_code 28 = .ok (.if_icmp .ne 7, 3) := by decide +kernel
theorem d3_31 : decode method_2_code 31 = .ok (.getstatic 19, 3) := by decide +kernel
theorem d3_34 : decode method_2_code 34 = .ok (.areturn, 1) := by decide +kernel
theorem d3_35 : decode method_2_code 35 = .ok (.iload_n 0, 1) := by decide +kernel
theorem d3_36 : decode method_2_code 36 = .ok (.bipush 33, 2) := by decide +kernel
theorem d3_38 : decode method_2_code 38 = .ok (.if_icmp .ne 7, 3) := by decide +kernel
theorem d3_41 : decode method_2_code 41 = .ok (.getstatic 22, 3) := by decide +kernel
theorem d3_44 : decode method_2_code 44 = .ok (.areturn, 1) := by decide +kernel
theorem d3_45 : decode method_2_code 45 = .ok (.iload_n 0, 1) := by decide +kernel
theorem d3_46 : decode method_2_code 46 = .ok (.bipush 34, 2) := by decide +kernel
theorem d3_48 : decode method_2_code 48 = .ok (.if_icmp .ne 7, 3) := by decide +kernel
theorem d3_51 : decode method_2_code 51 = .ok (.getstatic 25, 3) := by decide +kernel
theorem d3_54 : decode method_2_code 54 = .ok (.areturn, 1) := by decide +kernel
theorem d3_55 : decode method_2_code 55 = .ok (.iload_n 0, 1) := by decide +kernel
theorem d3_56 : decode method_2_code 56 = .ok (.bipush 35, 2) := by decide +kernel
theorem d3_58 : decode method_2_code 58 = .ok (.if_icmp .ne 7, 3) := by decide +kernel
theorem d3_61 : decode method_2_code 61 = .ok (.getstatic 28, 3) := by decide +kernel
theorem d3_64 : decode method_2_code 64 = .ok (.areturn, 1) := by decide +kernel
theorem d3_65 : decode method_2_code 65 = .ok (.iload_n 0, 1) := by decide +kernel
theorem d3_66 : decode method_2_code 66 = .ok (.bipush 36, 2) := by decide +kernel
theorem d3_68 : decode method_2_code 68 = .ok (.if_icmp .ne 7, 3) := by decide +kernel
theorem d3_71 : decode method_2_code 71 = .ok (.getstatic 31, 3) := by decide +kernel
theorem d3_74 : decode method_2_code 74 = .ok (.areturn, 1) := by decide +kernel
theorem d3_75 : decode method_2_code 75 = .ok (.iload_n 0, 1) := by decide +kernel
theorem d3_76 : decode method_2_code 76 = .ok (.bipush 41, 2) := by decide +kernel
theorem d3_78 : decode method_2_code 78 = .ok (.if_icmp .ne 7, 3) := by decide +kernel
theorem d3_81 : decode method_2_code 81 = .ok (.getstatic 34, 3) := by decide +kernel
theorem d3_84 : decode method_2_code 84 = .ok (.areturn, 1) := by decide +kernel
theorem d3_85 : decode method_2_code 85 = .ok (.iload_n 0, 1) := by decide +kernel
theorem d3_86 : decode method_2_code 86 = .ok (.bipush 42, 2) := by decide +kernel
theorem d3_88 : decode method_2_code 88 = .ok (.if_icmp .ne 7, 3) := by decide +kernel
theorem d3_91 : decode method_2_code 91 = .ok (.getstatic 37, 3) := by decide +kernel
theorem d3_94 : decode method_2_code 94 = .ok (.areturn, 1) := by decide +kernel
theorem d3_95 : decode method_2_code 95 = .ok (.iload_n 0, 1) := by decide +kernel
theorem d3_96 : decode method_2_code 96 = .ok (.bipush 43, 2) := by decide +kernel
theorem d3_98 : decode method_2_code 98 = .ok (.if_icmp .ne 7, 3) := by decide +kernel
theorem d3_101 : decode method_2_code 101 = .ok (.getstatic 40, 3) := by decide +kernel
theorem d3_104 : decode method_2_code 104 = .ok (.areturn, 1) := by decide +kernel
theorem d3_105 : decode method_2_code 105 = .ok (.aconst_null, 1) := by decide +kernel
theorem d3_106 : decode method_2_code 106 = .ok (.areturn, 1) := by decide +kernel
theorem own_pn_3 : plainName "com/example/portcullis/portcullis/giop/ComponentTagOfPinLaw" = true := by first | (simp [plainName, overriddenIn]; done) | decide +kernel
theorem own_ef_3 (m : MethodId) (x0 : Int32) : entryFrame m #[(.int x0)] 1 = mkF m 0 #[.val (.int x0)] [] := by first | (simp [entryFrame, mkF, argsToLocals, Value.category]; done) | rfl
def own_r3 (u : Nat → Addr) (p0 : Int32) : Value :=
  if p0 = (0 : Int32) then
    (.ref (u 1))
  else
    if p0 = (1 : Int32) then
      (.ref (u 2))
    else
      if p0 = (2 : Int32) then
        (.ref (u 3))
      else
        if p0 = (3 : Int32) then
          (.ref (u 4))
        else
          if p0 = (33 : Int32) then
            (.ref (u 5))
          else
            if p0 = (34 : Int32) then
              (.ref (u 6))
            else
              if p0 = (35 : Int32) then
                (.ref (u 7))
              else
                if p0 = (36 : Int32) then
                  (.ref (u 8))
                else
                  if p0 = (41 : Int32) then
                    (.ref (u 9))
                  else
                    if p0 = (42 : Int32) then
                      (.ref (u 10))
                    else
                      if p0 = (43 : Int32) then
                        (.ref (u 11))
                      else
                        .null
theorem own_r3_ref {u : Nat → Addr} {p0 : Int32} : (own_r3 u p0).isRef = true := by
  unfold own_r3
  repeat' split
  all_goals rfl
def own_Q3 (Z : State) (u : Nat → Addr) (p0 : Int32) (h0 : Heap) (n0 : Nat) (v : Option Value) (h : Heap) (L : List Loc) : Prop := v = some (own_r3 u p0) ∧ Fr n0 L ∧ h = h0
set_option maxRecDepth 65536 in
set_option maxHeartbeats 40000000 in
theorem rm3 (l : Launch) (Z : State) (a0 : Array Value) (hw : ∀ d ∈ tables_1, d.before a0 Z = true) (ws : List Jvm.Cond) (u : Nat → Addr) (p0 : Int32) (B : own_Base Z u) (h0 : Heap) (n0 : Nat) (O : Old Z n0 h0) :
    MetFree l (⟨"com/example/portcullis/portcullis/giop/ComponentTagOfPinLaw", "expected", "(I)Lcom/example/portcullis/portcullis/giop/ComponentTag;"⟩ : MethodName) (head1 (Jvm.Cond.code (⟨"com/example/portcullis/portcullis/giop/ComponentTagOfPinLaw", "expected", "(I)Lcom/example/portcullis/portcullis/giop/ComponentTag;"⟩ : MethodName) method_2_code 1 (some (.object "com/example/portcullis/portcullis/giop/ComponentTag")) :: ws) ({ frames := 0, cells := 0, slots := 0, locals := 0 } : Room)) (fun a U => a = #[(.int p0)] ∧ Z.Warmed39 U.vm ∧ U.heap = h0) (fun _ _ _ _ _ => True) (fun _ U o U' => ∃ v L, o = .returned v ∧ own_Q3 Z u p0 h0 n0 v U'.heap L ∧ FrameEnd U o U' L ({ frames := 0, cells := 0, slots := 0, locals := 0 } : Room).cells ({ frames := 0, cells := 0, slots := 0, locals := 0 } : Room).slots) := by
  refine MetFree.of_bodySF (plainFor_of_name own_pn_3) hisR ?_
  intro p e s m args below meth c s₁ Bd hml0 hP hK
  obtain ⟨rfl, hZ, hh⟩ := hP
  have hx := Bd.exec
  have hby := Bd.bytes
  have hml : c.maxLocals = 1 := hml0
  have hown : s.vm.findClass "com/example/portcullis/portcullis/giop/ComponentTagOfPinLaw" = some m.cls := findClass_of_methodNamed Bd.named
  have hnm := (name_of_methodNamed Bd.named Bd.method).1
  have X0 : Stand p l e ({ frames := 0, cells := 0, slots := 0, locals := 0 } : Room) s m #[(.int p0)] below meth c s₁ [] 0 0 := Stand.of_body Bd
  have e0 : s₁.heap = h0 := by rw [← hh, Bd.state]; rfl
  have N0 := Fr.nil n0
  have K0 := Keep.refl h0 []
  have Z0 : n0 ≤ h0.size := O.1 ▸ O.2.1
  have pre0 : ∀ t, Steps p.tables e below (s₁.setTop (mkF m 0 #[.val (.int p0)] [])) t → Steps p.tables e below (s₁.setTop (entryFrame m #[(.int p0)] 1)) t := fun t k => castTop (own_ef_3 m p0) k
  have pre63 : ∀ t, Steps p.tables e below (s₁.setTop (mkF m 1 #[.val (.int p0)] [(.int p0)])) t → Steps p.tables e below (s₁.setTop (entryFrame m #[(.int p0)] 1)) t := fun t kt => pre0 t (by
    show Steps p.tables e below (s₁.setTop (mkF m 0 #[.val (.int p0)] [])) _
    refine XS.iloadN X0.here hx rfl (hb hby d3_0) rfl ?_
    exact kt)
  by_cases hc64 : p0 = (0 : Int32)
  · --
    obtain ⟨T65, X65, e65, st65⟩ := getS2 X0 hx hZ hown (host := "") (Or.inl (hw _ (List.mem_of_getElem? (i := 36) rfl))) Via.refl e0 (B.2.2.1.ext O.2) (g := (mkF m 4 #[.val (.int p0)] [])) rfl (hb hby d3_4)
    obtain ⟨fs, hr, hrun, hended, hW, hsame⟩ := X65.leave (v := some (.ref (u 1))) (fun h => by rw [Bd.returns] at h; cases h)
    refine ⟨_, _, pre63 _ ?_, hrun, hended, _, _, rfl, ?_, ⟨_, rfl⟩, hW, hsame.mono (by decide) (by decide)⟩
    · show Steps p.tables e below (s₁.setTop (mkF m 1 #[.val (.int p0)] [(.int p0)])) _
      refine XS.ifNo X0.here hx rfl (hb hby d3_1) rfl ((if0 _ _).trans (teq hc64).2) ?_
      show Steps p.tables e below (s₁.setTop (mkF m 4 #[.val (.int p0)] [])) _
      refine st65 _ ?_
      show Steps p.tables e below (T65.setTop (mkF m 7 #[.val (.int p0)] [(.ref (u 1))])) _
      exact retOut X65 hx Bd.returns (own_narref rfl rfl) (Or.inr (Or.inr (Or.inr (Or.inr ⟨rfl, rfl, rfl⟩)))) (hb hby d3_7) hr
    · show own_Q3 Z u p0 h0 n0 _ T65.heap _
      rw [e65]
      exact ⟨(by unfold own_r3; rw [if_pos hc64]), N0, rfl⟩
  · --
    have pre67 : ∀ t, Steps p.tables e below (s₁.setTop (mkF m 10 #[.val (.int p0)] [(.int (1 : Int32)), (.int p0)])) t → Steps p.tables e below (s₁.setTop (entryFrame m #[(.int p0)] 1)) t := fun t kt => pre63 t (by
      show Steps p.tables e below (s₁.setTop (mkF m 1 #[.val (.int p0)] [(.int p0)])) _
      refine XS.ifYes X0.here hx rfl (pc0 := 1) (pc' := 8) rfl (hb hby d3_1) rfl ((if0 _ _).trans (feq hc64).2) (by decide) (by decide) ?_
      show Steps p.tables e below (s₁.setTop (mkF m 8 #[.val (.int p0)] [])) _
      refine XS.iloadN X0.here hx rfl (hb hby d3_8) rfl ?_
      show Steps p.tables e below (s₁.setTop (mkF m 9 #[.val (.int p0)] [(.int p0)])) _
      refine XS.iconst X0.here hx rfl (hb hby d3_9) ?_
      exact kt)
    by_cases hc68 : p0 = (1 : Int32)
    · --
      obtain ⟨T69, X69, e69, st69⟩ := getS2 X0 hx hZ hown (host := "") (Or.inl (hw _ (List.mem_of_getElem? (i := 43) rfl))) Via.refl e0 (B.2.2.2.2.1.ext O.2) (g := (mkF m 13 #[.val (.int p0)] [])) rfl (hb hby d3_13)
      obtain ⟨fs, hr, hrun, hended, hW, hsame⟩ := X69.leave (v := some (.ref (u 2))) (fun h => by rw [Bd.returns] at h; cases h)
      refine ⟨_, _, pre67 _ ?_, hrun, hended, _, _, rfl, ?_, ⟨_, rfl⟩, hW, hsame.mono (by decide) (by decide)⟩
      · show Steps p.tables e below (s₁.setTop (mkF m 10 #[.val (.int p0)] [(.int (1 : Int32)), (.int p0)])) _
        refine XS.icmpNo X0.here hx rfl (hb hby d3_10) rfl (teq hc68).2 ?_
        show Steps p.tables e below (s₁.setTop (mkF m 13 #[.val (.int p0)] [])) _
        refine st69 _ ?_
        show Steps p.tables e below (T69.setTop (mkF m 16 #[.val (.int p0)] [(.ref (u 2))])) _
        exact retOut X69 hx Bd.returns (own_narref rfl rfl) (Or.inr (Or.inr (Or.inr (Or.inr ⟨rfl, rfl, rfl⟩)))) (hb hby d3_16) hr
      · show own_Q3 Z u p0 h0 n0 _ T69.heap _
        rw [e69]
        exact ⟨(by unfold own_r3; rw [if_neg hc64, if_pos hc68]), N0, rfl⟩
    · --
      have pre71 : ∀ t, Steps p.tables e below (s₁.setTop (mkF m 19 #[.val (.int p0)] [(.int (2 : Int32)), (.int p0)])) t → Steps p.tables e below (s₁.setTop (entryFrame m #[(.int p0)] 1)) t := fun t kt => pre67 t (by
        show Steps p.tables e below (s₁.setTop (mkF m 10 #[.val (.int p0)] [(.int (1 : Int32)), (.int p0)])) _
        refine XS.icmpYes X0.here hx rfl (pc0 := 10) (pc' := 17) rfl (hb hby d3_10) rfl (feq hc68).2 (by decide) (by decide) ?_
        show Steps p.tables e below (s₁.setTop (mkF m 17 #[.val (.int p0)] [])) _
        refine XS.iloadN X0.here hx rfl (hb hby d3_17) rfl ?_
        show Steps p.tables e below (s₁.setTop (mkF m 18 #[.val (.int p0)] [(.int p0)])) _
        refine XS.iconst X0.here hx rfl (hb hby d3_18) ?_
        exact kt)
      by_cases hc72 : p0 = (2 : Int32)
      · --
        obtain ⟨T73, X73, e73, st73⟩ := getS2 X0 hx hZ hown (host := "") (Or.inl (hw _ (List.mem_of_getElem? (i := 44) rfl))) Via.refl e0 (B.2.2.2.2.2.2.1.ext O.2) (g := (mkF m 22 #[.val (.int p0)] [])) rfl (hb hby d3_22)
        obtain ⟨fs, hr, hrun, hended, hW, hsame⟩ := X73.leave (v := some (.ref (u 3))) (fun h => by rw [Bd.returns] at h; cases h)
        refine ⟨_, _, pre71 _ ?_, hrun, hended, _, _, rfl, ?_, ⟨_, rfl⟩, hW, hsame.mono (by decide) (by decide)⟩
        · show Steps p.tables e below (s₁.setTop (mkF m 19 #[.val (.int p0)] [(.int (2 : Int32)), (.int p0)])) _
          refine XS.icmpNo X0.here hx rfl (hb hby d3_19) rfl (teq hc72).2 ?_
          show Steps p.tables e below (s₁.setTop (mkF m 22 #[.val (.int p0)] [])) _
          refine st73 _ ?_
          show Steps p.tables e below (T73.setTop (mkF m 25 #[.val (.int p0)] [(.ref (u 3))])) _
          exact retOut X73 hx Bd.returns (own_narref rfl rfl) (Or.inr (Or.inr (Or.inr (Or.inr ⟨rfl, rfl, rfl⟩)))) (hb hby d3_25) hr
        · show own_Q3 Z u p0 h0 n0 _ T73.heap _
          rw [e73]
          exact ⟨(by unfold own_r3; rw [if_neg hc64, if_neg hc68, if_pos hc72]), N0, rfl⟩
      · --
        have pre75 : ∀ t, Steps p.tables e below (s₁.setTop (mkF m 28 #[.val (.int p0)] [(.int (3 : Int32)), (.int p0)])) t → Steps p.tables e below (s₁.setTop (entryFrame m #[(.int p0)] 1)) t := fun t kt => pre71 t (by
          show Steps p.tables e below (s₁.setTop (mkF m 19 #[.val (.int p0)] [(.int (2 : Int32)), (.int p0)])) _
          refine XS.icmpYes X0.here hx rfl (pc0 := 19) (pc' := 26) rfl (hb hby d3_19) rfl (feq hc72).2 (by decide) (by decide) ?_
          show Steps p.tables e below (s₁.setTop (mkF m 26 #[.val (.int p0)] [])) _
          refine XS.iloadN X0.here hx rfl (hb hby d3_26) rfl ?_
          show Steps p.tables e below (s₁.setTop (mkF m 27 #[.val (.int p0)] [(.int p0)])) _
          refine XS.iconst X0.here hx rfl (hb hby d3_27) ?_
          exact kt)
        by_cases hc76 : p0 = (3 : Int32)
        · --
          obtain ⟨T77, X77, e77, st77⟩ := getS2 X0 hx hZ hown (host := "") (Or.inl (hw _ (List.mem_of_getElem? (i := 42) rfl))) Via.refl e0 (B.2.2.2.2.2.2.2.2.1.ext O.2) (g := (mkF m 31 #[.val (.int p0)] [])) rfl (hb hby d3_31)
          obtain ⟨fs, hr, hrun, hended, hW, hsame⟩ := X77.leave (v := some (.ref (u 4))) (fun h => by rw [Bd.returns] at h; cases h)
          refine ⟨_, _, pre75 _ ?_, hrun, hended, _, _, rfl, ?_, ⟨_, rfl⟩, hW, hsame.mono (by decide) (by decide)⟩
          · show Steps p.tables e below (s₁.setTop (mkF m 28 #[.val (.int p0)] [(.int (3 : Int32)), (.int p0)])) _
            refine XS.icmpNo X0.here hx rfl (hb hby d3_28) rfl (teq hc76).2 ?_
            show Steps p.tables e below (s₁.setTop (mkF m 31 #[.val (.int p0)] [])) _
            refine st77 _ ?_
            show Steps p.tables e below (T77.setTop (mkF m 34 #[.val (.int p0)] [(.ref (u 4))])) _
            exact retOut X77 hx Bd.returns (own_narref rfl rfl) (Or.inr (Or.inr (Or.inr (Or.inr ⟨rfl, rfl, rfl⟩)))) (hb hby d3_34) hr
          · show own_Q3 Z u p0 h0 n0 _ T77.heap _
            rw [e77]
            exact ⟨(by unfold own_r3; rw [if_neg hc64, if_neg hc68, if_neg hc72, if_pos hc76]), N0, rfl⟩
        · --
          have pre79 : ∀ t, Steps p.tables e below (s₁.setTop (mkF m 38 #[.val (.int p0)] [(.int (33 : Int32)), (.int p0)])) t → Steps p.tables e below (s₁.setTop (entryFrame m #[(.int p0)] 1)) t := fun t kt => pre75 t (by
            show Steps p.tables e below (s₁.setTop (mkF m 28 #[.val (.int p0)] [(.int (3 : Int32)), (.int p0)])) _
            refine XS.icmpYes X0.here hx rfl (pc0 := 28) (pc' := 35) rfl (hb hby d3_28) rfl (feq hc76).2 (by decide) (by decide) ?_
            show Steps p.tables e below (s₁.setTop (mkF m 35 #[.val (.int p0)] [])) _
            refine XS.iloadN X0.here hx rfl (hb hby d3_35) rfl ?_
            show Steps p.tables e below (s₁.setTop (mkF m 36 #[.val (.int p0)] [(.int p0)])) _
            refine XS.bipush X0.here hx rfl (hb hby d3_36) ?_
            exact kt)
          by_cases hc80 : p0 = (33 : Int32)
          · --
            obtain ⟨T81, X81, e81, st81⟩ := getS2 X0 hx hZ hown (host := "") (Or.inl (hw _ (List.mem_of_getElem? (i := 50) rfl))) Via.refl e0 (B.2.2.2.2.2.2.2.2.2.2.1.ext O.2) (g := (mkF m 41 #[.val (.int p0)] [])) rfl (hb hby d3_41)
            obtain ⟨fs, hr, hrun, hended, hW, hsame⟩ := X81.leave (v := some (.ref (u 5))) (fun h => by rw [Bd.returns] at h; cases h)
            refine ⟨_, _, pre79 _ ?_, hrun, hended, _, _, rfl, ?_, ⟨_, rfl⟩, hW, hsame.mono (by decide) (by decide)⟩
            · show Steps p.tables e below (s₁.setTop (mkF m 38 #[.val (.int p0)] [(.int (33 : Int32)), (.int p0)])) _
              refine XS.icmpNo X0.here hx rfl (hb hby d3_38) rfl (teq hc80).2 ?_
              show Steps p.tables e below (s₁.setTop (mkF m 41 #[.val (.int p0)] [])) _
              refine st81 _ ?_
              show Steps p.tables e below (T81.setTop (mkF m 44 #[.val (.int p0)] [(.ref (u 5))])) _
              exact retOut X81 hx Bd.returns (own_narref rfl rfl) (Or.inr (Or.inr (Or.inr (Or.inr ⟨rfl, rfl, rfl⟩)))) (hb hby d3_44) hr
            · show own_Q3 Z u p0 h0 n0 _ T81.heap _
              rw [e81]
              exact ⟨(by unfold own_r3; rw [if_neg hc64, if_neg hc68, if_neg hc72, if_neg hc76, if_pos hc80]), N0, rfl⟩
          · --
            have pre83 : ∀ t, Steps p.tables e below (s₁.setTop (mkF m 48 #[.val (.int p0)] [(.int (34 : Int32)), (.int p0)])) t → Steps p.tables e below (s₁.setTop (entryFrame m #[(.int p0)] 1)) t := fun t kt => pre79 t (by
              show Steps p.tables e below (s₁.setTop (mkF m 38 #[.val (.int p0)] [(.int (33 : Int32)), (.int p0)])) _
              refine XS.icmpYes X0.here hx rfl (pc0 := 38) (pc' := 45) rfl (hb hby d3_38) rfl (feq hc80).2 (by decide) (by decide) ?_
              show Steps p.tables e below (s₁.setTop (mkF m 45 #[.val (.int p0)] [])) _
              refine XS.iloadN X0.here hx rfl (hb hby d3_45) rfl ?_
              show Steps p.tables e below (s₁.setTop (mkF m 46 #[.val (.int p0)] [(.int p0)])) _
              refine XS.bipush X0.here hx rfl (hb hby d3_46) ?_
              exact kt)
            by_cases hc84 : p0 = (34 : Int32)
            · --
              obtain ⟨T85, X85, e85, st85⟩ := getS2 X0 hx hZ hown (host := "") (Or.inl (hw _ (List.mem_of_getElem? (i := 46) rfl))) Via.refl e0 (B.2.2.2.2.2.2.2.2.2.2.2.2.1.ext O.2) (g := (mkF m 51 #[.val (.int p0)] [])) rfl (hb hby d3_51)
              obtain ⟨fs, hr, hrun, hended, hW, hsame⟩ := X85.leave (v := some (.ref (u 6))) (fun h => by rw [Bd.returns] at h; cases h)
              refine ⟨_, _, pre83 _ ?_, hrun, hended, _, _, rfl, ?_, ⟨_, rfl⟩, hW, hsame.mono (by decide) (by decide)⟩
              · show Steps p.tables e below (s₁.setTop (mkF m 48 #[.val (.int p0)] [(.int (34 : Int32)), (.int p0)])) _
                refine XS.icmpNo X0.here hx rfl (hb hby d3_48) rfl (teq hc84).2 ?_
                show Steps p.tables e below (s₁.setTop (mkF m 51 #[.val (.int p0)] [])) _
                refine st85 _ ?_
                show Steps p.tables e below (T85.setTop (mkF m 54 #[.val (.int p0)] [(.ref (u 6))])) _
                exact retOut X85 hx Bd.returns (own_narref rfl rfl) (Or.inr (Or.inr (Or.inr (Or.inr ⟨rfl, rfl, rfl⟩)))) (hb hby d3_54) hr
              · show own_Q3 Z u p0 h0 n0 _ T85.heap _
                rw [e85]
                exact ⟨(by unfold own_r3; rw [if_neg hc64, if_neg hc68, if_neg hc72, if_neg hc76, if_neg hc80, if_pos hc84]), N0, rfl⟩
            · --
              have pre87 : ∀ t, Steps p.tables e below (s₁.setTop (mkF m 58 #[.val (.int p0)] [(.int (35 : Int32)), (.int p0)])) t → Steps p.tables e below (s₁.setTop (entryFrame m #[(.int p0)] 1)) t := fun t kt => pre83 t (by
                show Steps p.tables e below (s₁.setTop (mkF m 48 #[.val (.int p0)] [(.int (34 : Int32)), (.int p0)])) _
                refine XS.icmpYes X0.here hx rfl (pc0 := 48) (pc' := 55) rfl (hb hby d3_48) rfl (feq hc84).2 (by decide) (by decide) ?_
                show Steps p.tables e below (s₁.setTop (mkF m 55 #[.val (.int p0)] [])) _
                refine XS.iloadN X0.here hx rfl (hb hby d3_55) rfl ?_
                show Steps p.tables e below (s₁.setTop (mkF m 56 #[.val (.int p0)] [(.int p0)])) _
                refine XS.bipush X0.here hx rfl (hb hby d3_56) ?_
                exact kt)
              by_cases hc88 : p0 = (35 : Int32)
              · --
                obtain ⟨T89, X89, e89, st89⟩ := getS2 X0 hx hZ hown (host := "") (Or.inl (hw _ (List.mem_of_getElem? (i := 48) rfl))) Via.refl e0 (B.2.2.2.2.2.2.2.2.2.2.2.2.2.2.1.ext O.2) (g := (mkF m 61 #[.val (.int p0)] [])) rfl (hb hby d3_61)
                obtain ⟨fs, hr, hrun, hended, hW, hsame⟩ := X89.leave (v := some (.ref (u 7))) (fun h => by rw [Bd.returns] at h; cases h)
                refine ⟨_, _, pre87 _ ?_, hrun, hended, _, _, rfl, ?_, ⟨_, rfl⟩, hW, hsame.mono (by decide) (by decide)⟩
                · show Steps p.tables e below (s₁.setTop (mkF m 58 #[.val (.int p0)] [(.int (35 : Int32)), (.int p0)])) _
                  refine XS.icmpNo X0.here hx rfl (hb hby d3_58) rfl (teq hc88).2 ?_
                  show Steps p.tables e below (s₁.setTop (mkF m 61 #[.val (.int p0)] [])) _
                  refine st89 _ ?_
                  show Steps p.tables e below (T89.setTop (mkF m 64 #[.val (.int p0)] [(.ref (u 7))])) _
                  exact retOut X89 hx Bd.returns (own_narref rfl rfl) (Or.inr (Or.inr (Or.inr (Or.inr ⟨rfl, rfl, rfl⟩)))) (hb hby d3_64) hr
                · show own_Q3 Z u p0 h0 n0 _ T89.heap _
                  rw [e89]
                  exact ⟨(by unfold own_r3; rw [if_neg hc64, if_neg hc68, if_neg hc72, if_neg hc76, if_neg hc80, if_neg hc84, if_pos hc88]), N0, rfl⟩
              · --
                have pre91 : ∀ t, Steps p.tables e below (s₁.setTop (mkF m 68 #[.val (.int p0)] [(.int (36 : Int32)), (.int p0)])) t → Steps p.tables e below (s₁.setTop (entryFrame m #[(.int p0)] 1)) t := fun t kt => pre87 t (by
                  show Steps p.tables e below (s₁.setTop (mkF m 58 #[.val (.int p0)] [(.int (35 : Int32)), (.int p0)])) _
                  refine XS.icmpYes X0.here hx rfl (pc0 := 58) (pc' := 65) rfl (hb hby d3_58) rfl (feq hc88).2 (by decide) (by decide) ?_
                  show Steps p.tables e below (s₁.setTop (mkF m 65 #[.val (.int p0)] [])) _
                  refine XS.iloadN X0.here hx rfl (hb hby d3_65) rfl ?_
                  show Steps p.tables e below (s₁.setTop (mkF m 66 #[.val (.int p0)] [(.int p0)])) _
                  refine XS.bipush X0.here hx rfl (hb hby d3_66) ?_
                  exact kt)
                by_cases hc92 : p0 = (36 : Int32)
                · --
                  obtain ⟨T93, X93, e93, st93⟩ := getS2 X0 hx hZ hown (host := "") (Or.inl (hw _ (List.mem_of_getElem? (i := 45) rfl))) Via.refl e0 (B.2.2.2.2.2.2.2.2.2.2.2.2.2.2.2.2.1.ext O.2) (g := (mkF m 71 #[.val (.int p0)] [])) rfl (hb hby d3_71)
                  obtain ⟨fs, hr, hrun, hended, hW, hsame⟩ := X93.leave (v := some (.ref (u 8))) (fun h => by rw [Bd.returns] at h; cases h)
                  refine ⟨_, _, pre91 _ ?_, hrun, hended, _, _, rfl, ?_, ⟨_, rfl⟩, hW, hsame.mono (by decide) (by decide)⟩
                  · show Steps p.tables e below (s₁.setTop (mkF m 68 #[.val (.int p0)] [(.int (36 : Int32)), (.int p0)])) _
                    refine XS.icmpNo X0.here hx rfl (hb hby d3_68) rfl (teq hc92).2 ?_
                    show Steps p.tables e below (s₁.setTop (mkF m 71 #[.val (.int p0)] [])) _
                    refine st93 _ ?_
                    show Steps p.tables e below (T93.setTop (mkF m 74 #[.val (.int p0)] [(.ref (u 8))])) _
                    exact retOut X93 hx Bd.returns (own_narref rfl rfl) (Or.inr (Or.inr (Or.inr (Or.inr ⟨rfl, rfl, rfl⟩)))) (hb hby d3_74) hr
                  · show own_Q3 Z u p0 h0 n0 _ T93.heap _
                    rw [e93]
                    exact ⟨(by unfold own_r3; rw [if_neg hc64, if_neg hc68, if_neg hc72, if_neg hc76, if_neg hc80, if_neg hc84, if_neg hc88, if_pos hc92]), N0, rfl⟩
                · --
                  have pre95 : ∀ t, Steps p.tables e below (s₁.setTop (mkF m 78 #[.val (.int p0)] [(.int (41 : Int32)), (.int p0)])) t → Steps p.tables e below (s₁.setTop (entryFrame m #[(.int p0)] 1)) t := fun t kt => pre91 t (by
                    show Steps p.tables e below (s₁.setTop (mkF m 68 #[.val (.int p0)] [(.int (36 : Int32)), (.int p0)])) _
                    refine XS.icmpYes X0.here hx rfl (pc0 := 68) (pc' := 75) rfl (hb hby d3_68) rfl (feq hc92).2 (by decide) (by decide) ?_
                    show Steps p.tables e below (s₁.setTop (mkF m 75 #[.val (.int p0)] [])) _
                    refine XS.iloadN X0.here hx rfl (hb hby d3_75) rfl ?_
                    show Steps p.tables e below (s₁.setTop (mkF m 76 #[.val (.int p0)] [(.int p0)])) _
                    refine XS.bipush X0.here hx rfl (hb hby d3_76) ?_
                    exact kt)
                  by_cases hc96 : p0 = (41 : Int32)
                  · --
                    obtain ⟨T97, X97, e97, st97⟩ := getS2 X0 hx hZ hown (host := "") (Or.inl (hw _ (List.mem_of_getElem? (i := 49) rfl))) Via.refl e0 (B.2.2.2.2.2.2.2.2.2.2.2.2.2.2.2.2.2.2.1.ext O.2) (g := (mkF m 81 #[.val (.int p0)] [])) rfl (hb hby d3_81)
                    obtain ⟨fs, hr, hrun, hended, hW, hsame⟩ := X97.leave (v := some (.ref (u 9))) (fun h => by rw [Bd.returns] at h; cases h)
                    refine ⟨_, _, pre95 _ ?_, hrun, hended, _, _, rfl, ?_, ⟨_, rfl⟩, hW, hsame.mono (by decide) (by decide)⟩
                    · show Steps p.tables e below (s₁.setTop (mkF m 78 #[.val (.int p0)] [(.int (41 : Int32)), (.int p0)])) _
                      refine XS.icmpNo X0.here hx rfl (hb hby d3_78) rfl (teq hc96).2 ?_
                      show Steps p.tables e below (s₁.setTop (mkF m 81 #[.val (.int p0)] [])) _
                      refine st97 _ ?_
                      show Steps p.tables e below (T97.setTop (mkF m 84 #[.val (.int p0)] [(.ref (u 9))])) _
                      exact retOut X97 hx Bd.returns (own_narref rfl rfl) (Or.inr (Or.inr (Or.inr (Or.inr ⟨rfl, rfl, rfl⟩)))) (hb hby d3_84) hr
                    · show own_Q3 Z u p0 h0 n0 _ T97.heap _
                      rw [e97]
                      exact ⟨(by unfold own_r3; rw [if_neg hc64, if_neg hc68, if_neg hc72, if_neg hc76, if_neg hc80, if_neg hc84, if_neg hc88, if_neg hc92, if_pos hc96]), N0, rfl⟩
                  · --
                    have pre99 : ∀ t, Steps p.tables e below (s₁.setTop (mkF m 88 #[.val (.int p0)] [(.int (42 : Int32)), (.int p0)])) t → Steps p.tables e below (s₁.setTop (entryFrame m #[(.int p0)] 1)) t := fun t kt => pre95 t (by
                      show Steps p.tables e below (s₁.setTop (mkF m 78 #[.val (.int p0)] [(.int (41 : Int32)), (.int p0)])) _
                      refine XS.icmpYes X0.here hx rfl (pc0 := 78) (pc' := 85) rfl (hb hby d3_78) rfl (feq hc96).2 (by decide) (by decide) ?_
                      show Steps p.tables e below (s₁.setTop (mkF m 85 #[.val (.int p0)] [])) _
                      refine XS.iloadN X0.here hx rfl (hb hby d3_85) rfl ?_
                      show Steps p.tables e below (s₁.setTop (mkF m 86 #[.val (.int p0)] [(.int p0)])) _
                      refine XS.bipush X0.here hx rfl (hb hby d3_86) ?_
                      exact kt)
                    by_cases hc100 : p0 = (42 : Int32)
                    · --
                      obtain ⟨T101, X101, e101, st101⟩ := getS2 X0 hx hZ hown (host := "") (Or.inl (hw _ (List.mem_of_getElem? (i := 47) rfl))) Via.refl e0 (B.2.2.2.2.2.2.2.2.2.2.2.2.2.2.2.2.2.2.2.2.1.ext O.2) (g := (mkF m 91 #[.val (.int p0)] [])) rfl (hb hby d3_91)
                      obtain ⟨fs, hr, hrun, hended, hW, hsame⟩ := X101.leave (v := some (.ref (u 10))) (fun h => by rw [Bd.returns] at h; cases h)
                      refine ⟨_, _, pre99 _ ?_, hrun, hended, _, _, rfl, ?_, ⟨_, rfl⟩, hW, hsame.mono (by decide) (by decide)⟩
                      · show Steps p.tables e below (s₁.setTop (mkF m 88 #[.val (.int p0)] [(.int (42 : Int32)), (.int p0)])) _
                        refine XS.icmpNo X0.here hx rfl (hb hby d3_88) rfl (teq hc100).2 ?_
                        show Steps p.tables e below (s₁.setTop (mkF m 91 #[.val (.int p0)] [])) _
                        refine st101 _ ?_
                        show Steps p.tables e below (T101.setTop (mkF m 94 #[.val (.int p0)] [(.ref (u 10))])) _
                        exact retOut X101 hx Bd.returns (own_narref rfl rfl) (Or.inr (Or.inr (Or.inr (Or.inr ⟨rfl, rfl, rfl⟩)))) (hb hby d3_94) hr
                      · show own_Q3 Z u p0 h0 n0 _ T101.heap _
                        rw [e101]
                        exact ⟨(by unfold own_r3; rw [if_neg hc64, if_neg hc68, if_neg hc72, if_neg hc76, if_neg hc80, if_neg hc84, if_neg hc88, if_neg hc92, if_neg hc96, if_pos hc100]), N0, rfl⟩
                    · --
                      have pre103 : ∀ t, Steps p.tables e below (s₁.setTop (mkF m 98 #[.val (.int p0)] [(.int (43 : Int32)), (.int p0)])) t → Steps p.tables e below (s₁.setTop (entryFrame m #[(.int p0)] 1)) t := fun t kt => pre99 t (by
                        show Steps p.tables e below (s₁.setTop (mkF m 88 #[.val (.int p0)] [(.int (42 : Int32)), (.int p0)])) _
                        refine XS.icmpYes X0.here hx rfl (pc0 := 88) (pc' := 95) rfl (hb hby d3_88) rfl (feq hc100).2 (by decide) (by decide) ?_
                        show Steps p.tables e below (s₁.setTop (mkF m 95 #[.val (.int p0)] [])) _
                        refine XS.iloadN X0.here hx rfl (hb hby d3_95) rfl ?_
                        show Steps p.tables e below (s₁.setTop (mkF m 96 #[.val (.int p0)] [(.int p0)])) _
                        refine XS.bipush X0.here hx rfl (hb hby d3_96) ?_
                        exact kt)
                      by_cases hc104 : p0 = (43 : Int32)
                      · --
                        obtain ⟨T105, X105, e105, st105⟩ := getS2 X0 hx hZ hown (host := "") (Or.inl (hw _ (List.mem_of_getElem? (i := 51) rfl))) Via.refl e0 (B.2.2.2.2.2.2.2.2.2.2.2.2.2.2.2.2.2.2.2.2.2.2.1.ext O.2) (g := (mkF m 101 #[.val (.int p0)] [])) rfl (hb hby d3_101)
                        obtain ⟨fs, hr, hrun, hended, hW, hsame⟩ := X105.leave (v := some (.ref (u 11))) (fun h => by rw [Bd.returns] at h; cases h)
                        refine ⟨_, _, pre103 _ ?_, hrun, hended, _, _, rfl, ?_, ⟨_, rfl⟩, hW, hsame.mono (by decide) (by decide)⟩
                        · show Steps p.tables e below (s₁.setTop (mkF m 98 #[.val (.int p0)] [(.int (43 : Int32)), (.int p0)])) _
                          refine XS.icmpNo X0.here hx rfl (hb hby d3_98) rfl (teq hc104).2 ?_
                          show Steps p.tables e below (s₁.setTop (mkF m 101 #[.val (.int p0)] [])) _
                          refine st105 _ ?_
                          show Steps p.tables e below (T105.setTop (mkF m 104 #[.val (.int p0)] [(.ref (u 11))])) _
                          exact retOut X105 hx Bd.returns (own_narref rfl rfl) (Or.inr (Or.inr (Or.inr (Or.inr ⟨rfl, rfl, rfl⟩)))) (hb hby d3_104) hr
                        · show own_Q3 Z u p0 h0 n0 _ T105.heap _
                          rw [e105]
                          exact ⟨(by unfold own_r3; rw [if_neg hc64, if_neg hc68, if_neg hc72, if_neg hc76, if_neg hc80, if_neg hc84, if_neg hc88, if_neg hc92, if_neg hc96, if_neg hc100, if_pos hc104]), N0, rfl⟩
                      · --
                        obtain ⟨fs, hr, hrun, hended, hW, hsame⟩ := X0.leave (v := some .null) (fun h => by rw [Bd.returns] at h; cases h)
                        refine ⟨_, _, pre103 _ ?_, hrun, hended, _, _, rfl, ?_, ⟨_, rfl⟩, hW, hsame.mono (by decide) (by decide)⟩
                        · show Steps p.tables e below (s₁.setTop (mkF m 98 #[.val (.int p0)] [(.int (43 : Int32)), (.int p0)])) _
                          refine XS.icmpYes X0.here hx rfl (pc0 := 98) (pc' := 105) rfl (hb hby d3_98) rfl (feq hc104).2 (by decide) (by decide) ?_
                          show Steps p.tables e below (s₁.setTop (mkF m 105 #[.val (.int p0)] [])) _
                          refine XS.aconstNull X0.here hx rfl (hb hby d3_105) ?_
                          show Steps p.tables e below (s₁.setTop (mkF m 106 #[.val (.int p0)] [.null])) _
                          exact retOut X0 hx Bd.returns (own_narref rfl rfl) (Or.inr (Or.inr (Or.inr (Or.inr ⟨rfl, rfl, rfl⟩)))) (hb hby d3_106) hr
                        · show own_Q3 Z u p0 h0 n0 _ s₁.heap _
                          rw [e0]
                          exact ⟨(by unfold own_r3; rw [if_neg hc64, if_neg hc68, if_neg hc72, if_neg hc76, if_neg hc80, if_neg hc84, if_neg hc88, if_neg hc92, if_neg hc96, if_neg hc100, if_neg hc104]), N0, rfl⟩
theorem d4_0 : decode prog_6_method_4_code 0 = .ok (.aload_n 0, 1) := by decide +kernel
theorem d4_1 : decode prog_6_method_4_code 1 = .ok (.getfield 56, 3) := by decide +kernel
theorem d4_4 : decode prog_6_method_4_code 4 = .ok (.ireturn, 1) := by decide +kernel
theorem own_pn_4 : plainName "com/example/portcullis/portcullis/giop/ComponentTag" = true := by first | (simp [plainName, overriddenIn]; done) | decide +kernel
theorem own_ef_4 (m : MethodId) (x0 : Addr) : entryFrame m #[(.ref x0)] 1 = mkF m 0 #[.val (.ref x0)] [] := by first | (simp [entryFrame, mkF, argsToLocals, Value.category]; done) | rfl
def own_Q4 (Z : State) (u : Nat → Addr) (r0 : Addr) (w_code_r0 : Int32) (h0 : Heap) (n0 : Nat) (v : Option Value) (h : Heap) (L : List Loc) : Prop := v = some (.int w_code_r0) ∧ Fr n0 L ∧ h = h0
set_option maxRecDepth 65536 in
set_option maxHeartbeats 40000000 in
theorem rm4 (l : Launch) (Z : State) (a0 : Array Value) (hw : ∀ d ∈ tables_1, d.before a0 Z = true) (ws : List Jvm.Cond) (u : Nat → Addr) (r0 : Addr) (w_code_r0 : Int32) (B : own_Base Z u) (h0 : Heap) (n0 : Nat) (O : Old Z n0 h0) (F_w_code_r0 : Fld Z h0 r0 "com/example/portcullis/portcullis/giop/ComponentTag" "code" "I" (.int w_code_r0)) :
    MetFree l (⟨"com/example/portcullis/portcullis/giop/ComponentTag", "code", "()I"⟩ : MethodName) (head1 (Jvm.Cond.code (⟨"com/example/portcullis/portcullis/giop/ComponentTag", "code", "()I"⟩ : MethodName) prog_6_method_4_code 1 (some .int) :: ws) ({ frames := 0, cells := 0, slots := 0, locals := 0 } : Room)) (fun a U => a = #[(.ref r0)] ∧ Z.Warmed39 U.vm ∧ U.heap = h0) (fun _ _ _ _ _ => True) (fun _ U o U' => ∃ v L, o = .returned v ∧ own_Q4 Z u r0 w_code_r0 h0 n0 v U'.heap L ∧ FrameEnd U o U' L ({ frames := 0, cells := 0, slots := 0, locals := 0 } : Room).cells ({ frames := 0, cells := 0, slots := 0, locals := 0 } : Room).slots) := by
  refine MetFree.of_bodySF (plainFor_of_name own_pn_4) hisR ?_
  intro p e s m args below meth c s₁ Bd hml0 hP hK
  obtain ⟨rfl, hZ, hh⟩ := hP
  have hx := Bd.exec
  have hby := Bd.bytes
  have hml : c.maxLocals = 1 := hml0
  have hown : s.vm.findClass "com/example/portcullis/portcullis/giop/ComponentTag" = some m.cls := findClass_of_methodNamed Bd.named
  have hnm := (name_of_methodNamed Bd.named Bd.method).1
  have X0 : Stand p l e ({ frames := 0, cells := 0, slots := 0, locals := 0 } : Room) s m #[(.ref r0)] below meth c s₁ [] 0 0 := Stand.of_body Bd
  have e0 : s₁.heap = h0 := by rw [← hh, Bd.state]; rfl
  have N0 := Fr.nil n0
  have K0 := Keep.refl h0 []
  have Z0 : n0 ≤ h0.size := O.1 ▸ O.2.1
  have pre0 : ∀ t, Steps p.tables e below (s₁.setTop (mkF m 0 #[.val (.ref r0)] [])) t → Steps p.tables e below (s₁.setTop (entryFrame m #[(.ref r0)] 1)) t := fun t k => castTop (own_ef_4 m r0) k
  obtain ⟨T108, X108, e108, st108⟩ := getF X0 hx hZ hown (host := "") (Or.inl (hw _ (List.mem_of_getElem? (i := 30) rfl))) Via.refl e0 F_w_code_r0 (g := (mkF m 1 #[.val (.ref r0)] [(.ref r0)])) rfl rfl (hb hby d4_1)
  obtain ⟨fs, hr, hrun, hended, hW, hsame⟩ := X108.leave (v := some (.int w_code_r0)) (fun h => by rw [Bd.returns] at h; cases h)
  refine ⟨_, _, pre0 _ ?_, hrun, hended, _, _, rfl, ?_, ⟨_, rfl⟩, hW, hsame.mono (by decide) (by decide)⟩
  · show Steps p.tables e below (s₁.setTop (mkF m 0 #[.val (.ref r0)] [])) _
    refine XS.aloadN X0.here hx rfl (hb hby d4_0) rfl rfl ?_
    show Steps p.tables e below (s₁.setTop (mkF m 1 #[.val (.ref r0)] [(.ref r0)])) _
    refine st108 _ ?_
    show Steps p.tables e below (T108.setTop (mkF m 4 #[.val (.ref r0)] [(.int w_code_r0)])) _
    exact retI X108 hx Bd.returns (hb hby d4_4) hr
  · show own_Q4 Z u r0 w_code_r0 h0 n0 _ T108.heap _
    rw [e108]
    exact ⟨rfl, N0, rfl⟩
theorem own_pn_0 : plainName "com/example/portcullis/portcullis/giop/ComponentTagOfPinLaw" = true := by first | (simp [plainName, overriddenIn]; done) | decide +kernel
theorem own_ef_0 (m : MethodId) (x0 : Int32) (x1 : Int32) : entryFrame m #[(.int x0), (.int x1)] maxLocals = mkF m 0 #[.val (.int x0), .val (.int x1), .unset, .unset, .unset, .unset] [] := by first | (simp [entryFrame, mkF, argsToLocals, Value.category, maxLocals]; done) | rfl
def own_Q0 (Z : State) (u : Nat → Addr) (p0 : Int32) (p1 : Int32) (h0 : Heap) (n0 : Nat) (v : Option Value) (h : Heap) (L : List Loc) : Prop := v = some (.int (1 : Int32)) ∧ Fr n0 L ∧ True
set_option maxRecDepth 65536 in
set_option maxHeartbeats 40000000 in
theorem rm0 (l : Launch) (Z : State) (a0 : Array Value) (hw : ∀ d ∈ tables_1, d.before a0 Z = true) (ws : List Jvm.Cond) (u : Nat → Addr) (p0 : Int32) (p1 : Int32) (B : own_Base Z u) (h0 : Heap) (n0 : Nat) (O : Old Z n0 h0) :
    MetFree l x (head1 (Jvm.Cond.code x code maxLocals ret :: ws) room_1) (fun a U => a = #[(.int p0), (.int p1)] ∧ Z.Warmed39 U.vm ∧ U.heap = h0) (fun _ _ _ _ _ => True) (fun _ U o U' => ∃ v L, o = .returned v ∧ own_Q0 Z u p0 p1 h0 n0 v U'.heap L ∧ FrameEnd U o U' L room_1.cells room_1.slots) := by
  refine MetFree.of_bodySF (plainFor_of_name own_pn_0) hisR ?_
  intro p e s m args below meth c s₁ Bd hml0 hP hK
  obtain ⟨rfl, hZ, hh⟩ := hP
  have hx := Bd.exec
  have hby := Bd.bytes
  have hml : c.maxLocals = 6 := hml0
  have hown : s.vm.findClass "com/example/portcullis/portcullis/giop/ComponentTagOfPinLaw" = some m.cls := findClass_of_methodNamed Bd.named
  have hnm := (name_of_methodNamed Bd.named Bd.method).1
  have X0 : Stand p l e room_1 s m #[(.int p0), (.int p1)] below meth c s₁ [] 0 0 := Stand.of_body Bd
  have e0 : s₁.heap = h0 := by rw [← hh, Bd.state]; rfl
  have N0 := Fr.nil n0
  have K0 := Keep.refl h0 []
  have Z0 : n0 ≤ h0.size := O.1 ▸ O.2.1
  have pre0 : ∀ t, Steps p.tables e below (s₁.setTop (mkF m 0 #[.val (.int p0), .val (.int p1), .unset, .unset, .unset, .unset] [])) t → Steps p.tables e below (s₁.setTop (entryFrame m #[(.int p0), (.int p1)] maxLocals)) t := fun t k => castTop (own_ef_0 m p0 p1) k
  have pre110 : ∀ t, Steps p.tables e below (s₁.setTop (mkF m 3 #[.val (.int p0), .val (.int p1), .unset, .unset, .unset, .unset] [(.int (p1 &&& (1 : Int32)))])) t → Steps p.tables e below (s₁.setTop (entryFrame m #[(.int p0), (.int p1)] maxLocals)) t := fun t kt => pre0 t (by
    show Steps p.tables e below (s₁.setTop (mkF m 0 #[.val (.int p0), .val (.int p1), .unset, .unset, .unset, .unset] [])) _
    refine XS.iloadN X0.here hx rfl (hb hby at_0) rfl ?_
    show Steps p.tables e below (s₁.setTop (mkF m 1 #[.val (.int p0), .val (.int p1), .unset, .unset, .unset, .unset] [(.int p1)])) _
    refine XS.iconst X0.here hx rfl (hb hby at_1) ?_
    show Steps p.tables e below (s₁.setTop (mkF m 2 #[.val (.int p0), .val (.int p1), .unset, .unset, .unset, .unset] [(.int (1 : Int32)), (.int p1)])) _
    refine XS.iand X0.here hx rfl (hb hby at_2) rfl ?_
    exact kt)
  by_cases hc111 : (p1 &&& (1 : Int32)) = (0 : Int32)
  · --
    have pre112 : ∀ t, Steps p.tables e below (s₁.setTop (mkF m 26 #[.val (.int p0), .val (.int p1), .val (.int (0 : Int32)), .val (.int p0), .unset, .unset] [(.int p0)])) t → Steps p.tables e below (s₁.setTop (entryFrame m #[(.int p0), (.int p1)] maxLocals)) t := fun t kt => pre110 t (by
      show Steps p.tables e below (s₁.setTop (mkF m 3 #[.val (.int p0), .val (.int p1), .unset, .unset, .unset, .unset] [(.int (p1 &&& (1 : Int32)))])) _
      refine XS.ifYes X0.here hx rfl (pc0 := 3) (pc' := 10) rfl (hb hby at_3) rfl ((if0 _ _).trans (teq hc111).1) (by decide) (by decide) ?_
      show Steps p.tables e below (s₁.setTop (mkF m 10 #[.val (.int p0), .val (.int p1), .unset, .unset, .unset, .unset] [])) _
      refine XS.iconst X0.here hx rfl (hb hby at_10) ?_
      show Steps p.tables e below (s₁.setTop (mkF m 11 #[.val (.int p0), .val (.int p1), .unset, .unset, .unset, .unset] [(.int (0 : Int32))])) _
      refine XS.istoreN X0.here hx rfl (hb hby at_11) rfl (l' := #[.val (.int p0), .val (.int p1), .val (.int (0 : Int32)), .unset, .unset, .unset]) rfl ?_
      show Steps p.tables e below (s₁.setTop (mkF m 12 #[.val (.int p0), .val (.int p1), .val (.int (0 : Int32)), .unset, .unset, .unset] [])) _
      refine XS.iloadN X0.here hx rfl (hb hby at_12) rfl ?_
      show Steps p.tables e below (s₁.setTop (mkF m 13 #[.val (.int p0), .val (.int p1), .val (.int (0 : Int32)), .unset, .unset, .unset] [(.int (0 : Int32))])) _
      refine XS.ifYes X0.here hx rfl (pc0 := 13) (pc' := 23) rfl (hb hby at_13) rfl ((if0 _ _).trans (teq (by decide : (0 : Int32) = (0 : Int32))).1) (by decide) (by decide) ?_
      show Steps p.tables e below (s₁.setTop (mkF m 23 #[.val (.int p0), .val (.int p1), .val (.int (0 : Int32)), .unset, .unset, .unset] [])) _
      refine XS.iloadN X0.here hx rfl (hb hby at_23) rfl ?_
      show Steps p.tables e below (s₁.setTop (mkF m 24 #[.val (.int p0), .val (.int p1), .val (.int (0 : Int32)), .unset, .unset, .unset] [(.int p0)])) _
      refine XS.istoreN X0.here hx rfl (hb hby at_24) rfl (l' := #[.val (.int p0), .val (.int p1), .val (.int (0 : Int32)), .val (.int p0), .unset, .unset]) rfl ?_
      show Steps p.tables e below (s₁.setTop (mkF m 25 #[.val (.int p0), .val (.int p1), .val (.int (0 : Int32)), .val (.int p0), .unset, .unset] [])) _
      refine XS.iloadN X0.here hx rfl (hb hby at_25) rfl ?_
      exact kt)
    obtain ⟨vr113, _, ⟨T113, L113, k113, n113⟩, -, X113, ⟨Lc113, hQ113, l113, y113, z113⟩, st113⟩ := Jvm.LawKit.callS X0 hx (y := (⟨"com/example/portcullis/portcullis/giop/ComponentTag", "of", "(I)Lcom/example/portcullis/portcullis/giop/ComponentTag;"⟩ : MethodName)) hown (mvT hZ (hw _ (List.mem_of_getElem? (i := 0) rfl))) (mvT hZ (hw _ (List.mem_of_getElem? (i := 1) rfl))) (mvT hZ (hw _ (List.mem_of_getElem? (i := 2) rfl))) (mvT hZ (hw _ (List.mem_of_getElem? (i := 3) rfl))) (by decide) (backOf (W := 0) (rm1 l Z a0 hw [] u p0 B h0 n0 O ) hZ (hw _ (List.mem_of_getElem? (i := 3) rfl)) (hw _ (List.mem_of_getElem? (i := 2) rfl)) (by decide) (by decide)) (g := (mkF m 26 #[.val (.int p0), .val (.int p1), .val (.int (0 : Int32)), .val (.int p0), .unset, .unset] [(.int p0)])) rfl (by rw [hml]; rfl) (argsL := [(.int p0)]) (rest := []) (lenOf own_pd1 rfl) rfl (by show 2 * 0 + _ ≤ _; exact Nat.le_of_eq rfl) (hb hby at_26) (fun _ _ => ⟨rfl, e0, (by decide : 0 + 1 ≤ _), (by decide : 0 + 11 ≤ _)⟩)
    dsimp only [Pt.U, Pt.locs, Pt.cells, Pt.slots] at X113 l113 y113 z113 st113 hQ113
    subst l113 y113 z113
    obtain ⟨hv113, N113q, E113⟩ := hQ113
    have N113 := Fr.app N0 N113q
    have O113 := O.ext E113
    have K113 := K0.ext E113
    by_cases hc114 : (0 : Int32) = p0
    · --
      obtain rfl : vr113 = some (.ref (u 1)) := hv113.trans (by unfold own_r1; rw [if_pos hc114])
      have pre115 : ∀ t, Steps p.tables e below (T113.setTop (mkF m 32 #[.val (.int p0), .val (.int p1), .val (.int (0 : Int32)), .val (.int p0), .val (.ref (u 1)), .unset] [(.int p0)])) t → Steps p.tables e below (s₁.setTop (entryFrame m #[(.int p0), (.int p1)] maxLocals)) t := fun t kt => pre112 t (by
        show Steps p.tables e below (s₁.setTop (mkF m 26 #[.val (.int p0), .val (.int p1), .val (.int (0 : Int32)), .val (.int p0), .unset, .unset] [(.int p0)])) _
        refine st113 _ ?_
        show Steps p.tables e below (T113.setTop (mkF m 29 #[.val (.int p0), .val (.int p1), .val (.int (0 : Int32)), .val (.int p0), .unset, .unset] [(.ref (u 1))])) _
        refine XS.astore X113.here hx rfl (hb hby at_29) rfl rfl (l' := #[.val (.int p0), .val (.int p1), .val (.int (0 : Int32)), .val (.int p0), .val (.ref (u 1)), .unset]) rfl ?_
        show Steps p.tables e below (T113.setTop (mkF m 31 #[.val (.int p0), .val (.int p1), .val (.int (0 : Int32)), .val (.int p0), .val (.ref (u 1)), .unset] [])) _
        refine XS.iloadN X113.here hx rfl (hb hby at_31) rfl ?_
        exact kt)
      obtain ⟨vr116, _, ⟨T116, L116, k116, n116⟩, -, X116, ⟨Lc116, hQ116, l116, y116, z116⟩, st116⟩ := Jvm.LawKit.callS X113 hx (y := (⟨"com/example/portcullis/portcullis/giop/ComponentTagOfPinLaw", "expected", "(I)Lcom/example/portcullis/portcullis/giop/ComponentTag;"⟩ : MethodName)) hown (mvT hZ (hw _ (List.mem_of_getElem? (i := 32) rfl))) (mvT hZ (hw _ (List.mem_of_getElem? (i := 33) rfl))) (mvT hZ (hw _ (List.mem_of_getElem? (i := 34) rfl))) (mvT hZ (hw _ (List.mem_of_getElem? (i := 35) rfl))) (by decide) (backOf (W := 0) (rm3 l Z a0 hw [] u p0 B T113.heap n0 O113 ) hZ (hw _ (List.mem_of_getElem? (i := 35) rfl)) (hw _ (List.mem_of_getElem? (i := 34) rfl)) (by decide) (by decide)) (g := (mkF m 32 #[.val (.int p0), .val (.int p1), .val (.int (0 : Int32)), .val (.int p0), .val (.ref (u 1)), .unset] [(.int p0)])) rfl (by rw [hml]; rfl) (argsL := [(.int p0)]) (rest := []) (lenOf own_pd1 rfl) rfl (by show 2 * 0 + _ ≤ _; exact Nat.le_of_eq rfl) (hb hby at_32) (fun _ _ => ⟨rfl, rfl, (by decide : 1 + 0 ≤ _), (by decide : 11 + 0 ≤ _)⟩)
      dsimp only [Pt.U, Pt.locs, Pt.cells, Pt.slots] at X116 l116 y116 z116 st116 hQ116
      subst l116 y116 z116
      obtain ⟨hv116, N116q, e116⟩ := hQ116
      have N116 := Fr.app N113 N116q
      obtain rfl : vr116 = some (.ref (u 1)) := hv116.trans (by unfold own_r3; rw [if_pos (Eq.symm hc114)])
      obtain ⟨cq117, kq117, q117a, q117b, q117c⟩ := isOf hZ e116 (B.2.2.2.1.ext O113.2)
      obtain ⟨vr117, _, ⟨T117, L117, k117, n117⟩, -, X117, ⟨Lc117, hQ117, l117, y117, z117⟩, st117⟩ := X116.virtualBack hx (y := (⟨"com/example/portcullis/portcullis/giop/ComponentTag", "code", "()I"⟩ : MethodName)) (z := (⟨"com/example/portcullis/portcullis/giop/ComponentTag", "code", "()I"⟩ : MethodName)) hown (mvT hZ (hw _ (List.mem_of_getElem? (i := 37) rfl))) (mvT hZ (hw _ (List.mem_of_getElem? (i := 38) rfl))) (notFace_of_selects (args := #[]) (mvT hZ (hw _ (List.mem_of_getElem? (i := 40) rfl)))) (mvT hZ (hw _ (List.mem_of_getElem? (i := 40) rfl))) (mvT hZ (hw _ (List.mem_of_getElem? (i := 39) rfl))) (by decide) (backOf (W := 0) (rm4 l Z a0 hw [] u (u 1) (0 : Int32) B T113.heap n0 O113 (B.2.2.2.2.2.2.2.2.2.2.2.2.2.2.2.2.2.2.2.2.2.2.2.2.2.1.ext O113.2)) hZ (hw _ (List.mem_of_getElem? (i := 41) rfl)) (hw _ (List.mem_of_getElem? (i := 2) rfl)) (by decide) (by decide)) q117a q117c (g := (mkF m 53 #[.val (.int p0), .val (.int p1), .val (.int (0 : Int32)), .val (.int p0), .val (.ref (u 1)), .val (.ref (u 1))] [(.ref (u 1))])) rfl (by rw [hml]; rfl) (Steps.refl _) (argsL := []) (rest := []) (lenOf own_pd2 rfl) rfl (by show 2 * 0 + _ ≤ _; exact Nat.le_of_eq rfl) (hb hby at_53) (fun _ _ => ⟨rfl, e116, (by decide : 1 + 0 ≤ _), (by decide : 11 + 0 ≤ _)⟩)
      dsimp only [Pt.U, Pt.locs, Pt.cells, Pt.slots] at X117 l117 y117 z117 st117 hQ117
      subst l117 y117 z117
      obtain ⟨rfl, N117q, e117⟩ := hQ117
      have N117 := Fr.app N116 N117q
      obtain ⟨fs, hr, hrun, hended, hW, hsame⟩ := X117.leave (v := some (.int (1 : Int32))) (fun h => by rw [Bd.returns] at h; cases h)
      refine ⟨_, _, pre115 _ ?_, hrun, hended, _, _, rfl, ?_, ⟨_, rfl⟩, hW, hsame.mono (by decide) (by decide)⟩
      · show Steps p.tables e below (T113.setTop (mkF m 32 #[.val (.int p0), .val (.int p1), .val (.int (0 : Int32)), .val (.int p0), .val (.ref (u 1)), .unset] [(.int p0)])) _
        refine st116 _ ?_
        show Steps p.tables e below (T116.setTop (mkF m 35 #[.val (.int p0), .val (.int p1), .val (.int (0 : Int32)), .val (.int p0), .val (.ref (u 1)), .unset] [(.ref (u 1))])) _
        refine XS.astore X116.here hx rfl (hb hby at_35) rfl rfl (l' := #[.val (.int p0), .val (.int p1), .val (.int (0 : Int32)), .val (.int p0), .val (.ref (u 1)), .val (.ref (u 1))]) rfl ?_
        show Steps p.tables e below (T116.setTop (mkF m 37 #[.val (.int p0), .val (.int p1), .val (.int (0 : Int32)), .val (.int p0), .val (.ref (u 1)), .val (.ref (u 1))] [])) _
        refine XS.aload X116.here hx rfl (hb hby at_37) rfl rfl ?_
        show Steps p.tables e below (T116.setTop (mkF m 39 #[.val (.int p0), .val (.int p1), .val (.int (0 : Int32)), .val (.int p0), .val (.ref (u 1)), .val (.ref (u 1))] [(.ref (u 1))])) _
        refine XS.aload X116.here hx rfl (hb hby at_39) rfl rfl ?_
        show Steps p.tables e below (T116.setTop (mkF m 41 #[.val (.int p0), .val (.int p1), .val (.int (0 : Int32)), .val (.int p0), .val (.ref (u 1)), .val (.ref (u 1))] [(.ref (u 1)), (.ref (u 1))])) _
        refine Jvm.RoadKit.acmp (g := (mkF m 41 #[.val (.int p0), .val (.int p1), .val (.int (0 : Int32)), .val (.int p0), .val (.ref (u 1)), .val (.ref (u 1))] [(.ref (u 1)), (.ref (u 1))])) X116 hx rfl rfl rfl (pc0 := 41) (pc' := 46) (same := true) rfl (hb hby at_41) rfl (decide_eq_true rfl) (by decide) (by decide) ?_
        show Steps p.tables e below (T116.setTop (mkF m 46 #[.val (.int p0), .val (.int p1), .val (.int (0 : Int32)), .val (.int p0), .val (.ref (u 1)), .val (.ref (u 1))] [])) _
        refine XS.aload X116.here hx rfl (hb hby at_46) rfl rfl ?_
        show Steps p.tables e below (T116.setTop (mkF m 48 #[.val (.int p0), .val (.int p1), .val (.int (0 : Int32)), .val (.int p0), .val (.ref (u 1)), .val (.ref (u 1))] [(.ref (u 1))])) _
        refine XS.ifnullNo X116.here hx rfl (hb hby at_48) rfl ?_
        show Steps p.tables e below (T116.setTop (mkF m 51 #[.val (.int p0), .val (.int p1), .val (.int (0 : Int32)), .val (.int p0), .val (.ref (u 1)), .val (.ref (u 1))] [])) _
        refine XS.aload X116.here hx rfl (hb hby at_51) rfl rfl ?_
        show Steps p.tables e below (T116.setTop (mkF m 53 #[.val (.int p0), .val (.int p1), .val (.int (0 : Int32)), .val (.int p0), .val (.ref (u 1)), .val (.ref (u 1))] [(.ref (u 1))])) _
        refine st117.trans ?_
        show Steps p.tables e below (T117.setTop (mkF m 56 #[.val (.int p0), .val (.int p1), .val (.int (0 : Int32)), .val (.int p0), .val (.ref (u 1)), .val (.ref (u 1))] [(.int (0 : Int32))])) _
        refine XS.iloadN X117.here hx rfl (hb hby at_56) rfl ?_
        show Steps p.tables e below (T117.setTop (mkF m 57 #[.val (.int p0), .val (.int p1), .val (.int (0 : Int32)), .val (.int p0), .val (.ref (u 1)), .val (.ref (u 1))] [(.int p0), (.int (0 : Int32))])) _
        refine XS.icmpYes X117.here hx rfl (pc0 := 57) (pc' := 62) rfl (hb hby at_57) rfl (teq hc114).1 (by decide) (by decide) ?_
        show Steps p.tables e below (T117.setTop (mkF m 62 #[.val (.int p0), .val (.int p1), .val (.int (0 : Int32)), .val (.int p0), .val (.ref (u 1)), .val (.ref (u 1))] [])) _
        refine XS.iconst X117.here hx rfl (hb hby at_62) ?_
        show Steps p.tables e below (T117.setTop (mkF m 63 #[.val (.int p0), .val (.int p1), .val (.int (0 : Int32)), .val (.int p0), .val (.ref (u 1)), .val (.ref (u 1))] [(.int (1 : Int32))])) _
        exact retN X117 hx (t := .boolean) Bd.returns (by simp) (hb hby at_63) hr
      · show own_Q0 Z u p0 p1 h0 n0 _ T117.heap _
        rw [e117]
        exact ⟨rfl, N117, trivial⟩
    · --
      by_cases hc119 : (1 : Int32) = p0
      · --
        obtain rfl : vr113 = some (.ref (u 2)) := hv113.trans (by unfold own_r1; rw [if_neg hc114, if_pos hc119])
        have pre120 : ∀ t, Steps p.tables e below (T113.setTop (mkF m 32 #[.val (.int p0), .val (.int p1), .val (.int (0 : Int32)), .val (.int p0), .val (.ref (u 2)), .unset] [(.int p0)])) t → Steps p.tables e below (s₁.setTop (entryFrame m #[(.int p0), (.int p1)] maxLocals)) t := fun t kt => pre112 t (by
          show Steps p.tables e below (s₁.setTop (mkF m 26 #[.val (.int p0), .val (.int p1), .val (.int (0 : Int32)), .val (.int p0), .unset, .unset] [(.int p0)])) _
          refine st113 _ ?_
          show Steps p.tables e below (T113.setTop (mkF m 29 #[.val (.int p0), .val (.int p1), .val (.int (0 : Int32)), .val (.int p0), .unset, .unset] [(.ref (u 2))])) _
          refine XS.astore X113.here hx rfl (hb hby at_29) rfl rfl (l' := #[.val (.int p0), .val (.int p1), .val (.int (0 : Int32)), .val (.int p0), .val (.ref (u 2)), .unset]) rfl ?_
          show Steps p.tables e below (T113.setTop (mkF m 31 #[.val (.int p0), .val (.int p1), .val (.int (0 : Int32)), .val (.int p0), .val (.ref (u 2)), .unset] [])) _
          refine XS.iloadN X113.here hx rfl (hb hby at_31) rfl ?_
          exact kt)
        obtain ⟨vr121, _, ⟨T121, L121, k121, n121⟩, -, X121, ⟨Lc121, hQ121, l121, y121, z121⟩, st121⟩ := Jvm.LawKit.callS X113 hx (y := (⟨"com/example/portcullis/portcullis/giop/ComponentTagOfPinLaw", "expected", "(I)Lcom/example/portcullis/portcullis/giop/ComponentTag;"⟩ : MethodName)) hown (mvT hZ (hw _ (List.mem_of_getElem? (i := 32) rfl))) (mvT hZ (hw _ (List.mem_of_getElem? (i := 33) rfl))) (mvT hZ (hw _ (List.mem_of_getElem? (i := 34) rfl))) (mvT hZ (hw _ (List.mem_of_getElem? (i := 35) rfl))) (by decide) (backOf (W := 0) (rm3 l Z a0 hw [] u p0 B T113.heap n0 O113 ) hZ (hw _ (List.mem_of_getElem? (i := 35) rfl)) (hw _ (List.mem_of_getElem? (i := 34) rfl)) (by decide) (by decide)) (g := (mkF m 32 #[.val (.int p0), .val (.int p1), .val (.int (0 : Int32)), .val (.int p0), .val (.ref (u 2)), .unset] [(.int p0)])) rfl (by rw [hml]; rfl) (argsL := [(.int p0)]) (rest := []) (lenOf own_pd1 rfl) rfl (by show 2 * 0 + _ ≤ _; exact Nat.le_of_eq rfl) (hb hby at_32) (fun _ _ => ⟨rfl, rfl, (by decide : 1 + 0 ≤ _), (by decide : 11 + 0 ≤ _)⟩)
        dsimp only [Pt.U, Pt.locs, Pt.cells, Pt.slots] at X121 l121 y121 z121 st121 hQ121
        subst l121 y121 z121
        obtain ⟨hv121, N121q, e121⟩ := hQ121
        have N121 := Fr.app N113 N121q
        obtain rfl : vr121 = some (.ref (u 2)) := hv121.trans (by unfold own_r3; rw [if_neg (fun q => hc114 (Eq.symm q)), if_pos (Eq.symm hc119)])
        obtain ⟨cq122, kq122, q122a, q122b, q122c⟩ := isOf hZ e121 (B.2.2.2.2.2.1.ext O113.2)
        obtain ⟨vr122, _, ⟨T122, L122, k122, n122⟩, -, X122, ⟨Lc122, hQ122, l122, y122, z122⟩, st122⟩ := X121.virtualBack hx (y := (⟨"com/example/portcullis/portcullis/giop/ComponentTag", "code", "()I"⟩ : MethodName)) (z := (⟨"com/example/portcullis/portcullis/giop/ComponentTag", "code", "()I"⟩ : MethodName)) hown (mvT hZ (hw _ (List.mem_of_getElem? (i := 37) rfl))) (mvT hZ (hw _ (List.mem_of_getElem? (i := 38) rfl))) (notFace_of_selects (args := #[]) (mvT hZ (hw _ (List.mem_of_getElem? (i := 40) rfl)))) (mvT hZ (hw _ (List.mem_of_getElem? (i := 40) rfl))) (mvT hZ (hw _ (List.mem_of_getElem? (i := 39) rfl))) (by decide) (backOf (W := 0) (rm4 l Z a0 hw [] u (u 2) (1 : Int32) B T113.heap n0 O113 (B.2.2.2.2.2.2.2.2.2.2.2.2.2.2.2.2.2.2.2.2.2.2.2.2.2.2.1.ext O113.2)) hZ (hw _ (List.mem_of_getElem? (i := 41) rfl)) (hw _ (List.mem_of_getElem? (i := 2) rfl)) (by decide) (by decide)) q122a q122c (g := (mkF m 53 #[.val (.int p0), .val (.int p1), .val (.int (0 : Int32)), .val (.int p0), .val (.ref (u 2)), .val (.ref (u 2))] [(.ref (u 2))])) rfl (by rw [hml]; rfl) (Steps.refl _) (argsL := []) (rest := []) (lenOf own_pd2 rfl) rfl (by show 2 * 0 + _ ≤ _; exact Nat.le_of_eq rfl) (hb hby at_53) (fun _ _ => ⟨rfl, e121, (by decide : 1 + 0 ≤ _), (by decide : 11 + 0 ≤ _)⟩)
        dsimp only [Pt.U, Pt.locs, Pt.cells, Pt.slots] at X122 l122 y122 z122 st122 hQ122
        subst l122 y122 z122
        obtain ⟨rfl, N122q, e122⟩ := hQ122
        have N122 := Fr.app N121 N122q
        obtain ⟨fs, hr, hrun, hended, hW, hsame⟩ := X122.leave (v := some (.int (1 : Int32))) (fun h => by rw [Bd.returns] at h; cases h)
        refine ⟨_, _, pre120 _ ?_, hrun, hended, _, _, rfl, ?_, ⟨_, rfl⟩, hW, hsame.mono (by decide) (by decide)⟩
        · show Steps p.tables e below (T113.setTop (mkF m 32 #[.val (.int p0), .val (.int p1), .val (.int (0 : Int32)), .val (.int p0), .val (.ref (u 2)), .unset] [(.int p0)])) _
          refine st121 _ ?_
          show Steps p.tables e below (T121.setTop (mkF m 35 #[.val (.int p0), .val (.int p1), .val (.int (0 : Int32)), .val (.int p0), .val (.ref (u 2)), .unset] [(.ref (u 2))])) _
          refine XS.astore X121.here hx rfl (hb hby at_35) rfl rfl (l' := #[.val (.int p0), .val (.int p1), .val (.int (0 : Int32)), .val (.int p0), .val (.ref (u 2)), .val (.ref (u 2))]) rfl ?_
          show Steps p.tables e below (T121.setTop (mkF m 37 #[.val (.int p0), .val (.int p1), .val (.int (0 : Int32)), .val (.int p0), .val (.ref (u 2)), .val (.ref (u 2))] [])) _
          refine XS.aload X121.here hx rfl (hb hby at_37) rfl rfl ?_
          show Steps p.tables e below (T121.setTop (mkF m 39 #[.val (.int p0), .val (.int p1), .val (.int (0 : Int32)), .val (.int p0), .val (.ref (u 2)), .val (.ref (u 2))] [(.ref (u 2))])) _
          refine XS.aload X121.here hx rfl (hb hby at_39) rfl rfl ?_
          show Steps p.tables e below (T121.setTop (mkF m 41 #[.val (.int p0), .val (.int p1), .val (.int (0 : Int32)), .val (.int p0), .val (.ref (u 2)), .val (.ref (u 2))] [(.ref (u 2)), (.ref (u 2))])) _
          refine Jvm.RoadKit.acmp (g := (mkF m 41 #[.val (.int p0), .val (.int p1), .val (.int (0 : Int32)), .val (.int p0), .val (.ref (u 2)), .val (.ref (u 2))] [(.ref (u 2)), (.ref (u 2))])) X121 hx rfl rfl rfl (pc0 := 41) (pc' := 46) (same := true) rfl (hb hby at_41) rfl (decide_eq_true rfl) (by decide) (by decide) ?_
          show Steps p.tables e below (T121.setTop (mkF m 46 #[.val (.int p0), .val (.int p1), .val (.int (0 : Int32)), .val (.int p0), .val (.ref (u 2)), .val (.ref (u 2))] [])) _
          refine XS.aload X121.here hx rfl (hb hby at_46) rfl rfl ?_
          show Steps p.tables e below (T121.setTop (mkF m 48 #[.val (.int p0), .val (.int p1), .val (.int (0 : Int32)), .val (.int p0), .val (.ref (u 2)), .val (.ref (u 2))] [(.ref (u 2))])) _
          refine XS.ifnullNo X121.here hx rfl (hb hby at_48) rfl ?_
          show Steps p.tables e below (T121.setTop (mkF m 51 #[.val (.int p0), .val (.int p1), .val (.int (0 : Int32)), .val (.int p0), .val (.ref (u 2)), .val (.ref (u 2))] [])) _
          refine XS.aload X121.here hx rfl (hb hby at_51) rfl rfl ?_
          show Steps p.tables e below (T121.setTop (mkF m 53 #[.val (.int p0), .val (.int p1), .val (.int (0 : Int32)), .val (.int p0), .val (.ref (u 2)), .val (.ref (u 2))] [(.ref (u 2))])) _
          refine st122.trans ?_
          show Steps p.tables e below (T122.setTop (mkF m 56 #[.val (.int p0), .val (.int p1), .val (.int (0 : Int32)), .val (.int p0), .val (.ref (u 2)), .val (.ref (u 2))] [(.int (1 : Int32))])) _
          refine XS.iloadN X122.here hx rfl (hb hby at_56) rfl ?_
          show Steps p.tables e below (T122.setTop (mkF m 57 #[.val (.int p0), .val (.int p1), .val (.int (0 : Int32)), .val (.int p0), .val (.ref (u 2)), .val (.ref (u 2))] [(.int p0), (.int (1 : Int32))])) _
          refine XS.icmpYes X122.here hx rfl (pc0 := 57) (pc' := 62) rfl (hb hby at_57) rfl (teq hc119).1 (by decide) (by decide) ?_
          show Steps p.tables e below (T122.setTop (mkF m 62 #[.val (.int p0), .val (.int p1), .val (.int (0 : Int32)), .val (.int p0), .val (.ref (u 2)), .val (.ref (u 2))] [])) _
          refine XS.iconst X122.here hx rfl (hb hby at_62) ?_
          show Steps p.tables e below (T122.setTop (mkF m 63 #[.val (.int p0), .val (.int p1), .val (.int (0 : Int32)), .val (.int p0), .val (.ref (u 2)), .val (.ref (u 2))] [(.int (1 : Int32))])) _
          exact retN X122 hx (t := .boolean) Bd.returns (by simp) (hb hby at_63) hr
        · show own_Q0 Z u p0 p1 h0 n0 _ T122.heap _
          rw [e122]
          exact ⟨rfl, N122, trivial⟩
      · --
        by_cases hc124 : (2 : Int32) = p0
        · --
          obtain rfl : vr113 = some (.ref (u 3)) := hv113.trans (by unfold own_r1; rw [if_neg hc114, if_neg hc119, if_pos hc124])
          have pre125 : ∀ t, Steps p.tables e below (T113.setTop (mkF m 32 #[.val (.int p0), .val (.int p1), .val (.int (0 : Int32)), .val (.int p0), .val (.ref (u 3)), .unset] [(.int p0)])) t → Steps p.tables e below (s₁.setTop (entryFrame m #[(.int p0), (.int p1)] maxLocals)) t := fun t kt => pre112 t (by
            show Steps p.tables e below (s₁.setTop (mkF m 26 #[.val (.int p0), .val (.int p1), .val (.int (0 : Int32)), .val (.int p0), .unset, .unset] [(.int p0)])) _
            refine st113 _ ?_
            show Steps p.tables e below (T113.setTop (mkF m 29 #[.val (.int p0), .val (.int p1), .val (.int (0 : Int32)), .val (.int p0), .unset, .unset] [(.ref (u 3))])) _
            refine XS.astore X113.here hx rfl (hb hby at_29) rfl rfl (l' := #[.val (.int p0), .val (.int p1), .val (.int (0 : Int32)), .val (.int p0), .val (.ref (u 3)), .unset]) rfl ?_
            show Steps p.tables e below (T113.setTop (mkF m 31 #[.val (.int p0), .val (.int p1), .val (.int (0 : Int32)), .val (.int p0), .val (.ref (u 3)), .unset] [])) _
            refine XS.iloadN X113.here hx rfl (hb hby at_31) rfl ?_
            exact kt)
          obtain ⟨vr126, _, ⟨T126, L126, k126, n126⟩, -, X126, ⟨Lc126, hQ126, l126, y126, z126⟩, st126⟩ := Jvm.LawKit.callS X113 hx (y := (⟨"com/example/portcullis/portcullis/giop/ComponentTagOfPinLaw", "expected", "(I)Lcom/example/portcullis/portcullis/giop/ComponentTag;"⟩ : MethodName)) hown (mvT hZ (hw _ (List.mem_of_getElem? (i := 32) rfl))) (mvT hZ (hw _ (List.mem_of_getElem? (i := 33) rfl))) (mvT hZ (hw _ (List.mem_of_getElem? (i := 34) rfl))) (mvT hZ (hw _ (List.mem_of_getElem? (i := 35) rfl))) (by decide) (backOf (W := 0) (rm3 l Z a0 hw [] u p0 B T113.heap n0 O113 ) hZ (hw _ (List.mem_of_getElem? (i := 35) rfl)) (hw _ (List.mem_of_getElem? (i := 34) rfl)) (by decide) (by decide)) (g := (mkF m 32 #[.val (.int p0), .val (.int p1), .val (.int (0 : Int32)), .val (.int p0), .val (.ref (u 3)), .unset] [(.int p0)])) rfl (by rw [hml]; rfl) (argsL := [(.int p0)]) (rest := []) (lenOf own_pd1 rfl) rfl (by show 2 * 0 + _ ≤ _; exact Nat.le_of_eq rfl) (hb hby at_32) (fun _ _ => ⟨rfl, rfl, (by decide : 1 + 0 ≤ _), (by decide : 11 + 0 ≤ _)⟩)
          dsimp only [Pt.U, Pt.locs, Pt.cells, Pt.slots] at X126 l126 y126 z126 st126 hQ126
          subst l126 y126 z126
          obtain ⟨hv126, N126q, e126⟩ := hQ126
          have N126 := Fr.app N113 N126q
          obtain rfl : vr126 = some (.ref (u 3)) := hv126.trans (by unfold own_r3; rw [if_neg (fun q => hc114 (Eq.symm q)), if_neg (fun q => hc119 (Eq.symm q)), if_pos (Eq.symm hc124)])
          obtain ⟨cq127, kq127, q127a, q127b, q127c⟩ := isOf hZ e126 (B.2.2.2.2.2.2.2.1.ext O113.2)
          obtain ⟨vr127, _, ⟨T127, L127, k127, n127⟩, -, X127, ⟨Lc127, hQ127, l127, y127, z127⟩, st127⟩ := X126.virtualBack hx (y := (⟨"com/example/portcullis/portcullis/giop/ComponentTag", "code", "()I"⟩ : MethodName)) (z := (⟨"com/example/portcullis/portcullis/giop/ComponentTag", "code", "()I"⟩ : MethodName)) hown (mvT hZ (hw _ (List.mem_of_getElem? (i := 37) rfl))) (mvT hZ (hw _ (List.mem_of_getElem? (i := 38) rfl))) (notFace_of_selects (args := #[]) (mvT hZ (hw _ (List.mem_of_getElem? (i := 40) rfl)))) (mvT hZ (hw _ (List.mem_of_getElem? (i := 40) rfl))) (mvT hZ (hw _ (List.mem_of_getElem? (i := 39) rfl))) (by decide) (backOf (W := 0) (rm4 l Z a0 hw [] u (u 3) (2 : Int32) B T113.heap n0 O113 (B.2.2.2.2.2.2.2.2.2.2.2.2.2.2.2.2.2.2.2.2.2.2.2.2.2.2.2.1.ext O113.2)) hZ (hw _ (List.mem_of_getElem? (i := 41) rfl)) (hw _ (List.mem_of_getElem? (i := 2) rfl)) (by decide) (by decide)) q127a q127c (g := (mkF m 53 #[.val (.int p0), .val (.int p1), .val (.int (0 : Int32)), .val (.int p0), .val (.ref (u 3)), .val (.ref (u 3))] [(.ref (u 3))])) rfl (by rw [hml]; rfl) (Steps.refl _) (argsL := []) (rest := []) (lenOf own_pd2 rfl) rfl (by show 2 * 0 + _ ≤ _; exact Nat.le_of_eq rfl) (hb hby at_53) (fun _ _ => ⟨rfl, e126, (by decide : 1 + 0 ≤ _), (by decide : 11 + 0 ≤ _)⟩)
          dsimp only [Pt.U, Pt.locs, Pt.cells, Pt.slots] at X127 l127 y127 z127 st127 hQ127
          subst l127 y127 z127
          obtain ⟨rfl, N127q, e127⟩ := hQ127
          have N127 := Fr.app N126 N127q
          obtain ⟨fs, hr, hrun, hended, hW, hsame⟩ := X127.leave (v := some (.int (1 : Int32))) (fun h => by rw [Bd.returns] at h; cases h)
          refine ⟨_, _, pre125 _ ?_, hrun, hended, _, _, rfl, ?_, ⟨_, rfl⟩, hW, hsame.mono (by decide) (by decide)⟩
          · show Steps p.tables e below (T113.setTop (mkF m 32 #[.val (.int p0), .val (.int p1), .val (.int (0 : Int32)), .val (.int p0), .val (.ref (u 3)), .unset] [(.int p0)])) _
            refine st126 _ ?_
            show Steps p.tables e below (T126.setTop (mkF m 35 #[.val (.int p0), .val (.int p1), .val (.int (0 : Int32)), .val (.int p0), .val (.ref (u 3)), .unset] [(.ref (u 3))])) _
            refine XS.astore X126.here hx rfl (hb hby at_35) rfl rfl (l' := #[.val (.int p0), .val (.int p1), .val (.int (0 : Int32)), .val (.int p0), .val (.ref (u 3)), .val (.ref (u 3))]) rfl ?_
            show Steps p.tables e below (T126.setTop (mkF m 37 #[.val (.int p0), .val (.int p1), .val (.int (0 : Int32)), .val (.int p0), .val (.ref (u 3)), .val (.ref (u 3))] [])) _
            refine XS.aload X126.here hx rfl (hb hby at_37) rfl rfl ?_
            show Steps p.tables e below (T126.setTop (mkF m 39 #[.val (.int p0), .val (.int p1), .val (.int (0 : Int32)), .val (.int p0), .val (.ref (u 3)), .val (.ref (u 3))] [(.ref (u 3))])) _
            refine XS.aload X126.here hx rfl (hb hby at_39) rfl rfl ?_
            show Steps p.tables e below (T126.setTop (mkF m 41 #[.val (.int p0), .val (.int p1), .val (.int (0 : Int32)), .val (.int p0), .val (.ref (u 3)), .val (.ref (u 3))] [(.ref (u 3)), (.ref (u 3))])) _
            refine Jvm.RoadKit.acmp (g := (mkF m 41 #[.val (.int p0), .val (.int p1), .val (.int (0 : Int32)), .val (.int p0), .val (.ref (u 3)), .val (.ref (u 3))] [(.ref (u 3)), (.ref (u 3))])) X126 hx rfl rfl rfl (pc0 := 41) (pc' := 46) (same := true) rfl (hb hby at_41) rfl (decide_eq_true rfl) (by decide) (by decide) ?_
            show Steps p.tables e below (T126.setTop (mkF m 46 #[.val (.int p0), .val (.int p1), .val (.int (0 : Int32)), .val (.int p0), .val (.ref (u 3)), .val (.ref (u 3))] [])) _
            refine XS.aload X126.here hx rfl (hb hby at_46) rfl rfl ?_
            show Steps p.tables e below (T126.setTop (mkF m 48 #[.val (.int p0), .val (.int p1), .val (.int (0 : Int32)), .val (.int p0), .val (.ref (u 3)), .val (.ref (u 3))] [(.ref (u 3))])) _
            refine XS.ifnullNo X126.here hx rfl (hb hby at_48) rfl ?_
            show Steps p.tables e below (T126.setTop (mkF m 51 #[.val (.int p0), .val (.int p1), .val (.int (0 : Int32)), .val (.int p0), .val (.ref (u 3)), .val (.ref (u 3))] [])) _
            refine XS.aload X126.here hx rfl (hb hby at_51) rfl rfl ?_
            show Steps p.tables e below (T126.setTop (mkF m 53 #[.val (.int p0), .val (.int p1), .val (.int (0 : Int32)), .val (.int p0), .val (.ref (u 3)), .val (.ref (u 3))] [(.ref (u 3))])) _
            refine st127.trans ?_
            show Steps p.tables e below (T127.setTop (mkF m 56 #[.val (.int p0), .val (.int p1), .val (.int (0 : Int32)), .val (.int p0), .val (.ref (u 3)), .val (.ref (u 3))] [(.int (2 : Int32))])) _
            refine XS.iloadN X127.here hx rfl (hb hby at_56) rfl ?_
            show Steps p.tables e below (T127.setTop (mkF m 57 #[.val (.int p0), .val (.int p1), .val (.int (0 : Int32)), .val (.int p0), .val (.ref (u 3)), .val (.ref (u 3))] [(.int p0), (.int (2 : Int32))])) _
            refine XS.icmpYes X127.here hx rfl (pc0 := 57) (pc' := 62) rfl (hb hby at_57) rfl (teq hc124).1 (by decide) (by decide) ?_
            show Steps p.tables e below (T127.setTop (mkF m 62 #[.val (.int p0), .val (.int p1), .val (.int (0 : Int32)), .val (.int p0), .val (.ref (u 3)), .val (.ref (u 3))] [])) _
            refine XS.iconst X127.here hx rfl (hb hby at_62) ?_
            show Steps p.tables e below (T127.setTop (mkF m 63 #[.val (.int p0), .val (.int p1), .val (.int (0 : Int32)), .val (.int p0), .val (.ref (u 3)), .val (.ref (u 3))] [(.int (1 : Int32))])) _
            exact retN X127 hx (t := .boolean) Bd.returns (by simp) (hb hby at_63) hr
          · show own_Q0 Z u p0 p1 h0 n0 _ T127.heap _
            rw [e127]
            exact ⟨rfl, N127, trivial⟩
        · --
          by_cases hc129 : (3 : Int32) = p0
          · --
            obtain rfl : vr113 = some (.ref (u 4)) := hv113.trans (by unfold own_r1; rw [if_neg hc114, if_neg hc119, if_neg hc124, if_pos hc129])
            have pre130 : ∀ t, Steps p.tables e below (T113.setTop (mkF m 32 #[.val (.int p0), .val (.int p1), .val (.int (0 : Int32)), .val (.int p0), .val (.ref (u 4)), .unset] [(.int p0)])) t → Steps p.tables e below (s₁.setTop (entryFrame m #[(.int p0), (.int p1)] maxLocals)) t := fun t kt => pre112 t (by
              show Steps p.tables e below (s₁.setTop (mkF m 26 #[.val (.int p0), .val (.int p1), .val (.int (0 : Int32)), .val (.int p0), .unset, .unset] [(.int p0)])) _
              refine st113 _ ?_
              show Steps p.tables e below (T113.setTop (mkF m 29 #[.val (.int p0), .val (.int p1), .val (.int (0 : Int32)), .val (.int p0), .unset, .unset] [(.ref (u 4))])) _
              refine XS.astore X113.here hx rfl (hb hby at_29) rfl rfl (l' := #[.val (.int p0), .val (.int p1), .val (.int (0 : Int32)), .val (.int p0), .val (.ref (u 4)), .unset]) rfl ?_
              show Steps p.tables e below (T113.setTop (mkF m 31 #[.val (.int p0), .val (.int p1), .val (.int (0 : Int32)), .val (.int p0), .val (.ref (u 4)), .unset] [])) _
              refine XS.iloadN X113.here hx rfl (hb hby at_31) rfl ?_
              exact kt)
            obtain ⟨vr131, _, ⟨T131, L131, k131, n131⟩, -, X131, ⟨Lc131, hQ131, l131, y131, z131⟩, st131⟩ := Jvm.LawKit.callS X113 hx (y := (⟨"com/example/portcullis/portcullis/giop/ComponentTagOfPinLaw", "expected", "(I)Lcom/example/portcullis/portcullis/giop/ComponentTag;"⟩ : MethodName)) hown (mvT hZ (hw _ (List.mem_of_getElem? (i := 32) rfl))) (mvT hZ (hw _ (List.mem_of_getElem? (i := 33) rfl))) (mvT hZ (hw _ (List.mem_of_getElem? (i := 34) rfl))) (mvT hZ (hw _ (List.mem_of_getElem? (i := 35) rfl))) (by decide) (backOf (W := 0) (rm3 l Z a0 hw [] u p0 B T113.heap n0 O113 ) hZ (hw _ (List.mem_of_getElem? (i := 35) rfl)) (hw _ (List.mem_of_getElem? (i := 34) rfl)) (by decide) (by decide)) (g := (mkF m 32 #[.val (.int p0), .val (.int p1), .val (.int (0 : Int32)), .val (.int p0), .val (.ref (u 4)), .unset] [(.int p0)])) rfl (by rw [hml]; rfl) (argsL := [(.int p0)]) (rest := []) (lenOf own_pd1 rfl) rfl (by show 2 * 0 + _ ≤ _; exact Nat.le_of_eq rfl) (hb hby at_32) (fun _ _ => ⟨rfl, rfl, (by decide : 1 + 0 ≤ _), (by decide : 11 + 0 ≤ _)⟩)
            dsimp only [Pt.U, Pt.locs, Pt.cells, Pt.slots] at X131 l131 y131 z131 st131 hQ131
            subst l131 y131 z131
            obtain ⟨hv131, N131q, e131⟩ := hQ131
            have N131 := Fr.app N113 N131q
            obtain rfl : vr131 = some (.ref (u 4)) := hv131.trans (by unfold own_r3; rw [if_neg (fun q => hc114 (Eq.symm q)), if_neg (fun q => hc119 (Eq.symm q)), if_neg (fun q => hc124 (Eq.symm q)), if_pos (Eq.symm hc129)])
            obtain ⟨cq132, kq132, q132a, q132b, q132c⟩ := isOf hZ e131 (B.2.2.2.2.2.2.2.2.2.1.ext O113.2)
            obtain ⟨vr132, _, ⟨T132, L132, k132, n132⟩, -, X132, ⟨Lc132, hQ132, l132, y132, z132⟩, st132⟩ := X131.virtualBack hx (y := (⟨"com/example/portcullis/portcullis/giop/ComponentTag", "code", "()I"⟩ : MethodName)) (z := (⟨"com/example/portcullis/portcullis/giop/ComponentTag", "code", "()I"⟩ : MethodName)) hown (mvT hZ (hw _ (List.mem_of_getElem? (i := 37) rfl))) (mvT hZ (hw _ (List.mem_of_getElem? (i := 38) rfl))) (notFace_of_selects (args := #[]) (mvT hZ (hw _ (List.mem_of_getElem? (i := 40) rfl)))) (mvT hZ (hw _ (List.mem_of_getElem? (i := 40) rfl))) (mvT hZ (hw _ (List.mem_of_getElem? (i := 39) rfl))) (by decide) (backOf (W := 0) (rm4 l Z a0 hw [] u (u 4) (3 : Int32) B T113.heap n0 O113 (B.2.2.2.2.2.2.2.2.2.2.2.2.2.2.2.2.2.2.2.2.2.2.2.2.2.2.2.2.1.ext O113.2)) hZ (hw _ (List.mem_of_getElem? (i := 41) rfl)) (hw _ (List.mem_of_getElem? (i := 2) rfl)) (by decide) (by decide)) q132a q132c (g := (mkF m 53 #[.val (.int p0), .val (.int p1), .val (.int (0 : Int32)), .val (.int p0), .val (.ref (u 4)), .val (.ref (u 4))] [(.ref (u 4))])) rfl (by rw [hml]; rfl) (Steps.refl _) (argsL := []) (rest := []) (lenOf own_pd2 rfl) rfl (by show 2 * 0 + _ ≤ _; exact Nat.le_of_eq rfl) (hb hby at_53) (fun _ _ => ⟨rfl, e131, (by decide : 1 + 0 ≤ _), (by decide : 11 + 0 ≤ _)⟩)
            dsimp only [Pt.U, Pt.locs, Pt.cells, Pt.slots] at X132 l132 y132 z132 st132 hQ132
            subst l132 y132 z132
            obtain ⟨rfl, N132q, e132⟩ := hQ132
            have N132 := Fr.app N131 N132q
            obtain ⟨fs, hr, hrun, hended, hW, hsame⟩ := X132.leave (v := some (.int (1 : Int32))) (fun h => by rw [Bd.returns] at h; cases h)
            refine ⟨_, _, pre130 _ ?_, hrun, hended, _, _, rfl, ?_, ⟨_, rfl⟩, hW, hsame.mono (by decide) (by decide)⟩
            · show Steps p.tables e below (T113.setTop (mkF m 32 #[.val (.int p0), .val (.int p1), .val (.int (0 : Int32)), .val (.int p0), .val (.ref (u 4)), .unset] [(.int p0)])) _
              refine st131 _ ?_
              show Steps p.tables e below (T131.setTop (mkF m 35 #[.val (.int p0), .val (.int p1), .val (.int (0 : Int32)), .val (.int p0), .val (.ref (u 4)), .unset] [(.ref (u 4))])) _
              refine XS.astore X131.here hx rfl (hb hby at_35) rfl rfl (l' := #[.val (.int p0), .val (.int p1), .val (.int (0 : Int32)), .val (.int p0), .val (.ref (u 4)), .val (.ref (u 4))]) rfl ?_
              show Steps p.tables e below (T131.setTop (mkF m 37 #[.val (.int p0), .val (.int p1), .val (.int (0 : Int32)), .val (.int p0), .val (.ref (u 4)), .val (.ref (u 4))] [])) _
              refine XS.aload X131.here hx rfl (hb hby at_37) rfl rfl ?_
              show Steps p.tables e below (T131.setTop (mkF m 39 #[.val (.int p0), .val (.int p1), .val (.int (0 : Int32)), .val (.int p0), .val (.ref (u 4)), .val (.ref (u 4))] [(.ref (u 4))])) _
              refine XS.aload X131.here hx rfl (hb hby at_39) rfl rfl ?_
              show Steps p.tables e below (T131.setTop (mkF m 41 #[.val (.int p0), .val (.int p1), .val (.int (0 : Int32)), .val (.int p0), .val (.ref (u 4)), .val (.ref (u 4))] [(.ref (u 4)), (.ref (u 4))])) _
              refine Jvm.RoadKit.acmp (g := (mkF m 41 #[.val (.int p0), .val (.int p1), .val (.int (0 : Int32)), .val (.int p0), .val (.ref (u 4)), .val (.ref (u 4))] [(.ref (u 4)), (.ref (u 4))])) X131 hx rfl rfl rfl (pc0 := 41) (pc' := 46) (same := true) rfl (hb hby at_41) rfl (decide_eq_true rfl) (by decide) (by decide) ?_
              show Steps p.tables e below (T131.setTop (mkF m 46 #[.val (.int p0), .val (.int p1), .val (.int (0 : Int32)), .val (.int p0), .val (.ref (u 4)), .val (.ref (u 4))] [])) _
              refine XS.aload X131.here hx rfl (hb hby at_46) rfl rfl ?_
              show Steps p.tables e below (T131.setTop (mkF m 48 #[.val (.int p0), .val (.int p1), .val (.int (0 : Int32)), .val (.int p0), .val (.ref (u 4)), .val (.ref (u 4))] [(.ref (u 4))])) _
              refine XS.ifnullNo X131.here hx rfl (hb hby at_48) rfl ?_
              show Steps p.tables e below (T131.setTop (mkF m 51 #[.val (.int p0), .val (.int p1), .val (.int (0 : Int32)), .val (.int p0), .val (.ref (u 4)), .val (.ref (u 4))] [])) _
              refine XS.aload X131.here hx rfl (hb hby at_51) rfl rfl ?_
              show Steps p.tables e below (T131.setTop (mkF m 53 #[.val (.int p0), .val (.int p1), .val (.int (0 : Int32)), .val (.int p0), .val (.ref (u 4)), .val (.ref (u 4))] [(.ref (u 4))])) _
              refine st132.trans ?_
              show Steps p.tables e below (T132.setTop (mkF m 56 #[.val (.int p0), .val (.int p1), .val (.int (0 : Int32)), .val (.int p0), .val (.ref (u 4)), .val (.ref (u 4))] [(.int (3 : Int32))])) _
              refine XS.iloadN X132.here hx rfl (hb hby at_56) rfl ?_
              show Steps p.tables e below (T132.setTop (mkF m 57 #[.val (.int p0), .val (.int p1), .val (.int (0 : Int32)), .val (.int p0), .val (.ref (u 4)), .val (.ref (u 4))] [(.int p0), (.int (3 : Int32))])) _
              refine XS.icmpYes X132.here hx rfl (pc0 := 57) (pc' := 62) rfl (hb hby at_57) rfl (teq hc129).1 (by decide) (by decide) ?_
              show Steps p.tables e below (T132.setTop (mkF m 62 #[.val (.int p0), .val (.int p1), .val (.int (0 : Int32)), .val (.int p0), .val (.ref (u 4)), .val (.ref (u 4))] [])) _
              refine XS.iconst X132.here hx rfl (hb hby at_62) ?_
              show Steps p.tables e below (T132.setTop (mkF m 63 #[.val (.int p0), .val (.int p1), .val (.int (0 : Int32)), .val (.int p0), .val (.ref (u 4)), .val (.ref (u 4))] [(.int (1 : Int32))])) _
              exact retN X132 hx (t := .boolean) Bd.returns (by simp) (hb hby at_63) hr
            · show own_Q0 Z u p0 p1 h0 n0 _ T132.heap _
              rw [e132]
              exact ⟨rfl, N132, trivial⟩
          · --
            by_cases hc134 : (33 : Int32) = p0
            · --
              obtain rfl : vr113 = some (.ref (u 5)) := hv113.trans (by unfold own_r1; rw [if_neg hc114, if_neg hc119, if_neg hc124, if_neg hc129, if_pos hc134])
              have pre135 : ∀ t, Steps p.tables e below (T113.setTop (mkF m 32 #[.val (.int p0), .val (.int p1), .val (.int (0 : Int32)), .val (.int p0), .val (.ref (u 5)), .unset] [(.int p0)])) t → Steps p.tables e below (s₁.setTop (entryFrame m #[(.int p0), (.int p1)] maxLocals)) t := fun t kt => pre112 t (by
                show Steps p.tables e below (s₁.setTop (mkF m 26 #[.val (.int p0), .val (.int p1), .val (.int (0 : Int32)), .val (.int p0), .unset, .unset] [(.int p0)])) _
                refine st113 _ ?_
                show Steps p.tables e below (T113.setTop (mkF m 29 #[.val (.int p0), .val (.int p1), .val (.int (0 : Int32)), .val (.int p0), .unset, .unset] [(.ref (u 5))])) _
                refine XS.astore X113.here hx rfl (hb hby at_29) rfl rfl (l' := #[.val (.int p0), .val (.int p1), .val (.int (0 : Int32)), .val (.int p0), .val (.ref (u 5)), .unset]) rfl ?_
                show Steps p.tables e below (T113.setTop (mkF m 31 #[.val (.int p0), .val (.int p1), .val (.int (0 : Int32)), .val (.int p0), .val (.ref (u 5)), .unset] [])) _
                refine XS.iloadN X113.here hx rfl (hb hby at_31) rfl ?_
                exact kt)
              obtain ⟨vr136, _, ⟨T136, L136, k136, n136⟩, -, X136, ⟨Lc136, hQ136, l136, y136, z136⟩, st136⟩ := Jvm.LawKit.callS X113 hx (y := (⟨"com/example/portcullis/portcullis/giop/ComponentTagOfPinLaw", "expected", "(I)Lcom/example/portcullis/portcullis/giop/ComponentTag;"⟩ : MethodName)) hown (mvT hZ (hw _ (List.mem_of_getElem? (i := 32) rfl))) (mvT hZ (hw _ (List.mem_of_getElem? (i := 33) rfl))) (mvT hZ (hw _ (List.mem_of_getElem? (i := 34) rfl))) (mvT hZ (hw _ (List.mem_of_getElem? (i := 35) rfl))) (by decide) (backOf (W := 0) (rm3 l Z a0 hw [] u p0 B T113.heap n0 O113 ) hZ (hw _ (List.mem_of_getElem? (i := 35) rfl)) (hw _ (List.mem_of_getElem? (i := 34) rfl)) (by decide) (by decide)) (g := (mkF m 32 #[.val (.int p0), .val (.int p1), .val (.int (0 : Int32)), .val (.int p0), .val (.ref (u 5)), .unset] [(.int p0)])) rfl (by rw [hml]; rfl) (argsL := [(.int p0)]) (rest := []) (lenOf own_pd1 rfl) rfl (by show 2 * 0 + _ ≤ _; exact Nat.le_of_eq rfl) (hb hby at_32) (fun _ _ => ⟨rfl, rfl, (by decide : 1 + 0 ≤ _), (by decide : 11 + 0 ≤ _)⟩)
              dsimp only [Pt.U, Pt.locs, Pt.cells, Pt.slots] at X136 l136 y136 z136 st136 hQ136
              subst l136 y136 z136
              obtain ⟨hv136, N136q, e136⟩ := hQ136
              have N136 := Fr.app N113 N136q
              obtain rfl : vr136 = some (.ref (u 5)) := hv136.trans (by unfold own_r3; rw [if_neg (fun q => hc114 (Eq.symm q)), if_neg (fun q => hc119 (Eq.symm q)), if_neg (fun q => hc124 (Eq.symm q)), if_neg (fun q => hc129 (Eq.symm q)), if_pos (Eq.symm hc134)])
              obtain ⟨cq137, kq137, q137a, q137b, q137c⟩ := isOf hZ e136 (B.2.2.2.2.2.2.2.2.2.2.2.1.ext O113.2)
              obtain ⟨vr137, _, ⟨T137, L137, k137, n137⟩, -, X137, ⟨Lc137, hQ137, l137, y137, z137⟩, st137⟩ := X136.virtualBack hx (y := (⟨"com/example/portcullis/portcullis/giop/ComponentTag", "code", "()I"⟩ : MethodName)) (z := (⟨"com/example/portcullis/portcullis/giop/ComponentTag", "code", "()I"⟩ : MethodName)) hown (mvT hZ (hw _ (List.mem_of_getElem? (i := 37) rfl))) (mvT hZ (hw _ (List.mem_of_getElem? (i := 38) rfl))) (notFace_of_selects (args := #[]) (mvT hZ (hw _ (List.mem_of_getElem? (i := 40) rfl)))) (mvT hZ (hw _ (List.mem_of_getElem? (i := 40) rfl))) (mvT hZ (hw _ (List.mem_of_getElem? (i := 39) rfl))) (by decide) (backOf (W := 0) (rm4 l Z a0 hw [] u (u 5) (33 : Int32) B T113.heap n0 O113 (B.2.2.2.2.2.2.2.2.2.2.2.2.2.2.2.2.2.2.2.2.2.2.2.2.2.2.2.2.2.1.ext O113.2)) hZ (hw _ (List.mem_of_getElem? (i := 41) rfl)) (hw _ (List.mem_of_getElem? (i := 2) rfl)) (by decide) (by decide)) q137a q137c (g := (mkF m 53 #[.val (.int p0), .val (.int p1), .val (.int (0 : Int32)), .val (.int p0), .val (.ref (u 5)), .val (.ref (u 5))] [(.ref (u 5))])) rfl (by rw [hml]; rfl) (Steps.refl _) (argsL := []) (rest := []) (lenOf own_pd2 rfl) rfl (by show 2 * 0 + _ ≤ _; exact Nat.le_of_eq rfl) (hb hby at_53) (fun _ _ => ⟨rfl, e136, (by decide : 1 + 0 ≤ _), (by decide : 11 + 0 ≤ _)⟩)
              dsimp only [Pt.U, Pt.locs, Pt.cells, Pt.slots] at X137 l137 y137 z137 st137 hQ137
              subst l137 y137 z137
              obtain ⟨rfl, N137q, e137⟩ := hQ137
              have N137 := Fr.app N136 N137q
              obtain ⟨fs, hr, hrun, hended, hW, hsame⟩ := X137.leave (v := some (.int (1 : Int32))) (fun h => by rw [Bd.returns] at h; cases h)
              refine ⟨_, _, pre135 _ ?_, hrun, hended, _, _, rfl, ?_, ⟨_, rfl⟩, hW, hsame.mono (by decide) (by decide)⟩
              · show Steps p.tables e below (T113.setTop (mkF m 32 #[.val (.int p0), .val (.int p1), .val (.int (0 : Int32)), .val (.int p0), .val (.ref (u 5)), .unset] [(.int p0)])) _
                refine st136 _ ?_
                show Steps p.tables e below (T136.setTop (mkF m 35 #[.val (.int p0), .val (.int p1), .val (.int (0 : Int32)), .val (.int p0), .val (.ref (u 5)), .unset] [(.ref (u 5))])) _
                refine XS.astore X136.here hx rfl (hb hby at_35) rfl rfl (l' := #[.val (.int p0), .val (.int p1), .val (.int (0 : Int32)), .val (.int p0), .val (.ref (u 5)), .val (.ref (u 5))]) rfl ?_
                show Steps p.tables e below (T136.setTop (mkF m 37 #[.val (.int p0), .val (.int p1), .val (.int (0 : Int32)), .val (.int p0), .val (.ref (u 5)), .val (.ref (u 5))] [])) _
                refine XS.aload X136.here hx rfl (hb hby at_37) rfl rfl ?_
                show Steps p.tables e below (T136.setTop (mkF m 39 #[.val (.int p0), .val (.int p1), .val (.int (0 : Int32)), .val (.int p0), .val (.ref (u 5)), .val (.ref (u 5))] [(.ref (u 5))])) _
                refine XS.aload X136.here hx rfl (hb hby at_39) rfl rfl ?_
                show Steps p.tables e below (T136.setTop (mkF m 41 #[.val (.int p0), .val (.int p1), .val (.int (0 : Int32)), .val (.int p0), .val (.ref (u 5)), .val (.ref (u 5))] [(.ref (u 5)), (.ref (u 5))])) _
                refine Jvm.RoadKit.acmp (g := (mkF m 41 #[.val (.int p0), .val (.int p1), .val (.int (0 : Int32)), .val (.int p0), .val (.ref (u 5)), .val (.ref (u 5))] [(.ref (u 5)), (.ref (u 5))])) X136 hx rfl rfl rfl (pc0 := 41) (pc' := 46) (same := true) rfl (hb hby at_41) rfl (decide_eq_true rfl) (by decide) (by decide) ?_
                show Steps p.tables e below (T136.setTop (mkF m 46 #[.val (.int p0), .val (.int p1), .val (.int (0 : Int32)), .val (.int p0), .val (.ref (u 5)), .val (.ref (u 5))] [])) _
                refine XS.aload X136.here hx rfl (hb hby at_46) rfl rfl ?_
                show Steps p.tables e below (T136.setTop (mkF m 48 #[.val (.int p0), .val (.int p1), .val (.int (0 : Int32)), .val (.int p0), .val (.ref (u 5)), .val (.ref (u 5))] [(.ref (u 5))])) _
                refine XS.ifnullNo X136.here hx rfl (hb hby at_48) rfl ?_
                show Steps p.tables e below (T136.setTop (mkF m 51 #[.val (.int p0), .val (.int p1), .val (.int (0 : Int32)), .val (.int p0), .val (.ref (u 5)), .val (.ref (u 5))] [])) _
                refine XS.aload X136.here hx rfl (hb hby at_51) rfl rfl ?_
                show Steps p.tables e below (T136.setTop (mkF m 53 #[.val (.int p0), .val (.int p1), .val (.int (0 : Int32)), .val (.int p0), .val (.ref (u 5)), .val (.ref (u 5))] [(.ref (u 5))])) _
                refine st137.trans ?_
                show Steps p.tables e below (T137.setTop (mkF m 56 #[.val (.int p0), .val (.int p1), .val (.int (0 : Int32)), .val (.int p0), .val (.ref (u 5)), .val (.ref (u 5))] [(.int (33 : Int32))])) _
                refine XS.iloadN X137.here hx rfl (hb hby at_56) rfl ?_
                show Steps p.tables e below (T137.setTop (mkF m 57 #[.val (.int p0), .val (.int p1), .val (.int (0 : Int32)), .val (.int p0), .val (.ref (u 5)), .val (.ref (u 5))] [(.int p0), (.int (33 : Int32))])) _
                refine XS.icmpYes X137.here hx rfl (pc0 := 57) (pc' := 62) rfl (hb hby at_57) rfl (teq hc134).1 (by decide) (by decide) ?_
                show Steps p.tables e below (T137.setTop (mkF m 62 #[.val (.int p0), .val (.int p1), .val (.int (0 : Int32)), .val (.int p0), .val (.ref (u 5)), .val (.ref (u 5))] [])) _
                refine XS.iconst X137.here hx rfl (hb hby at_62) ?_
                show Steps p.tables e below (T137.setTop (mkF m 63 #[.val (.int p0), .val (.int p1), .val (.int (0 : Int32)), .val (.int p0), .val (.ref (u 5)), .val (.ref (u 5))] [(.int (1 : Int32))])) _
                exact retN X137 hx (t := .boolean) Bd.returns (by simp) (hb hby at_63) hr
              · show own_Q0 Z u p0 p1 h0 n0 _ T137.heap _
                rw [e137]
                exact ⟨rfl, N137, trivial⟩
            · --
              by_cases hc139 : (34 : Int32) = p0
              · --
                obtain rfl : vr113 = some (.ref (u 6)) := hv113.trans (by unfold own_r1; rw [if_neg hc114, if_neg hc119, if_neg hc124, if_neg hc129, if_neg hc134, if_pos hc139])
                have pre140 : ∀ t, Steps p.tables e below (T113.setTop (mkF m 32 #[.val (.int p0), .val (.int p1), .val (.int (0 : Int32)), .val (.int p0), .val (.ref (u 6)), .unset] [(.int p0)])) t → Steps p.tables e below (s₁.setTop (entryFrame m #[(.int p0), (.int p1)] maxLocals)) t := fun t kt => pre112 t (by
                  show Steps p.tables e below (s₁.setTop (mkF m 26 #[.val (.int p0), .val (.int p1), .val (.int (0 : Int32)), .val (.int p0), .unset, .unset] [(.int p0)])) _
                  refine st113 _ ?_
                  show Steps p.tables e below (T113.setTop (mkF m 29 #[.val (.int p0), .val (.int p1), .val (.int (0 : Int32)), .val (.int p0), .unset, .unset] [(.ref (u 6))])) _
                  refine XS.astore X113.here hx rfl (hb hby at_29) rfl rfl (l' := #[.val (.int p0), .val (.int p1), .val (.int (0 : Int32)), .val (.int p0), .val (.ref (u 6)), .unset]) rfl ?_
                  show Steps p.tables e below (T113.setTop (mkF m 31 #[.val (.int p0), .val (.int p1), .val (.int (0 : Int32)), .val (.int p0), .val (.ref (u 6)), .unset] [])) _
                  refine XS.iloadN X113.here hx rfl (hb hby at_31) rfl ?_
                  exact kt)
                obtain ⟨vr141, _, ⟨T141, L141, k141, n141⟩, -, X141, ⟨Lc141, hQ141, l141, y141, z141⟩, st141⟩ := Jvm.LawKit.callS X113 hx (y := (⟨"com/example/portcullis/portcullis/giop/ComponentTagOfPinLaw", "expected", "(I)Lcom/example/portcullis/portcullis/giop/ComponentTag;"⟩ : MethodName)) hown (mvT hZ (hw _ (List.mem_of_getElem? (i := 32) rfl))) (mvT hZ (hw _ (List.mem_of_getElem? (i := 33) rfl))) (mvT hZ (hw _ (List.mem_of_getElem? (i := 34) rfl))) (mvT hZ (hw _ (List.mem_of_getElem? (i := 35) rfl))) (by decide) (backOf (W := 0) (rm3 l Z a0 hw [] u p0 B T113.heap n0 O113 ) hZ (hw _ (List.mem_of_getElem? (i := 35) rfl)) (hw _ (List.mem_of_getElem? (i := 34) rfl)) (by decide) (by decide)) (g := (mkF m 32 #[.val (.int p0), .val (.int p1), .val (.int (0 : Int32)), .val (.int p0), .val (.ref (u 6)), .unset] [(.int p0)])) rfl (by rw [hml]; rfl) (argsL := [(.int p0)]) (rest := []) (lenOf own_pd1 rfl) rfl (by show 2 * 0 + _ ≤ _; exact Nat.le_of_eq rfl) (hb hby at_32) (fun _ _ => ⟨rfl, rfl, (by decide : 1 + 0 ≤ _), (by decide : 11 + 0 ≤ _)⟩)
                dsimp only [Pt.U, Pt.locs, Pt.cells, Pt.slots] at X141 l141 y141 z141 st141 hQ141
                subst l141 y141 z141
                obtain ⟨hv141, N141q, e141⟩ := hQ141
                have N141 := Fr.app N113 N141q
                obtain rfl : vr141 = some (.ref (u 6)) := hv141.trans (by unfold own_r3; rw [if_neg (fun q => hc114 (Eq.symm q)), if_neg (fun q => hc119 (Eq.symm q)), if_neg (fun q => hc124 (Eq.symm q)), if_neg (fun q => hc129 (Eq.symm q)), if_neg (fun q => hc134 (Eq.symm q)), if_pos (Eq.symm hc139)])
                obtain ⟨cq142, kq142, q142a, q142b, q142c⟩ := isOf hZ e141 (B.2.2.2.2.2.2.2.2.2.2.2.2.2.1.ext O113.2)
                obtain ⟨vr142, _, ⟨T142, L142, k142, n142⟩, -, X142, ⟨Lc142, hQ142, l142, y142, z142⟩, st142⟩ := X141.virtualBack hx (y := (⟨"com/example/portcullis/portcullis/giop/ComponentTag", "code", "()I"⟩ : MethodName)) (z := (⟨"com/example/portcullis/portcullis/giop/ComponentTag", "code", "()I"⟩ : MethodName)) hown (mvT hZ (hw _ (List.mem_of_getElem? (i := 37) rfl))) (mvT hZ (hw _ (List.mem_of_getElem? (i := 38) rfl))) (notFace_of_selects (args := #[]) (mvT hZ (hw _ (List.mem_of_getElem? (i := 40) rfl)))) (mvT hZ (hw _ (List.mem_of_getElem? (i := 40) rfl))) (mvT hZ (hw _ (List.mem_of_getElem? (i := 39) rfl))) (by decide) (backOf (W := 0) (rm4 l Z a0 hw [] u (u 6) (34 : Int32) B T113.heap n0 O113 (B.2.2.2.2.2.2.2.2.2.2.2.2.2.2.2.2.2.2.2.2.2.2.2.2.2.2.2.2.2.2.1.ext O113.2)) hZ (hw _ (List.mem_of_getElem? (i := 41) rfl)) (hw _ (List.mem_of_getElem? (i := 2) rfl)) (by decide) (by decide)) q142a q142c (g := (mkF m 53 #[.val (.int p0), .val (.int p1), .val (.int (0 : Int32)), .val (.int p0), .val (.ref (u 6)), .val (.ref (u 6))] [(.ref (u 6))])) rfl (by rw [hml]; rfl) (Steps.refl _) (argsL := []) (rest := []) (lenOf own_pd2 rfl) rfl (by show 2 * 0 + _ ≤ _; exact Nat.le_of_eq rfl) (hb hby at_53) (fun _ _ => ⟨rfl, e141, (by decide : 1 + 0 ≤ _), (by decide : 11 + 0 ≤ _)⟩)
                dsimp only [Pt.U, Pt.locs, Pt.cells, Pt.slots] at X142 l142 y142 z142 st142 hQ142
                subst l142 y142 z142
                obtain ⟨rfl, N142q, e142⟩ := hQ142
                have N142 := Fr.app N141 N142q
                obtain ⟨fs, hr, hrun, hended, hW, hsame⟩ := X142.leave (v := some (.int (1 : Int32))) (fun h => by rw [Bd.returns] at h; cases h)
                refine ⟨_, _, pre140 _ ?_, hrun, hended, _, _, rfl, ?_, ⟨_, rfl⟩, hW, hsame.mono (by decide) (by decide)⟩
                · show Steps p.tables e below (T113.setTop (mkF m 32 #[.val (.int p0), .val (.int p1), .val (.int (0 : Int32)), .val (.int p0), .val (.ref (u 6)), .unset] [(.int p0)])) _
                  refine st141 _ ?_
                  show Steps p.tables e below (T141.setTop (mkF m 35 #[.val (.int p0), .val (.int p1), .val (.int (0 : Int32)), .val (.int p0), .val (.ref (u 6)), .unset] [(.ref (u 6))])) _
                  refine XS.astore X141.here hx rfl (hb hby at_35) rfl rfl (l' := #[.val (.int p0), .val (.int p1), .val (.int (0 : Int32)), .val (.int p0), .val (.ref (u 6)), .val (.ref (u 6))]) rfl ?_
                  show Steps p.tables e below (T141.setTop (mkF m 37 #[.val (.int p0), .val (.int p1), .val (.int (0 : Int32)), .val (.int p0), .val (.ref (u 6)), .val (.ref (u 6))] [])) _
                  refine XS.aload X141.here hx rfl (hb hby at_37) rfl rfl ?_
                  show Steps p.tables e below (T141.setTop (mkF m 39 #[.val (.int p0), .val (.int p1), .val (.int (0 : Int32)), .val (.int p0), .val (.ref (u 6)), .val (.ref (u 6))] [(.ref (u 6))])) _
                  refine XS.aload X141.here hx rfl (hb hby at_39) rfl rfl ?_
                  show Steps p.tables e below (T141.setTop (mkF m 41 #[.val (.int p0), .val (.int p1), .val (.int (0 : Int32)), .val (.int p0), .val (.ref (u 6)), .val (.ref (u 6))] [(.ref (u 6)), (.ref (u 6))])) _
                  refine Jvm.RoadKit.acmp (g := (mkF m 41 #[.val (.int p0), .val (.int p1), .val (.int (0 : Int32)), .val (.int p0), .val (.ref (u 6)), .val (.ref (u 6))] [(.ref (u 6)), (.ref (u 6))])) X141 hx rfl rfl rfl (pc0 := 41) (pc' := 46) (same := true) rfl (hb hby at_41) rfl (decide_eq_true rfl) (by decide) (by decide) ?_
                  show Steps p.tables e below (T141.setTop (mkF m 46 #[.val (.int p0), .val (.int p1), .val (.int (0 : Int32)), .val (.int p0), .val (.ref (u 6)), .val (.ref (u 6))] [])) _
                  refine XS.aload X141.here hx rfl (hb hby at_46) rfl rfl ?_
                  show Steps p.tables e below (T141.setTop (mkF m 48 #[.val (.int p0), .val (.int p1), .val (.int (0 : Int32)), .val (.int p0), .val (.ref (u 6)), .val (.ref (u 6))] [(.ref (u 6))])) _
                  refine XS.ifnullNo X141.here hx rfl (hb hby at_48) rfl ?_
                  show Steps p.tables e below (T141.setTop (mkF m 51 #[.val (.int p0), .val (.int p1), .val (.int (0 : Int32)), .val (.int p0), .val (.ref (u 6)), .val (.ref (u 6))] [])) _
                  refine XS.aload X141.here hx rfl (hb hby at_51) rfl rfl ?_
                  show Steps p.tables e below (T141.setTop (mkF m 53 #[.val (.int p0), .val (.int p1), .val (.int (0 : Int32)), .val (.int p0), .val (.ref (u 6)), .val (.ref (u 6))] [(.ref (u 6))])) _
                  refine st142.trans ?_
                  show Steps p.tables e below (T142.setTop (mkF m 56 #[.val (.int p0), .val (.int p1), .val (.int (0 : Int32)), .val (.int p0), .val (.ref (u 6)), .val (.ref (u 6))] [(.int (34 : Int32))])) _
                  refine XS.iloadN X142.here hx rfl (hb hby at_56) rfl ?_
                  show Steps p.tables e below (T142.setTop (mkF m 57 #[.val (.int p0), .val (.int p1), .val (.int (0 : Int32)), .val (.int p0), .val (.ref (u 6)), .val (.ref (u 6))] [(.int p0), (.int (34 : Int32))])) _
                  refine XS.icmpYes X142.here hx rfl (pc0 := 57) (pc' := 62) rfl (hb hby at_57) rfl (teq hc139).1 (by decide) (by decide) ?_
                  show Steps p.tables e below (T142.setTop (mkF m 62 #[.val (.int p0), .val (.int p1), .val (.int (0 : Int32)), .val (.int p0), .val (.ref (u 6)), .val (.ref (u 6))] [])) _
                  refine XS.iconst X142.here hx rfl (hb hby at_62) ?_
                  show Steps p.tables e below (T142.setTop (mkF m 63 #[.val (.int p0), .val (.int p1), .val (.int (0 : Int32)), .val (.int p0), .val (.ref (u 6)), .val (.ref (u 6))] [(.int (1 : Int32))])) _
                  exact retN X142 hx (t := .boolean) Bd.returns (by simp) (hb hby at_63) hr
                · show own_Q0 Z u p0 p1 h0 n0 _ T142.heap _
                  rw [e142]
                  exact ⟨rfl, N142, trivial⟩
              · --
                by_cases hc144 : (35 : Int32) = p0
                · --
                  obtain rfl : vr113 = some (.ref (u 7)) := hv113.trans (by unfold own_r1; rw [if_neg hc114, if_neg hc119, if_neg hc124, if_neg hc129, if_neg hc134, if_neg hc139, if_pos hc144])
                  have pre145 : ∀ t, Steps p.tables e below (T113.setTop (mkF m 32 #[.val (.int p0), .val (.int p1), .val (.int (0 : Int32)), .val (.int p0), .val (.ref (u 7)), .unset] [(.int p0)])) t → Steps p.tables e below (s₁.setTop (entryFrame m #[(.int p0), (.int p1)] maxLocals)) t := fun t kt => pre112 t (by
                    show Steps p.tables e below (s₁.setTop (mkF m 26 #[.val (.int p0), .val (.int p1), .val (.int (0 : Int32)), .val (.int p0), .unset, .unset] [(.int p0)])) _
                    refine st113 _ ?_
                    show Steps p.tables e below (T113.setTop (mkF m 29 #[.val (.int p0), .val (.int p1), .val (.int (0 : Int32)), .val (.int p0), .unset, .unset] [(.ref (u 7))])) _
                    refine XS.astore X113.here hx rfl (hb hby at_29) rfl rfl (l' := #[.val (.int p0), .val (.int p1), .val (.int (0 : Int32)), .val (.int p0), .val (.ref (u 7)), .unset]) rfl ?_
                    show Steps p.tables e below (T113.setTop (mkF m 31 #[.val (.int p0), .val (.int p1), .val (.int (0 : Int32)), .val (.int p0), .val (.ref (u 7)), .unset] [])) _
                    refine XS.iloadN X113.here hx rfl (hb hby at_31) rfl ?_
                    exact kt)
                  obtain ⟨vr146, _, ⟨T146, L146, k146, n146⟩, -, X146, ⟨Lc146, hQ146, l146, y146, z146⟩, st146⟩ := Jvm.LawKit.callS X113 hx (y := (⟨"com/example/portcullis/portcullis/giop/ComponentTagOfPinLaw", "expected", "(I)Lcom/example/portcullis/portcullis/giop/ComponentTag;"⟩ : MethodName)) hown (mvT hZ (hw _ (List.mem_of_getElem? (i := 32) rfl))) (mvT hZ (hw _ (List.mem_of_getElem? (i := 33) rfl))) (mvT hZ (hw _ (List.mem_of_getElem? (i := 34) rfl))) (mvT hZ (hw _ (List.mem_of_getElem? (i := 35) rfl))) (by decide) (backOf (W := 0) (rm3 l Z a0 hw [] u p0 B T113.heap n0 O113 ) hZ (hw _ (List.mem_of_getElem? (i := 35) rfl)) (hw _ (List.mem_of_getElem? (i := 34) rfl)) (by decide) (by decide)) (g := (mkF m 32 #[.val (.int p0), .val (.int p1), .val (.int (0 : Int32)), .val (.int p0), .val (.ref (u 7)), .unset] [(.int p0)])) rfl (by rw [hml]; rfl) (argsL := [(.int p0)]) (rest := []) (lenOf own_pd1 rfl) rfl (by show 2 * 0 + _ ≤ _; exact Nat.le_of_eq rfl) (hb hby at_32) (fun _ _ => ⟨rfl, rfl, (by decide : 1 + 0 ≤ _), (by decide : 11 + 0 ≤ _)⟩)
                  dsimp only [Pt.U, Pt.locs, Pt.cells, Pt.slots] at X146 l146 y146 z146 st146 hQ146
                  subst l146 y146 z146
                  obtain ⟨hv146, N146q, e146⟩ := hQ146
                  have N146 := Fr.app N113 N146q
                  obtain rfl : vr146 = some (.ref (u 7)) := hv146.trans (by unfold own_r3; rw [if_neg (fun q => hc114 (Eq.symm q)), if_neg (fun q => hc119 (Eq.symm q)), if_neg (fun q => hc124 (Eq.symm q)), if_neg (fun q => hc129 (Eq.symm q)), if_neg (fun q => hc134 (Eq.symm q)), if_neg (fun q => hc139 (Eq.symm q)), if_pos (Eq.symm hc144)])
                  obtain ⟨cq147, kq147, q147a, q147b, q147c⟩ := isOf hZ e146 (B.2.2.2.2.2.2.2.2.2.2.2.2.2.2.2.1.ext O113.2)
                  obtain ⟨vr147, _, ⟨T147, L147, k147, n147⟩, -, X147, ⟨Lc147, hQ147, l147, y147, z147⟩, st147⟩ := X146.virtualBack hx (y := (⟨"com/example/portcullis/portcullis/giop/ComponentTag", "code", "()I"⟩ : MethodName)) (z := (⟨"com/example/portcullis/portcullis/giop/ComponentTag", "code", "()I"⟩ : MethodName)) hown (mvT hZ (hw _ (List.mem_of_getElem? (i := 37) rfl))) (mvT hZ (hw _ (List.mem_of_getElem? (i := 38) rfl))) (notFace_of_selects (args := #[]) (mvT hZ (hw _ (List.mem_of_getElem? (i := 40) rfl)))) (mvT hZ (hw _ (List.mem_of_getElem? (i := 40) rfl))) (mvT hZ (hw _ (List.mem_of_getElem? (i := 39) rfl))) (by decide) (backOf (W := 0) (rm4 l Z a0 hw [] u (u 7) (35 : Int32) B T113.heap n0 O113 (B.2.2.2.2.2.2.2.2.2.2.2.2.2.2.2.2.2.2.2.2.2.2.2.2.2.2.2.2.2.2.2.1.ext O113.2)) hZ (hw _ (List.mem_of_getElem? (i := 41) rfl)) (hw _ (List.mem_of_getElem? (i := 2) rfl)) (by decide) (by decide)) q147a q147c (g := (mkF m 53 #[.val (.int p0), .val (.int p1), .val (.int (0 : Int32)), .val (.int p0), .val (.ref (u 7)), .val (.ref (u 7))] [(.ref (u 7))])) rfl (by rw [hml]; rfl) (Steps.refl _) (argsL := []) (rest := []) (lenOf own_pd2 rfl) rfl (by show 2 * 0 + _ ≤ _; exact Nat.le_of_eq rfl) (hb hby at_53) (fun _ _ => ⟨rfl, e146, (by decide : 1 + 0 ≤ _), (by decide : 11 + 0 ≤ _)⟩)
                  dsimp only [Pt.U, Pt.locs, Pt.cells, Pt.slots] at X147 l147 y147 z147 st147 hQ147
                  subst l147 y147 z147
                  obtain ⟨rfl, N147q, e147⟩ := hQ147
                  have N147 := Fr.app N146 N147q
                  obtain ⟨fs, hr, hrun, hended, hW, hsame⟩ := X147.leave (v := some (.int (1 : Int32))) (fun h => by rw [Bd.returns] at h; cases h)
                  refine ⟨_, _, pre145 _ ?_, hrun, hended, _, _, rfl, ?_, ⟨_, rfl⟩, hW, hsame.mono (by decide) (by decide)⟩
                  · show Steps p.tables e below (T113.setTop (mkF m 32 #[.val (.int p0), .val (.int p1), .val (.int (0 : Int32)), .val (.int p0), .val (.ref (u 7)), .unset] [(.int p0)])) _
                    refine st146 _ ?_
                    show Steps p.tables e below (T146.setTop (mkF m 35 #[.val (.int p0), .val (.int p1), .val (.int (0 : Int32)), .val (.int p0), .val (.ref (u 7)), .unset] [(.ref (u 7))])) _
                    refine XS.astore X146.here hx rfl (hb hby at_35) rfl rfl (l' := #[.val (.int p0), .val (.int p1), .val (.int (0 : Int32)), .val (.int p0), .val (.ref (u 7)), .val (.ref (u 7))]) rfl ?_
                    show Steps p.tables e below (T146.setTop (mkF m 37 #[.val (.int p0), .val (.int p1), .val (.int (0 : Int32)), .val (.int p0), .val (.ref (u 7)), .val (.ref (u 7))] [])) _
                    refine XS.aload X146.here hx rfl (hb hby at_37) rfl rfl ?_
                    show Steps p.tables e below (T146.setTop (mkF m 39 #[.val (.int p0), .val (.int p1), .val (.int (0 : Int32)), .val (.int p0), .val (.ref (u 7)), .val (.ref (u 7))] [(.ref (u 7))])) _
                    refine XS.aload X146.here hx rfl (hb hby at_39) rfl rfl ?_
                    show Steps p.tables e below (T146.setTop (mkF m 41 #[.val (.int p0), .val (.int p1), .val (.int (0 : Int32)), .val (.int p0), .val (.ref (u 7)), .val (.ref (u 7))] [(.ref (u 7)), (.ref (u 7))])) _
                    refine Jvm.RoadKit.acmp (g := (mkF m 41 #[.val (.int p0), .val (.int p1), .val (.int (0 : Int32)), .val (.int p0), .val (.ref (u 7)), .val (.ref (u 7))] [(.ref (u 7)), (.ref (u 7))])) X146 hx rfl rfl rfl (pc0 := 41) (pc' := 46) (same := true) rfl (hb hby at_41) rfl (decide_eq_true rfl) (by decide) (by decide) ?_
                    show Steps p.tables e below (T146.setTop (mkF m 46 #[.val (.int p0), .val (.int p1), .val (.int (0 : Int32)), .val (.int p0), .val (.ref (u 7)), .val (.ref (u 7))] [])) _
                    refine XS.aload X146.here hx rfl (hb hby at_46) rfl rfl ?_
                    show Steps p.tables e below (T146.setTop (mkF m 48 #[.val (.int p0), .val (.int p1), .val (.int (0 : Int32)), .val (.int p0), .val (.ref (u 7)), .val (.ref (u 7))] [(.ref (u 7))])) _
                    refine XS.ifnullNo X146.here hx rfl (hb hby at_48) rfl ?_
                    show Steps p.tables e below (T146.setTop (mkF m 51 #[.val (.int p0), .val (.int p1), .val (.int (0 : Int32)), .val (.int p0), .val (.ref (u 7)), .val (.ref (u 7))] [])) _
                    refine XS.aload X146.here hx rfl (hb hby at_51) rfl rfl ?_
                    show Steps p.tables e below (T146.setTop (mkF m 53 #[.val (.int p0), .val (.int p1), .val (.int (0 : Int32)), .val (.int p0), .val (.ref (u 7)), .val (.ref (u 7))] [(.ref (u 7))])) _
                    refine st147.trans ?_
                    show Steps p.tables e below (T147.setTop (mkF m 56 #[.val (.int p0), .val (.int p1), .val (.int (0 : Int32)), .val (.int p0), .val (.ref (u 7)), .val (.ref (u 7))] [(.int (35 : Int32))])) _
                    refine XS.iloadN X147.here hx rfl (hb hby at_56) rfl ?_
                    show Steps p.tables e below (T147.setTop (mkF m 57 #[.val (.int p0), .val (.int p1), .val (.int (0 : Int32)), .val (.int p0), .val (.ref (u 7)), .val (.ref (u 7))] [(.int p0), (.int (35 : Int32))])) _
                    refine XS.icmpYes X147.here hx rfl (pc0 := 57) (pc' := 62) rfl (hb hby at_57) rfl (teq hc144).1 (by decide) (by decide) ?_
                    show Steps p.tables e below (T147.setTop (mkF m 62 #[.val (.int p0), .val (.int p1), .val (.int (0 : Int32)), .val (.int p0), .val (.ref (u 7)), .val (.ref (u 7))] [])) _
                    refine XS.iconst X147.here hx rfl (hb hby at_62) ?_
                    show Steps p.tables e below (T147.setTop (mkF m 63 #[.val (.int p0), .val (.int p1), .val (.int (0 : Int32)), .val (.int p0), .val (.ref (u 7)), .val (.ref (u 7))] [(.int (1 : Int32))])) _
                    exact retN X147 hx (t := .boolean) Bd.returns (by simp) (hb hby at_63) hr
                  · show own_Q0 Z u p0 p1 h0 n0 _ T147.heap _
                    rw [e147]
                    exact ⟨rfl, N147, trivial⟩
                · --
                  by_cases hc149 : (36 : Int32) = p0
                  · --
                    obtain rfl : vr113 = some (.ref (u 8)) := hv113.trans (by unfold own_r1; rw [if_neg hc114, if_neg hc119, if_neg hc124, if_neg hc129, if_neg hc134, if_neg hc139, if_neg hc144, if_pos hc149])
                    have pre150 : ∀ t, Steps p.tables e below (T113.setTop (mkF m 32 #[.val (.int p0), .val (.int p1), .val (.int (0 : Int32)), .val (.int p0), .val (.ref (u 8)), .unset] [(.int p0)])) t → Steps p.tables e below (s₁.setTop (entryFrame m #[(.int p0), (.int p1)] maxLocals)) t := fun t kt => pre112 t (by
                      show Steps p.tables e below (s₁.setTop (mkF m 26 #[.val (.int p0), .val (.int p1), .val (.int (0 : Int32)), .val (.int p0), .unset, .unset] [(.int p0)])) _
                      refine st113 _ ?_
                      show Steps p.tables e below (T113.setTop (mkF m 29 #[.val (.int p0), .val (.int p1), .val (.int (0 : Int32)), .val (.int p0), .unset, .unset] [(.ref (u 8))])) _
                      refine XS.astore X113.here hx rfl (hb hby at_29) rfl rfl (l' := #[.val (.int p0), .val (.int p1), .val (.int (0 : Int32)), .val (.int p0), .val (.ref (u 8)), .unset]) rfl ?_
                      show Steps p.tables e below (T113.setTop (mkF m 31 #[.val (.int p0), .val (.int p1), .val (.int (0 : Int32)), .val (.int p0), .val (.ref (u 8)), .unset] [])) _
                      refine XS.iloadN X113.here hx rfl (hb hby at_31) rfl ?_
                      exact kt)
                    obtain ⟨vr151, _, ⟨T151, L151, k151, n151⟩, -, X151, ⟨Lc151, hQ151, l151, y151, z151⟩, st151⟩ := Jvm.LawKit.callS X113 hx (y := (⟨"com/example/portcullis/portcullis/giop/ComponentTagOfPinLaw", "expected", "(I)Lcom/example/portcullis/portcullis/giop/ComponentTag;"⟩ : MethodName)) hown (mvT hZ (hw _ (List.mem_of_getElem? (i := 32) rfl))) (mvT hZ (hw _ (List.mem_of_getElem? (i := 33) rfl))) (mvT hZ (hw _ (List.mem_of_getElem? (i := 34) rfl))) (mvT hZ (hw _ (List.mem_of_getElem? (i := 35) rfl))) (by decide) (backOf (W := 0) (rm3 l Z a0 hw [] u p0 B T113.heap n0 O113 ) hZ (hw _ (List.mem_of_getElem? (i := 35) rfl)) (hw _ (List.mem_of_getElem? (i := 34) rfl)) (by decide) (by decide)) (g := (mkF m 32 #[.val (.int p0), .val (.int p1), .val (.int (0 : Int32)), .val (.int p0), .val (.ref (u 8)), .unset] [(.int p0)])) rfl (by rw [hml]; rfl) (argsL := [(.int p0)]) (rest := []) (lenOf own_pd1 rfl) rfl (by show 2 * 0 + _ ≤ _; exact Nat.le_of_eq rfl) (hb hby at_32) (fun _ _ => ⟨rfl, rfl, (by decide : 1 + 0 ≤ _), (by decide : 11 + 0 ≤ _)⟩)
                    dsimp only [Pt.U, Pt.locs, Pt.cells, Pt.slots] at X151 l151 y151 z151 st151 hQ151
                    subst l151 y151 z151
                    obtain ⟨hv151, N151q, e151⟩ := hQ151
                    have N151 := Fr.app N113 N151q
                    obtain rfl : vr151 = some (.ref (u 8)) := hv151.trans (by unfold own_r3; rw [if_neg (fun q => hc114 (Eq.symm q)), if_neg (fun q => hc119 (Eq.symm q)), if_neg (fun q => hc124 (Eq.symm q)), if_neg (fun q => hc129 (Eq.symm q)), if_neg (fun q => hc134 (Eq.symm q)), if_neg (fun q => hc139 (Eq.symm q)), if_neg (fun q => hc144 (Eq.symm q)), if_pos (Eq.symm hc149)])
                    obtain ⟨cq152, kq152, q152a, q152b, q152c⟩ := isOf hZ e151 (B.2.2.2.2.2.2.2.2.2.2.2.2.2.2.2.2.2.1.ext O113.2)
                    obtain ⟨vr152, _, ⟨T152, L152, k152, n152⟩, -, X152, ⟨Lc152, hQ152, l152, y152, z152⟩, st152⟩ := X151.virtualBack hx (y := (⟨"com/example/portcullis/portcullis/giop/ComponentTag", "code", "()I"⟩ : MethodName)) (z := (⟨"com/example/portcullis/portcullis/giop/ComponentTag", "code", "()I"⟩ : MethodName)) hown (mvT hZ (hw _ (List.mem_of_getElem? (i := 37) rfl))) (mvT hZ (hw _ (List.mem_of_getElem? (i := 38) rfl))) (notFace_of_selects (args := #[]) (mvT hZ (hw _ (List.mem_of_getElem? (i := 40) rfl)))) (mvT hZ (hw _ (List.mem_of_getElem? (i := 40) rfl))) (mvT hZ (hw _ (List.mem_of_getElem? (i := 39) rfl))) (by decide) (backOf (W := 0) (rm4 l Z a0 hw [] u (u 8) (36 : Int32) B T113.heap n0 O113 (B.2.2.2.2.2.2.2.2.2.2.2.2.2.2.2.2.2.2.2.2.2.2.2.2.2.2.2.2.2.2.2.2.1.ext O113.2)) hZ (hw _ (List.mem_of_getElem? (i := 41) rfl)) (hw _ (List.mem_of_getElem? (i := 2) rfl)) (by decide) (by decide)) q152a q152c (g := (mkF m 53 #[.val (.int p0), .val (.int p1), .val (.int (0 : Int32)), .val (.int p0), .val (.ref (u 8)), .val (.ref (u 8))] [(.ref (u 8))])) rfl (by rw [hml]; rfl) (Steps.refl _) (argsL := []) (rest := []) (lenOf own_pd2 rfl) rfl (by show 2 * 0 + _ ≤ _; exact Nat.le_of_eq rfl) (hb hby at_53) (fun _ _ => ⟨rfl, e151, (by decide : 1 + 0 ≤ _), (by decide : 11 + 0 ≤ _)⟩)
                    dsimp only [Pt.U, Pt.locs, Pt.cells, Pt.slots] at X152 l152 y152 z152 st152 hQ152
                    subst l152 y152 z152
                    obtain ⟨rfl, N152q, e152⟩ := hQ152
                    have N152 := Fr.app N151 N152q
                    obtain ⟨fs, hr, hrun, hended, hW, hsame⟩ := X152.leave (v := some (.int (1 : Int32))) (fun h => by rw [Bd.returns] at h; cases h)
                    refine ⟨_, _, pre150 _ ?_, hrun, hended, _, _, rfl, ?_, ⟨_, rfl⟩, hW, hsame.mono (by decide) (by decide)⟩
                    · show Steps p.tables e below (T113.setTop (mkF m 32 #[.val (.int p0), .val (.int p1), .val (.int (0 : Int32)), .val (.int p0), .val (.ref (u 8)), .unset] [(.int p0)])) _
                      refine st151 _ ?_
                      show Steps p.tables e below (T151.setTop (mkF m 35 #[.val (.int p0), .val (.int p1), .val (.int (0 : Int32)), .val (.int p0), .val (.ref (u 8)), .unset] [(.ref (u 8))])) _
                      refine XS.astore X151.here hx rfl (hb hby at_35) rfl rfl (l' := #[.val (.int p0), .val (.int p1), .val (.int (0 : Int32)), .val (.int p0), .val (.ref (u 8)), .val (.ref (u 8))]) rfl ?_
                      show Steps p.tables e below (T151.setTop (mkF m 37 #[.val (.int p0), .val (.int p1), .val (.int (0 : Int32)), .val (.int p0), .val (.ref (u 8)), .val (.ref (u 8))] [])) _
                      refine XS.aload X151.here hx rfl (hb hby at_37) rfl rfl ?_
                      show Steps p.tables e below (T151.setTop (mkF m 39 #[.val (.int p0), .val (.int p1), .val (.int (0 : Int32)), .val (.int p0), .val (.ref (u 8)), .val (.ref (u 8))] [(.ref (u 8))])) _
                      refine XS.aload X151.here hx rfl (hb hby at_39) rfl rfl ?_
                      show Steps p.tables e below (T151.setTop (mkF m 41 #[.val (.int p0), .val (.int p1), .val (.int (0 : Int32)), .val (.int p0), .val (.ref (u 8)), .val (.ref (u 8))] [(.ref (u 8)), (.ref (u 8))])) _
                      refine Jvm.RoadKit.acmp (g := (mkF m 41 #[.val (.int p0), .val (.int p1), .val (.int (0 : Int32)), .val (.int p0), .val (.ref (u 8)), .val (.ref (u 8))] [(.ref (u 8)), (.ref (u 8))])) X151 hx rfl rfl rfl (pc0 := 41) (pc' := 46) (same := true) rfl (hb hby at_41) rfl (decide_eq_true rfl) (by decide) (by decide) ?_
                      show Steps p.tables e below (T151.setTop (mkF m 46 #[.val (.int p0), .val (.int p1), .val (.int (0 : Int32)), .val (.int p0), .val (.ref (u 8)), .val (.ref (u 8))] [])) _
                      refine XS.aload X151.here hx rfl (hb hby at_46) rfl rfl ?_
                      show Steps p.tables e below (T151.setTop (mkF m 48 #[.val (.int p0), .val (.int p1), .val (.int (0 : Int32)), .val (.int p0), .val (.ref (u 8)), .val (.ref (u 8))] [(.ref (u 8))])) _
                      refine XS.ifnullNo X151.here hx rfl (hb hby at_48) rfl ?_
                      show Steps p.tables e below (T151.setTop (mkF m 51 #[.val (.int p0), .val (.int p1), .val (.int (0 : Int32)), .val (.int p0), .val (.ref (u 8)), .val (.ref (u 8))] [])) _
                      refine XS.aload X151.here hx rfl (hb hby at_51) rfl rfl ?_
                      show Steps p.tables e below (T151.setTop (mkF m 53 #[.val (.int p0), .val (.int p1), .val (.int (0 : Int32)), .val (.int p0), .val (.ref (u 8)), .val (.ref (u 8))] [(.ref (u 8))])) _
                      refine st152.trans ?_
                      show Steps p.tables e below (T152.setTop (mkF m 56 #[.val (.int p0), .val (.int p1), .val (.int (0 : Int32)), .val (.int p0), .val (.ref (u 8)), .val (.ref (u 8))] [(.int (36 : Int32))])) _
                      refine XS.iloadN X152.here hx rfl (hb hby at_56) rfl ?_
                      show Steps p.tables e below (T152.setTop (mkF m 57 #[.val (.int p0), .val (.int p1), .val (.int (0 : Int32)), .val (.int p0), .val (.ref (u 8)), .val (.ref (u 8))] [(.int p0), (.int (36 : Int32))])) _
                      refine XS.icmpYes X152.here hx rfl (pc0 := 57) (pc' := 62) rfl (hb hby at_57) rfl (teq hc149).1 (by decide) (by decide) ?_
                      show Steps p.tables e below (T152.setTop (mkF m 62 #[.val (.int p0), .val (.int p1), .val (.int (0 : Int32)), .val (.int p0), .val (.ref (u 8)), .val (.ref (u 8))] [])) _
                      refine XS.iconst X152.here hx rfl (hb hby at_62) ?_
                      show Steps p.tables e below (T152.setTop (mkF m 63 #[.val (.int p0), .val (.int p1), .val (.int (0 : Int32)), .val (.int p0), .val (.ref (u 8)), .val (.ref (u 8))] [(.int (1 : Int32))])) _
                      exact retN X152 hx (t := .boolean) Bd.returns (by simp) (hb hby at_63) hr
                    · show own_Q0 Z u p0 p1 h0 n0 _ T152.heap _
                      rw [e152]
                      exact ⟨rfl, N152, trivial⟩
                  · --
                    by_cases hc154 : (41 : Int32) = p0
                    · --
                      obtain rfl : vr113 = some (.ref (u 9)) := hv113.trans (by unfold own_r1; rw [if_neg hc114, if_neg hc119, if_neg hc124, if_neg hc129, if_neg hc134, if_neg hc139, if_neg hc144, if_neg hc149, if_pos hc154])
                      have pre155 : ∀ t, Steps p.tables e below (T113.setTop (mkF m 32 #[.val (.int p0), .val (.int p1), .val (.int (0 : Int32)), .val (.int p0), .val (.ref (u 9)), .unset] [(.int p0)])) t → Steps p.tables e below (s₁.setTop (entryFrame m #[(.int p0), (.int p1)] maxLocals)) t := fun t kt => pre112 t (by
                        show Steps p.tables e below (s₁.setTop (mkF m 26 #[.val (.int p0), .val (.int p1), .val (.int (0 : Int32)), .val (.int p0), .unset, .unset] [(.int p0)])) _
                        refine st113 _ ?_
                        show Steps p.tables e below (T113.setTop (mkF m 29 #[.val (.int p0), .val (.int p1), .val (.int (0 : Int32)), .val (.int p0), .unset, .unset] [(.ref (u 9))])) _
                        refine XS.astore X113.here hx rfl (hb hby at_29) rfl rfl (l' := #[.val (.int p0), .val (.int p1), .val (.int (0 : Int32)), .val (.int p0), .val (.ref (u 9)), .unset]) rfl ?_
                        show Steps p.tables e below (T113.setTop (mkF m 31 #[.val (.int p0), .val (.int p1), .val (.int (0 : Int32)), .val (.int p0), .val (.ref (u 9)), .unset] [])) _
                        refine XS.iloadN X113.here hx rfl (hb hby at_31) rfl ?_
                        exact kt)
                      obtain ⟨vr156, _, ⟨T156, L156, k156, n156⟩, -, X156, ⟨Lc156, hQ156, l156, y156, z156⟩, st156⟩ := Jvm.LawKit.callS X113 hx (y := (⟨"com/example/portcullis/portcullis/giop/ComponentTagOfPinLaw", "expected", "(I)Lcom/example/portcullis/portcullis/giop/ComponentTag;"⟩ : MethodName)) hown (mvT hZ (hw _ (List.mem_of_getElem? (i := 32) rfl))) (mvT hZ (hw _ (List.mem_of_getElem? (i := 33) rfl))) (mvT hZ (hw _ (List.mem_of_getElem? (i := 34) rfl))) (mvT hZ (hw _ (List.mem_of_getElem? (i := 35) rfl))) (by decide) (backOf (W := 0) (rm3 l Z a0 hw [] u p0 B T113.heap n0 O113 ) hZ (hw _ (List.mem_of_getElem? (i := 35) rfl)) (hw _ (List.mem_of_getElem? (i := 34) rfl)) (by decide) (by decide)) (g := (mkF m 32 #[.val (.int p0), .val (.int p1), .val (.int (0 : Int32)), .val (.int p0), .val (.ref (u 9)), .unset] [(.int p0)])) rfl (by rw [hml]; rfl) (argsL := [(.int p0)]) (rest := []) (lenOf own_pd1 rfl) rfl (by show 2 * 0 + _ ≤ _; exact Nat.le_of_eq rfl) (hb hby at_32) (fun _ _ => ⟨rfl, rfl, (by decide : 1 + 0 ≤ _), (by decide : 11 + 0 ≤ _)⟩)
                      dsimp only [Pt.U, Pt.locs, Pt.cells, Pt.slots] at X156 l156 y156 z156 st156 hQ156
                      subst l156 y156 z156
                      obtain ⟨hv156, N156q, e156⟩ := hQ156
                      have N156 := Fr.app N113 N156q
                      obtain rfl : vr156 = some (.ref (u 9)) := hv156.trans (by unfold own_r3; rw [if_neg (fun q => hc114 (Eq.symm q)), if_neg (fun q => hc119 (Eq.symm q)), if_neg (fun q => hc124 (Eq.symm q)), if_neg (fun q => hc129 (Eq.symm q)), if_neg (fun q => hc134 (Eq.symm q)), if_neg (fun q => hc139 (Eq.symm q)), if_neg (fun q => hc144 (Eq.symm q)), if_neg (fun q => hc149 (Eq.symm q)), if_pos (Eq.symm hc154)])
                      obtain ⟨cq157, kq157, q157a, q157b, q157c⟩ := isOf hZ e156 (B.2.2.2.2.2.2.2.2.2.2.2.2.2.2.2.2.2.2.2.1.ext O113.2)
                      obtain ⟨vr157, _, ⟨T157, L157, k157, n157⟩, -, X157, ⟨Lc157, hQ157, l157, y157, z157⟩, st157⟩ := X156.virtualBack hx (y := (⟨"com/example/portcullis/portcullis/giop/ComponentTag", "code", "()I"⟩ : MethodName)) (z := (⟨"com/example/portcullis/portcullis/giop/ComponentTag", "code", "()I"⟩ : MethodName)) hown (mvT hZ (hw _ (List.mem_of_getElem? (i := 37) rfl))) (mvT hZ (hw _ (List.mem_of_getElem? (i := 38) rfl))) (notFace_of_selects (args := #[]) (mvT hZ (hw _ (List.mem_of_getElem? (i := 40) rfl)))) (mvT hZ (hw _ (List.mem_of_getElem? (i := 40) rfl))) (mvT hZ (hw _ (List.mem_of_getElem? (i := 39) rfl))) (by decide) (backOf (W := 0) (rm4 l Z a0 hw [] u (u 9) (41 : Int32) B T113.heap n0 O113 (B.2.2.2.2.2.2.2.2.2.2.2.2.2.2.2.2.2.2.2.2.2.2.2.2.2.2.2.2.2.2.2.2.2.1.ext O113.2)) hZ (hw _ (List.mem_of_getElem? (i := 41) rfl)) (hw _ (List.mem_of_getElem? (i := 2) rfl)) (by decide) (by decide)) q157a q157c (g := (mkF m 53 #[.val (.int p0), .val (.int p1), .val (.int (0 : Int32)), .val (.int p0), .val (.ref (u 9)), .val (.ref (u 9))] [(.ref (u 9))])) rfl (by rw [hml]; rfl) (Steps.refl _) (argsL := []) (rest := []) (lenOf own_pd2 rfl) rfl (by show 2 * 0 + _ ≤ _; exact Nat.le_of_eq rfl) (hb hby at_53) (fun _ _ => ⟨rfl, e156, (by decide : 1 + 0 ≤ _), (by decide : 11 + 0 ≤ _)⟩)
                      dsimp only [Pt.U, Pt.locs, Pt.cells, Pt.slots] at X157 l157 y157 z157 st157 hQ157
                      subst l157 y157 z157
                      obtain ⟨rfl, N157q, e157⟩ := hQ157
                      have N157 := Fr.app N156 N157q
                      obtain ⟨fs, hr, hrun, hended, hW, hsame⟩ := X157.leave (v := some (.int (1 : Int32))) (fun h => by rw [Bd.returns] at h; cases h)
                      refine ⟨_, _, pre155 _ ?_, hrun, hended, _, _, rfl, ?_, ⟨_, rfl⟩, hW, hsame.mono (by decide) (by decide)⟩
                      · show Steps p.tables e below (T113.setTop (mkF m 32 #[.val (.int p0), .val (.int p1), .val (.int (0 : Int32)), .val (.int p0), .val (.ref (u 9)), .unset] [(.int p0)])) _
                        refine st156 _ ?_
                        show Steps p.tables e below (T156.setTop (mkF m 35 #[.val (.int p0), .val (.int p1), .val (.int (0 : Int32)), .val (.int p0), .val (.ref (u 9)), .unset] [(.ref (u 9))])) _
                        refine XS.astore X156.here hx rfl (hb hby at_35) rfl rfl (l' := #[.val (.int p0), .val (.int p1), .val (.int (0 : Int32)), .val (.int p0), .val (.ref (u 9)), .val (.ref (u 9))]) rfl ?_
                        show Steps p.tables e below (T156.setTop (mkF m 37 #[.val (.int p0), .val (.int p1), .val (.int (0 : Int32)), .val (.int p0), .val (.ref (u 9)), .val (.ref (u 9))] [])) _
                        refine XS.aload X156.here hx rfl (hb hby at_37) rfl rfl ?_
                        show Steps p.tables e below (T156.setTop (mkF m 39 #[.val (.int p0), .val (.int p1), .val (.int (0 : Int32)), .val (.int p0), .val (.ref (u 9)), .val (.ref (u 9))] [(.ref (u 9))])) _
                        refine XS.aload X156.here hx rfl (hb hby at_39) rfl rfl ?_
                        show Steps p.tables e below (T156.setTop (mkF m 41 #[.val (.int p0), .val (.int p1), .val (.int (0 : Int32)), .val (.int p0), .val (.ref (u 9)), .val (.ref (u 9))] [(.ref (u 9)), (.ref (u 9))])) _
                        refine Jvm.RoadKit.acmp (g := (mkF m 41 #[.val (.int p0), .val (.int p1), .val (.int (0 : Int32)), .val (.int p0), .val (.ref (u 9)), .val (.ref (u 9))] [(.ref (u 9)), (.ref (u 9))])) X156 hx rfl rfl rfl (pc0 := 41) (pc' := 46) (same := true) rfl (hb hby at_41) rfl (decide_eq_true rfl) (by decide) (by decide) ?_
                        show Steps p.tables e below (T156.setTop (mkF m 46 #[.val (.int p0), .val (.int p1), .val (.int (0 : Int32)), .val (.int p0), .val (.ref (u 9)), .val (.ref (u 9))] [])) _
                        refine XS.aload X156.here hx rfl (hb hby at_46) rfl rfl ?_
                        show Steps p.tables e below (T156.setTop (mkF m 48 #[.val (.int p0), .val (.int p1), .val (.int (0 : Int32)), .val (.int p0), .val (.ref (u 9)), .val (.ref (u 9))] [(.ref (u 9))])) _
                        refine XS.ifnullNo X156.here hx rfl (hb hby at_48) rfl ?_
                        show Steps p.tables e below (T156.setTop (mkF m 51 #[.val (.int p0), .val (.int p1), .val (.int (0 : Int32)), .val (.int p0), .val (.ref (u 9)), .val (.ref (u 9))] [])) _
                        refine XS.aload X156.here hx rfl (hb hby at_51) rfl rfl ?_
                        show Steps p.tables e below (T156.setTop (mkF m 53 #[.val (.int p0), .val (.int p1), .val (.int (0 : Int32)), .val (.int p0), .val (.ref (u 9)), .val (.ref (u 9))] [(.ref (u 9))])) _
                        refine st157.trans ?_
                        show Steps p.tables e below (T157.setTop (mkF m 56 #[.val (.int p0), .val (.int p1), .val (.int (0 : Int32)), .val (.int p0), .val (.ref (u 9)), .val (.ref (u 9))] [(.int (41 : Int32))])) _
                        refine XS.iloadN X157.here hx rfl (hb hby at_56) rfl ?_
                        show Steps p.tables e below (T157.setTop (mkF m 57 #[.val (.int p0), .val (.int p1), .val (.int (0 : Int32)), .val (.int p0), .val (.ref (u 9)), .val (.ref (u 9))] [(.int p0), (.int (41 : Int32))])) _
                        refine XS.icmpYes X157.here hx rfl (pc0 := 57) (pc' := 62) rfl (hb hby at_57) rfl (teq hc154).1 (by decide) (by decide) ?_
                        show Steps p.tables e below (T157.setTop (mkF m 62 #[.val (.int p0), .val (.int p1), .val (.int (0 : Int32)), .val (.int p0), .val (.ref (u 9)), .val (.ref (u 9))] [])) _
                        refine XS.iconst X157.here hx rfl (hb hby at_62) ?_
                        show Steps p.tables e below (T157.setTop (mkF m 63 #[.val (.int p0), .val (.int p1), .val (.int (0 : Int32)), .val (.int p0), .val (.ref (u 9)), .val (.ref (u 9))] [(.int (1 : Int32))])) _
                        exact retN X157 hx (t := .boolean) Bd.returns (by simp) (hb hby at_63) hr
                      · show own_Q0 Z u p0 p1 h0 n0 _ T157.heap _
                        rw [e157]
                        exact ⟨rfl, N157, trivial⟩
                    · --
                      by_cases hc159 : (42 : Int32) = p0
                      · --
                        obtain rfl : vr113 = some (.ref (u 10)) := hv113.trans (by unfold own_r1; rw [if_neg hc114, if_neg hc119, if_neg hc124, if_neg hc129, if_neg hc134, if_neg hc139, if_neg hc144, if_neg hc149, if_neg hc154, if_pos hc159])
                        have pre160 : ∀ t, Steps p.tables e below (T113.setTop (mkF m 32 #[.val (.int p0), .val (.int p1), .val (.int (0 : Int32)), .val (.int p0), .val (.ref (u 10)), .unset] [(.int p0)])) t → Steps p.tables e below (s₁.setTop (entryFrame m #[(.int p0), (.int p1)] maxLocals)) t := fun t kt => pre112 t (by
                          show Steps p.tables e below (s₁.setTop (mkF m 26 #[.val (.int p0), .val (.int p1), .val (.int (0 : Int32)), .val (.int p0), .unset, .unset] [(.int p0)])) _
                          refine st113 _ ?_
                          show Steps p.tables e below (T113.setTop (mkF m 29 #[.val (.int p0), .val (.int p1), .val (.int (0 : Int32)), .val (.int p0), .unset, .unset] [(.ref (u 10))])) _
                          refine XS.astore X113.here hx rfl (hb hby at_29) rfl rfl (l' := #[.val (.int p0), .val (.int p1), .val (.int (0 : Int32)), .val (.int p0), .val (.ref (u 10)), .unset]) rfl ?_
                          show Steps p.tables e below (T113.setTop (mkF m 31 #[.val (.int p0), .val (.int p1), .val (.int (0 : Int32)), .val (.int p0), .val (.ref (u 10)), .unset] [])) _
                          refine XS.iloadN X113.here hx rfl (hb hby at_31) rfl ?_
                          exact kt)
                        obtain ⟨vr161, _, ⟨T161, L161, k161, n161⟩, -, X161, ⟨Lc161, hQ161, l161, y161, z161⟩, st161⟩ := Jvm.LawKit.callS X113 hx (y := (⟨"com/example/portcullis/portcullis/giop/ComponentTagOfPinLaw", "expected", "(I)Lcom/example/portcullis/portcullis/giop/ComponentTag;"⟩ : MethodName)) hown (mvT hZ (hw _ (List.mem_of_getElem? (i := 32) rfl))) (mvT hZ (hw _ (List.mem_of_getElem? (i := 33) rfl))) (mvT hZ (hw _ (List.mem_of_getElem? (i := 34) rfl))) (mvT hZ (hw _ (List.mem_of_getElem? (i := 35) rfl))) (by decide) (backOf (W := 0) (rm3 l Z a0 hw [] u p0 B T113.heap n0 O113 ) hZ (hw _ (List.mem_of_getElem? (i := 35) rfl)) (hw _ (List.mem_of_getElem? (i := 34) rfl)) (by decide) (by decide)) (g := (mkF m 32 #[.val (.int p0), .val (.int p1), .val (.int (0 : Int32)), .val (.int p0), .val (.ref (u 10)), .unset] [(.int p0)])) rfl (by rw [hml]; rfl) (argsL := [(.int p0)]) (rest := []) (lenOf own_pd1 rfl) rfl (by show 2 * 0 + _ ≤ _; exact Nat.le_of_eq rfl) (hb hby at_32) (fun _ _ => ⟨rfl, rfl, (by decide : 1 + 0 ≤ _), (by decide : 11 + 0 ≤ _)⟩)
                        dsimp only [Pt.U, Pt.locs, Pt.cells, Pt.slots] at X161 l161 y161 z161 st161 hQ161
                        subst l161 y161 z161
                        obtain ⟨hv161, N161q, e161⟩ := hQ161
                        have N161 := Fr.app N113 N161q
                        obtain rfl : vr161 = some (.ref (u 10)) := hv161.trans (by unfold own_r3; rw [if_neg (fun q => hc114 (Eq.symm q)), if_neg (fun q => hc119 (Eq.symm q)), if_neg (fun q => hc124 (Eq.symm q)), if_neg (fun q => hc129 (Eq.symm q)), if_neg (fun q => hc134 (Eq.symm q)), if_neg (fun q => hc139 (Eq.symm q)), if_neg (fun q => hc144 (Eq.symm q)), if_neg (fun q => hc149 (Eq.symm q)), if_neg (fun q => hc154 (Eq.symm q)), if_pos (Eq.symm hc159)])
                        obtain ⟨cq162, kq162, q162a, q162b, q162c⟩ := isOf hZ e161 (B.2.2.2.2.2.2.2.2.2.2.2.2.2.2.2.2.2.2.2.2.2.1.ext O113.2)
                        obtain ⟨vr162, _, ⟨T162, L162, k162, n162⟩, -, X162, ⟨Lc162, hQ162, l162, y162, z162⟩, st162⟩ := X161.virtualBack hx (y := (⟨"com/example/portcullis/portcullis/giop/ComponentTag", "code", "()I"⟩ : MethodName)) (z := (⟨"com/example/portcullis/portcullis/giop/ComponentTag", "code", "()I"⟩ : MethodName)) hown (mvT hZ (hw _ (List.mem_of_getElem? (i := 37) rfl))) (mvT hZ (hw _ (List.mem_of_getElem? (i := 38) rfl))) (notFace_of_selects (args := #[]) (mvT hZ (hw _ (List.mem_of_getElem? (i := 40) rfl)))) (mvT hZ (hw _ (List.mem_of_getElem? (i := 40) rfl))) (mvT hZ (hw _ (List.mem_of_getElem? (i := 39) rfl))) (by decide) (backOf (W := 0) (rm4 l Z a0 hw [] u (u 10) (42 : Int32) B T113.heap n0 O113 (B.2.2.2.2.2.2.2.2.2.2.2.2.2.2.2.2.2.2.2.2.2.2.2.2.2.2.2.2.2.2.2.2.2.2.1.ext O113.2)) hZ (hw _ (List.mem_of_getElem? (i := 41) rfl)) (hw _ (List.mem_of_getElem? (i := 2) rfl)) (by decide) (by decide)) q162a q162c (g := (mkF m 53 #[.val (.int p0), .val (.int p1), .val (.int (0 : Int32)), .val (.int p0), .val (.ref (u 10)), .val (.ref (u 10))] [(.ref (u 10))])) rfl (by rw [hml]; rfl) (Steps.refl _) (argsL := []) (rest := []) (lenOf own_pd2 rfl) rfl (by show 2 * 0 + _ ≤ _; exact Nat.le_of_eq rfl) (hb hby at_53) (fun _ _ => ⟨rfl, e161, (by decide : 1 + 0 ≤ _), (by decide : 11 + 0 ≤ _)⟩)
                        dsimp only [Pt.U, Pt.locs, Pt.cells, Pt.slots] at X162 l162 y162 z162 st162 hQ162
                        subst l162 y162 z162
                        obtain ⟨rfl, N162q, e162⟩ := hQ162
                        have N162 := Fr.app N161 N162q
                        obtain ⟨fs, hr, hrun, hended, hW, hsame⟩ := X162.leave (v := some (.int (1 : Int32))) (fun h => by rw [Bd.returns] at h; cases h)
                        refine ⟨_, _, pre160 _ ?_, hrun, hended, _, _, rfl, ?_, ⟨_, rfl⟩, hW, hsame.mono (by decide) (by decide)⟩
                        · show Steps p.tables e below (T113.setTop (mkF m 32 #[.val (.int p0), .val (.int p1), .val (.int (0 : Int32)), .val (.int p0), .val (.ref (u 10)), .unset] [(.int p0)])) _
                          refine st161 _ ?_
                          show Steps p.tables e below (T161.setTop (mkF m 35 #[.val (.int p0), .val (.int p1), .val (.int (0 : Int32)), .val (.int p0), .val (.ref (u 10)), .unset] [(.ref (u 10))])) _
                          refine XS.astore X161.here hx rfl (hb hby at_35) rfl rfl (l' := #[.val (.int p0), .val (.int p1), .val (.int (0 : Int32)), .val (.int p0), .val (.ref (u 10)), .val (.ref (u 10))]) rfl ?_
                          show Steps p.tables e below (T161.setTop (mkF m 37 #[.val (.int p0), .val (.int p1), .val (.int (0 : Int32)), .val (.int p0), .val (.ref (u 10)), .val (.ref (u 10))] [])) _
                          refine XS.aload X161.here hx rfl (hb hby at_37) rfl rfl ?_
                          show Steps p.tables e below (T161.setTop (mkF m 39 #[.val (.int p0), .val (.int p1), .val (.int (0 : Int32)), .val (.int p0), .val (.ref (u 10)), .val (.ref (u 10))] [(.ref (u 10))])) _
                          refine XS.aload X161.here hx rfl (hb hby at_39) rfl rfl ?_
                          show Steps p.tables e below (T161.setTop (mkF m 41 #[.val (.int p0), .val (.int p1), .val (.int (0 : Int32)), .val (.int p0), .val (.ref (u 10)), .val (.ref (u 10))] [(.ref (u 10)), (.ref (u 10))])) _
                          refine Jvm.RoadKit.acmp (g := (mkF m 41 #[.val (.int p0), .val (.int p1), .val (.int (0 : Int32)), .val (.int p0), .val (.ref (u 10)), .val (.ref (u 10))] [(.ref (u 10)), (.ref (u 10))])) X161 hx rfl rfl rfl (pc0 := 41) (pc' := 46) (same := true) rfl (hb hby at_41) rfl (decide_eq_true rfl) (by decide) (by decide) ?_
                          show Steps p.tables e below (T161.setTop (mkF m 46 #[.val (.int p0), .val (.int p1), .val (.int (0 : Int32)), .val (.int p0), .val (.ref (u 10)), .val (.ref (u 10))] [])) _
                          refine XS.aload X161.here hx rfl (hb hby at_46) rfl rfl ?_
                          show Steps p.tables e below (T161.setTop (mkF m 48 #[.val (.int p0), .val (.int p1), .val (.int (0 : Int32)), .val (.int p0), .val (.ref (u 10)), .val (.ref (u 10))] [(.ref (u 10))])) _
                          refine XS.ifnullNo X161.here hx rfl (hb hby at_48) rfl ?_
                          show Steps p.tables e below (T161.setTop (mkF m 51 #[.val (.int p0), .val (.int p1), .val (.int (0 : Int32)), .val (.int p0), .val (.ref (u 10)), .val (.ref (u 10))] [])) _
                          refine XS.aload X161.here hx rfl (hb hby at_51) rfl rfl ?_
                          show Steps p.tables e below (T161.setTop (mkF m 53 #[.val (.int p0), .val (.int p1), .val (.int (0 : Int32)), .val (.int p0), .val (.ref (u 10)), .val (.ref (u 10))] [(.ref (u 10))])) _
                          refine st162.trans ?_
                          show Steps p.tables e below (T162.setTop (mkF m 56 #[.val (.int p0), .val (.int p1), .val (.int (0 : Int32)), .val (.int p0), .val (.ref (u 10)), .val (.ref (u 10))] [(.int (42 : Int32))])) _
                          refine XS.iloadN X162.here hx rfl (hb hby at_56) rfl ?_
                          show Steps p.tables e below (T162.setTop (mkF m 57 #[.val (.int p0), .val (.int p1), .val (.int (0 : Int32)), .val (.int p0), .val (.ref (u 10)), .val (.ref (u 10))] [(.int p0), (.int (42 : Int32))])) _
                          refine XS.icmpYes X162.here hx rfl (pc0 := 57) (pc' := 62) rfl (hb hby at_57) rfl (teq hc159).1 (by decide) (by decide) ?_
                          show Steps p.tables e below (T162.setTop (mkF m 62 #[.val (.int p0), .val (.int p1), .val (.int (0 : Int32)), .val (.int p0), .val (.ref (u 10)), .val (.ref (u 10))] [])) _
                          refine XS.iconst X162.here hx rfl (hb hby at_62) ?_
                          show Steps p.tables e below (T162.setTop (mkF m 63 #[.val (.int p0), .val (.int p1), .val (.int (0 : Int32)), .val (.int p0), .val (.ref (u 10)), .val (.ref (u 10))] [(.int (1 : Int32))])) _
                          exact retN X162 hx (t := .boolean) Bd.returns (by simp) (hb hby at_63) hr
                        · show own_Q0 Z u p0 p1 h0 n0 _ T162.heap _
                          rw [e162]
                          exact ⟨rfl, N162, trivial⟩
                      · --
                        by_cases hc164 : (43 : Int32) = p0
                        · --
                          obtain rfl : vr113 = some (.ref (u 11)) := hv113.trans (by unfold own_r1; rw [if_neg hc114, if_neg hc119, if_neg hc124, if_neg hc129, if_neg hc134, if_neg hc139, if_neg hc144, if_neg hc149, if_neg hc154, if_neg hc159, if_pos hc164])
                          have pre165 : ∀ t, Steps p.tables e below (T113.setTop (mkF m 32 #[.val (.int p0), .val (.int p1), .val (.int (0 : Int32)), .val (.int p0), .val (.ref (u 11)), .unset] [(.int p0)])) t → Steps p.tables e below (s₁.setTop (entryFrame m #[(.int p0), (.int p1)] maxLocals)) t := fun t kt => pre112 t (by
                            show Steps p.tables e below (s₁.setTop (mkF m 26 #[.val (.int p0), .val (.int p1), .val (.int (0 : Int32)), .val (.int p0), .unset, .unset] [(.int p0)])) _
                            refine st113 _ ?_
                            show Steps p.tables e below (T113.setTop (mkF m 29 #[.val (.int p0), .val (.int p1), .val (.int (0 : Int32)), .val (.int p0), .unset, .unset] [(.ref (u 11))])) _
                            refine XS.astore X113.here hx rfl (hb hby at_29) rfl rfl (l' := #[.val (.int p0), .val (.int p1), .val (.int (0 : Int32)), .val (.int p0), .val (.ref (u 11)), .unset]) rfl ?_
                            show Steps p.tables e below (T113.setTop (mkF m 31 #[.val (.int p0), .val (.int p1), .val (.int (0 : Int32)), .val (.int p0), .val (.ref (u 11)), .unset] [])) _
                            refine XS.iloadN X113.here hx rfl (hb hby at_31) rfl ?_
                            exact kt)
                          obtain ⟨vr166, _, ⟨T166, L166, k166, n166⟩, -, X166, ⟨Lc166, hQ166, l166, y166, z166⟩, st166⟩ := Jvm.LawKit.callS X113 hx (y := (⟨"com/example/portcullis/portcullis/giop/ComponentTagOfPinLaw", "expected", "(I)Lcom/example/portcullis/portcullis/giop/ComponentTag;"⟩ : MethodName)) hown (mvT hZ (hw _ (List.mem_of_getElem? (i := 32) rfl))) (mvT hZ (hw _ (List.mem_of_getElem? (i := 33) rfl))) (mvT hZ (hw _ (List.mem_of_getElem? (i := 34) rfl))) (mvT hZ (hw _ (List.mem_of_getElem? (i := 35) rfl))) (by decide) (backOf (W := 0) (rm3 l Z a0 hw [] u p0 B T113.heap n0 O113 ) hZ (hw _ (List.mem_of_getElem? (i := 35) rfl)) (hw _ (List.mem_of_getElem? (i := 34) rfl)) (by decide) (by decide)) (g := (mkF m 32 #[.val (.int p0), .val (.int p1), .val (.int (0 : Int32)), .val (.int p0), .val (.ref (u 11)), .unset] [(.int p0)])) rfl (by rw [hml]; rfl) (argsL := [(.int p0)]) (rest := []) (lenOf own_pd1 rfl) rfl (by show 2 * 0 + _ ≤ _; exact Nat.le_of_eq rfl) (hb hby at_32) (fun _ _ => ⟨rfl, rfl, (by decide : 1 + 0 ≤ _), (by decide : 11 + 0 ≤ _)⟩)
                          dsimp only [Pt.U, Pt.locs, Pt.cells, Pt.slots] at X166 l166 y166 z166 st166 hQ166
                          subst l166 y166 z166
                          obtain ⟨hv166, N166q, e166⟩ := hQ166
                          have N166 := Fr.app N113 N166q
                          obtain rfl : vr166 = some (.ref (u 11)) := hv166.trans (by unfold own_r3; rw [if_neg (fun q => hc114 (Eq.symm q)), if_neg (fun q => hc119 (Eq.symm q)), if_neg (fun q => hc124 (Eq.symm q)), if_neg (fun q => hc129 (Eq.symm q)), if_neg (fun q => hc134 (Eq.symm q)), if_neg (fun q => hc139 (Eq.symm q)), if_neg (fun q => hc144 (Eq.symm q)), if_neg (fun q => hc149 (Eq.symm q)), if_neg (fun q => hc154 (Eq.symm q)), if_neg (fun q => hc159 (Eq.symm q)), if_pos (Eq.symm hc164)])
                          obtain ⟨cq167, kq167, q167a, q167b, q167c⟩ := isOf hZ e166 (B.2.2.2.2.2.2.2.2.2.2.2.2.2.2.2.2.2.2.2.2.2.2.2.1.ext O113.2)
                          obtain ⟨vr167, _, ⟨T167, L167, k167, n167⟩, -, X167, ⟨Lc167, hQ167, l167, y167, z167⟩, st167⟩ := X166.virtualBack hx (y := (⟨"com/example/portcullis/portcullis/giop/ComponentTag", "code", "()I"⟩ : MethodName)) (z := (⟨"com/example/portcullis/portcullis/giop/ComponentTag", "code", "()I"⟩ : MethodName)) hown (mvT hZ (hw _ (List.mem_of_getElem? (i := 37) rfl))) (mvT hZ (hw _ (List.mem_of_getElem? (i := 38) rfl))) (notFace_of_selects (args := #[]) (mvT hZ (hw _ (List.mem_of_getElem? (i := 40) rfl)))) (mvT hZ (hw _ (List.mem_of_getElem? (i := 40) rfl))) (mvT hZ (hw _ (List.mem_of_getElem? (i := 39) rfl))) (by decide) (backOf (W := 0) (rm4 l Z a0 hw [] u (u 11) (43 : Int32) B T113.heap n0 O113 (B.2.2.2.2.2.2.2.2.2.2.2.2.2.2.2.2.2.2.2.2.2.2.2.2.2.2.2.2.2.2.2.2.2.2.2.ext O113.2)) hZ (hw _ (List.mem_of_getElem? (i := 41) rfl)) (hw _ (List.mem_of_getElem? (i := 2) rfl)) (by decide) (by decide)) q167a q167c (g := (mkF m 53 #[.val (.int p0), .val (.int p1), .val (.int (0 : Int32)), .val (.int p0), .val (.ref (u 11)), .val (.ref (u 11))] [(.ref (u 11))])) rfl (by rw [hml]; rfl) (Steps.refl _) (argsL := []) (rest := []) (lenOf own_pd2 rfl) rfl (by show 2 * 0 + _ ≤ _; exact Nat.le_of_eq rfl) (hb hby at_53) (fun _ _ => ⟨rfl, e166, (by decide : 1 + 0 ≤ _), (by decide : 11 + 0 ≤ _)⟩)
                          dsimp only [Pt.U, Pt.locs, Pt.cells, Pt.slots] at X167 l167 y167 z167 st167 hQ167
                          subst l167 y167 z167
                          obtain ⟨rfl, N167q, e167⟩ := hQ167
                          have N167 := Fr.app N166 N167q
                          obtain ⟨fs, hr, hrun, hended, hW, hsame⟩ := X167.leave (v := some (.int (1 : Int32))) (fun h => by rw [Bd.returns] at h; cases h)
                          refine ⟨_, _, pre165 _ ?_, hrun, hended, _, _, rfl, ?_, ⟨_, rfl⟩, hW, hsame.mono (by decide) (by decide)⟩
                          · show Steps p.tables e below (T113.setTop (mkF m 32 #[.val (.int p0), .val (.int p1), .val (.int (0 : Int32)), .val (.int p0), .val (.ref (u 11)), .unset] [(.int p0)])) _
                            refine st166 _ ?_
                            show Steps p.tables e below (T166.setTop (mkF m 35 #[.val (.int p0), .val (.int p1), .val (.int (0 : Int32)), .val (.int p0), .val (.ref (u 11)), .unset] [(.ref (u 11))])) _
                            refine XS.astore X166.here hx rfl (hb hby at_35) rfl rfl (l' := #[.val (.int p0), .val (.int p1), .val (.int (0 : Int32)), .val (.int p0), .val (.ref (u 11)), .val (.ref (u 11))]) rfl ?_
                            show Steps p.tables e below (T166.setTop (mkF m 37 #[.val (.int p0), .val (.int p1), .val (.int (0 : Int32)), .val (.int p0), .val (.ref (u 11)), .val (.ref (u 11))] [])) _
                            refine XS.aload X166.here hx rfl (hb hby at_37) rfl rfl ?_
                            show Steps p.tables e below (T166.setTop (mkF m 39 #[.val (.int p0), .val (.int p1), .val (.int (0 : Int32)), .val (.int p0), .val (.ref (u 11)), .val (.ref (u 11))] [(.ref (u 11))])) _
                            refine XS.aload X166.here hx rfl (hb hby at_39) rfl rfl ?_
                            show Steps p.tables e below (T166.setTop (mkF m 41 #[.val (.int p0), .val (.int p1), .val (.int (0 : Int32)), .val (.int p0), .val (.ref (u 11)), .val (.ref (u 11))] [(.ref (u 11)), (.ref (u 11))])) _
                            refine Jvm.RoadKit.acmp (g := (mkF m 41 #[.val (.int p0), .val (.int p1), .val (.int (0 : Int32)), .val (.int p0), .val (.ref (u 11)), .val (.ref (u 11))] [(.ref (u 11)), (.ref (u 11))])) X166 hx rfl rfl rfl (pc0 := 41) (pc' := 46) (same := true) rfl (hb hby at_41) rfl (decide_eq_true rfl) (by decide) (by decide) ?_
                            show Steps p.tables e below (T166.setTop (mkF m 46 #[.val (.int p0), .val (.int p1), .val (.int (0 : Int32)), .val (.int p0), .val (.ref (u 11)), .val (.ref (u 11))] [])) _
                            refine XS.aload X166.here hx rfl (hb hby at_46) rfl rfl ?_
                            show Steps p.tables e below (T166.setTop (mkF m 48 #[.val (.int p0), .val (.int p1), .val (.int (0 : Int32)), .val (.int p0), .val (.ref (u 11)), .val (.ref (u 11))] [(.ref (u 11))])) _
                            refine XS.ifnullNo X166.here hx rfl (hb hby at_48) rfl ?_
                            show Steps p.tables e below (T166.setTop (mkF m 51 #[.val (.int p0), .val (.int p1), .val (.int (0 : Int32)), .val (.int p0), .val (.ref (u 11)), .val (.ref (u 11))] [])) _
                            refine XS.aload X166.here hx rfl (hb hby at_51) rfl rfl ?_
                            show Steps p.tables e below (T166.setTop (mkF m 53 #[.val (.int p0), .val (.int p1), .val (.int (0 : Int32)), .val (.int p0), .val (.ref (u 11)), .val (.ref (u 11))] [(.ref (u 11))])) _
                            refine st167.trans ?_
                            show Steps p.tables e below (T167.setTop (mkF m 56 #[.val (.int p0), .val (.int p1), .val (.int (0 : Int32)), .val (.int p0), .val (.ref (u 11)), .val (.ref (u 11))] [(.int (43 : Int32))])) _
                            refine XS.iloadN X167.here hx rfl (hb hby at_56) rfl ?_
                            show Steps p.tables e below (T167.setTop (mkF m 57 #[.val (.int p0), .val (.int p1), .val (.int (0 : Int32)), .val (.int p0), .val (.ref (u 11)), .val (.ref (u 11))] [(.int p0), (.int (43 : Int32))])) _
                            refine XS.icmpYes X167.here hx rfl (pc0 := 57) (pc' := 62) rfl (hb hby at_57) rfl (teq hc164).1 (by decide) (by decide) ?_
                            show Steps p.tables e below (T167.setTop (mkF m 62 #[.val (.int p0), .val (.int p1), .val (.int (0 : Int32)), .val (.int p0), .val (.ref (u 11)), .val (.ref (u 11))] [])) _
                            refine XS.iconst X167.here hx rfl (hb hby at_62) ?_
                            show Steps p.tables e below (T167.setTop (mkF m 63 #[.val (.int p0), .val (.int p1), .val (.int (0 : Int32)), .val (.int p0), .val (.ref (u 11)), .val (.ref (u 11))] [(.int (1 : Int32))])) _
                            exact retN X167 hx (t := .boolean) Bd.returns (by simp) (hb hby at_63) hr
                          · show own_Q0 Z u p0 p1 h0 n0 _ T167.heap _
                            rw [e167]
                            exact ⟨rfl, N167, trivial⟩
                        · --
                          obtain rfl : vr113 = some .null := hv113.trans (by unfold own_r1; rw [if_neg hc114, if_neg hc119, if_neg hc124, if_neg hc129, if_neg hc134, if_neg hc139, if_neg hc144, if_neg hc149, if_neg hc154, if_neg hc159, if_neg hc164])
                          have pre169 : ∀ t, Steps p.tables e below (T113.setTop (mkF m 32 #[.val (.int p0), .val (.int p1), .val (.int (0 : Int32)), .val (.int p0), .val .null, .unset] [(.int p0)])) t → Steps p.tables e below (s₁.setTop (entryFrame m #[(.int p0), (.int p1)] maxLocals)) t := fun t kt => pre112 t (by
                            show Steps p.tables e below (s₁.setTop (mkF m 26 #[.val (.int p0), .val (.int p1), .val (.int (0 : Int32)), .val (.int p0), .unset, .unset] [(.int p0)])) _
                            refine st113 _ ?_
                            show Steps p.tables e below (T113.setTop (mkF m 29 #[.val (.int p0), .val (.int p1), .val (.int (0 : Int32)), .val (.int p0), .unset, .unset] [.null])) _
                            refine XS.astore X113.here hx rfl (hb hby at_29) rfl rfl (l' := #[.val (.int p0), .val (.int p1), .val (.int (0 : Int32)), .val (.int p0), .val .null, .unset]) rfl ?_
                            show Steps p.tables e below (T113.setTop (mkF m 31 #[.val (.int p0), .val (.int p1), .val (.int (0 : Int32)), .val (.int p0), .val .null, .unset] [])) _
                            refine XS.iloadN X113.here hx rfl (hb hby at_31) rfl ?_
                            exact kt)
                          obtain ⟨vr170, _, ⟨T170, L170, k170, n170⟩, -, X170, ⟨Lc170, hQ170, l170, y170, z170⟩, st170⟩ := Jvm.LawKit.callS X113 hx (y := (⟨"com/example/portcullis/portcullis/giop/ComponentTagOfPinLaw", "expected", "(I)Lcom/example/portcullis/portcullis/giop/ComponentTag;"⟩ : MethodName)) hown (mvT hZ (hw _ (List.mem_of_getElem? (i := 32) rfl))) (mvT hZ (hw _ (List.mem_of_getElem? (i := 33) rfl))) (mvT hZ (hw _ (List.mem_of_getElem? (i := 34) rfl))) (mvT hZ (hw _ (List.mem_of_getElem? (i := 35) rfl))) (by decide) (backOf (W := 0) (rm3 l Z a0 hw [] u p0 B T113.heap n0 O113 ) hZ (hw _ (List.mem_of_getElem? (i := 35) rfl)) (hw _ (List.mem_of_getElem? (i := 34) rfl)) (by decide) (by decide)) (g := (mkF m 32 #[.val (.int p0), .val (.int p1), .val (.int (0 : Int32)), .val (.int p0), .val .null, .unset] [(.int p0)])) rfl (by rw [hml]; rfl) (argsL := [(.int p0)]) (rest := []) (lenOf own_pd1 rfl) rfl (by show 2 * 0 + _ ≤ _; exact Nat.le_of_eq rfl) (hb hby at_32) (fun _ _ => ⟨rfl, rfl, (by decide : 1 + 0 ≤ _), (by decide : 11 + 0 ≤ _)⟩)
                          dsimp only [Pt.U, Pt.locs, Pt.cells, Pt.slots] at X170 l170 y170 z170 st170 hQ170
                          subst l170 y170 z170
                          obtain ⟨hv170, N170q, e170⟩ := hQ170
                          have N170 := Fr.app N113 N170q
                          obtain rfl : vr170 = some .null := hv170.trans (by unfold own_r3; rw [if_neg (fun q => hc114 (Eq.symm q)), if_neg (fun q => hc119 (Eq.symm q)), if_neg (fun q => hc124 (Eq.symm q)), if_neg (fun q => hc129 (Eq.symm q)), if_neg (fun q => hc134 (Eq.symm q)), if_neg (fun q => hc139 (Eq.symm q)), if_neg (fun q => hc144 (Eq.symm q)), if_neg (fun q => hc149 (Eq.symm q)), if_neg (fun q => hc154 (Eq.symm q)), if_neg (fun q => hc159 (Eq.symm q)), if_neg (fun q => hc164 (Eq.symm q))])
                          obtain ⟨fs, hr, hrun, hended, hW, hsame⟩ := X170.leave (v := some (.int (1 : Int32))) (fun h => by rw [Bd.returns] at h; cases h)
                          refine ⟨_, _, pre169 _ ?_, hrun, hended, _, _, rfl, ?_, ⟨_, rfl⟩, hW, hsame.mono (by decide) (by decide)⟩
                          · show Steps p.tables e below (T113.setTop (mkF m 32 #[.val (.int p0), .val (.int p1), .val (.int (0 : Int32)), .val (.int p0), .val .null, .unset] [(.int p0)])) _
                            refine st170 _ ?_
                            show Steps p.tables e below (T170.setTop (mkF m 35 #[.val (.int p0), .val (.int p1), .val (.int (0 : Int32)), .val (.int p0), .val .null, .unset] [.null])) _
                            refine XS.astore X170.here hx rfl (hb hby at_35) rfl rfl (l' := #[.val (.int p0), .val (.int p1), .val (.int (0 : Int32)), .val (.int p0), .val .null, .val .null]) rfl ?_
                            show Steps p.tables e below (T170.setTop (mkF m 37 #[.val (.int p0), .val (.int p1), .val (.int (0 : Int32)), .val (.int p0), .val .null, .val .null] [])) _
                            refine XS.aload X170.here hx rfl (hb hby at_37) rfl rfl ?_
                            show Steps p.tables e below (T170.setTop (mkF m 39 #[.val (.int p0), .val (.int p1), .val (.int (0 : Int32)), .val (.int p0), .val .null, .val .null] [.null])) _
                            refine XS.aload X170.here hx rfl (hb hby at_39) rfl rfl ?_
                            show Steps p.tables e below (T170.setTop (mkF m 41 #[.val (.int p0), .val (.int p1), .val (.int (0 : Int32)), .val (.int p0), .val .null, .val .null] [.null, .null])) _
                            refine Jvm.RoadKit.acmp (g := (mkF m 41 #[.val (.int p0), .val (.int p1), .val (.int (0 : Int32)), .val (.int p0), .val .null, .val .null] [.null, .null])) X170 hx rfl rfl rfl (pc0 := 41) (pc' := 46) (same := true) rfl (hb hby at_41) rfl (decide_eq_true rfl) (by decide) (by decide) ?_
                            show Steps p.tables e below (T170.setTop (mkF m 46 #[.val (.int p0), .val (.int p1), .val (.int (0 : Int32)), .val (.int p0), .val .null, .val .null] [])) _
                            refine XS.aload X170.here hx rfl (hb hby at_46) rfl rfl ?_
                            show Steps p.tables e below (T170.setTop (mkF m 48 #[.val (.int p0), .val (.int p1), .val (.int (0 : Int32)), .val (.int p0), .val .null, .val .null] [.null])) _
                            refine XS.ifnullYes X170.here hx rfl (pc0 := 48) (pc' := 62) rfl (hb hby at_48) rfl (by decide) (by decide) ?_
                            show Steps p.tables e below (T170.setTop (mkF m 62 #[.val (.int p0), .val (.int p1), .val (.int (0 : Int32)), .val (.int p0), .val .null, .val .null] [])) _
                            refine XS.iconst X170.here hx rfl (hb hby at_62) ?_
                            show Steps p.tables e below (T170.setTop (mkF m 63 #[.val (.int p0), .val (.int p1), .val (.int (0 : Int32)), .val (.int p0), .val .null, .val .null] [(.int (1 : Int32))])) _
                            exact retN X170 hx (t := .boolean) Bd.returns (by simp) (hb hby at_63) hr
                          · show own_Q0 Z u p0 p1 h0 n0 _ T170.heap _
                            rw [e170]
                            exact ⟨rfl, N170, trivial⟩
  · --
    have pre172 : ∀ t, Steps p.tables e below (s₁.setTop (mkF m 26 #[.val (.int p0), .val (.int p1), .val (.int (1 : Int32)), .val (.int (p0 &&& (63 : Int32))), .unset, .unset] [(.int (p0 &&& (63 : Int32)))])) t → Steps p.tables e below (s₁.setTop (entryFrame m #[(.int p0), (.int p1)] maxLocals)) t := fun t kt => pre110 t (by
      show Steps p.tables e below (s₁.setTop (mkF m 3 #[.val (.int p0), .val (.int p1), .unset, .unset, .unset, .unset] [(.int (p1 &&& (1 : Int32)))])) _
      refine XS.ifNo X0.here hx rfl (hb hby at_3) rfl ((if0 _ _).trans (feq hc111).1) ?_
      show Steps p.tables e below (s₁.setTop (mkF m 6 #[.val (.int p0), .val (.int p1), .unset, .unset, .unset, .unset] [])) _
      refine XS.iconst X0.here hx rfl (hb hby at_6) ?_
      show Steps p.tables e below (s₁.setTop (mkF m 7 #[.val (.int p0), .val (.int p1), .unset, .unset, .unset, .unset] [(.int (1 : Int32))])) _
      refine XS.goto X0.here hx rfl (pc0 := 7) (pc' := 11) rfl (hb hby at_7) (by decide) (by decide) ?_
      show Steps p.tables e below (s₁.setTop (mkF m 11 #[.val (.int p0), .val (.int p1), .unset, .unset, .unset, .unset] [(.int (1 : Int32))])) _
      refine XS.istoreN X0.here hx rfl (hb hby at_11) rfl (l' := #[.val (.int p0), .val (.int p1), .val (.int (1 : Int32)), .unset, .unset, .unset]) rfl ?_
      show Steps p.tables e below (s₁.setTop (mkF m 12 #[.val (.int p0), .val (.int p1), .val (.int (1 : Int32)), .unset, .unset, .unset] [])) _
      refine XS.iloadN X0.here hx rfl (hb hby at_12) rfl ?_
      show Steps p.tables e below (s₁.setTop (mkF m 13 #[.val (.int p0), .val (.int p1), .val (.int (1 : Int32)), .unset, .unset, .unset] [(.int (1 : Int32))])) _
      refine XS.ifNo X0.here hx rfl (hb hby at_13) rfl ((if0 _ _).trans (feq (by decide : ¬ ((1 : Int32) = (0 : Int32)))).1) ?_
      show Steps p.tables e below (s₁.setTop (mkF m 16 #[.val (.int p0), .val (.int p1), .val (.int (1 : Int32)), .unset, .unset, .unset] [])) _
      refine XS.iloadN X0.here hx rfl (hb hby at_16) rfl ?_
      show Steps p.tables e below (s₁.setTop (mkF m 17 #[.val (.int p0), .val (.int p1), .val (.int (1 : Int32)), .unset, .unset, .unset] [(.int p0)])) _
      refine XS.bipush X0.here hx rfl (hb hby at_17) ?_
      show Steps p.tables e below (s₁.setTop (mkF m 19 #[.val (.int p0), .val (.int p1), .val (.int (1 : Int32)), .unset, .unset, .unset] [(.int (63 : Int32)), (.int p0)])) _
      refine XS.iand X0.here hx rfl (hb hby at_19) rfl ?_
      show Steps p.tables e below (s₁.setTop (mkF m 20 #[.val (.int p0), .val (.int p1), .val (.int (1 : Int32)), .unset, .unset, .unset] [(.int (p0 &&& (63 : Int32)))])) _
      refine XS.goto X0.here hx rfl (pc0 := 20) (pc' := 24) rfl (hb hby at_20) (by decide) (by decide) ?_
      show Steps p.tables e below (s₁.setTop (mkF m 24 #[.val (.int p0), .val (.int p1), .val (.int (1 : Int32)), .unset, .unset, .unset] [(.int (p0 &&& (63 : Int32)))])) _
      refine XS.istoreN X0.here hx rfl (hb hby at_24) rfl (l' := #[.val (.int p0), .val (.int p1), .val (.int (1 : Int32)), .val (.int (p0 &&& (63 : Int32))), .unset, .unset]) rfl ?_
      show Steps p.tables e below (s₁.setTop (mkF m 25 #[.val (.int p0), .val (.int p1), .val (.int (1 : Int32)), .val (.int (p0 &&& (63 : Int32))), .unset, .unset] [])) _
      refine XS.iloadN X0.here hx rfl (hb hby at_25) rfl ?_
      exact kt)
    obtain ⟨vr173, _, ⟨T173, L173, k173, n173⟩, -, X173, ⟨Lc173, hQ173, l173, y173, z173⟩, st173⟩ := Jvm.LawKit.callS X0 hx (y := (⟨"com/example/portcullis/portcullis/giop/ComponentTag", "of", "(I)Lcom/example/portcullis/portcullis/giop/ComponentTag;"⟩ : MethodName)) hown (mvT hZ (hw _ (List.mem_of_getElem? (i := 0) rfl))) (mvT hZ (hw _ (List.mem_of_getElem? (i := 1) rfl))) (mvT hZ (hw _ (List.mem_of_getElem? (i := 2) rfl))) (mvT hZ (hw _ (List.mem_of_getElem? (i := 3) rfl))) (by decide) (backOf (W := 0) (rm1 l Z a0 hw [] u (p0 &&& (63 : Int32)) B h0 n0 O ) hZ (hw _ (List.mem_of_getElem? (i := 3) rfl)) (hw _ (List.mem_of_getElem? (i := 2) rfl)) (by decide) (by decide)) (g := (mkF m 26 #[.val (.int p0), .val (.int p1), .val (.int (1 : Int32)), .val (.int (p0 &&& (63 : Int32))), .unset, .unset] [(.int (p0 &&& (63 : Int32)))])) rfl (by rw [hml]; rfl) (argsL := [(.int (p0 &&& (63 : Int32)))]) (rest := []) (lenOf own_pd1 rfl) rfl (by show 2 * 0 + _ ≤ _; exact Nat.le_of_eq rfl) (hb hby at_26) (fun _ _ => ⟨rfl, e0, (by decide : 0 + 1 ≤ _), (by decide : 0 + 11 ≤ _)⟩)
    dsimp only [Pt.U, Pt.locs, Pt.cells, Pt.slots] at X173 l173 y173 z173 st173 hQ173
    subst l173 y173 z173
    obtain ⟨hv173, N173q, E173⟩ := hQ173
    have N173 := Fr.app N0 N173q
    have O173 := O.ext E173
    have K173 := K0.ext E173
    by_cases hc174 : (0 : Int32) = (p0 &&& (63 : Int32))
    · --
      obtain rfl : vr173 = some (.ref (u 1)) := hv173.trans (by unfold own_r1; rw [if_pos hc174])
      have pre175 : ∀ t, Steps p.tables e below (T173.setTop (mkF m 32 #[.val (.int p0), .val (.int p1), .val (.int (1 : Int32)), .val (.int (p0 &&& (63 : Int32))), .val (.ref (u 1)), .unset] [(.int (p0 &&& (63 : Int32)))])) t → Steps p.tables e below (s₁.setTop (entryFrame m #[(.int p0), (.int p1)] maxLocals)) t := fun t kt => pre172 t (by
        show Steps p.tables e below (s₁.setTop (mkF m 26 #[.val (.int p0), .val (.int p1), .val (.int (1 : Int32)), .val (.int (p0 &&& (63 : Int32))), .unset, .unset] [(.int (p0 &&& (63 : Int32)))])) _
        refine st173 _ ?_
        show Steps p.tables e below (T173.setTop (mkF m 29 #[.val (.int p0), .val (.int p1), .val (.int (1 : Int32)), .val (.int (p0 &&& (63 : Int32))), .unset, .unset] [(.ref (u 1))])) _
        refine XS.astore X173.here hx rfl (hb hby at_29) rfl rfl (l' := #[.val (.int p0), .val (.int p1), .val (.int (1 : Int32)), .val (.int (p0 &&& (63 : Int32))), .val (.ref (u 1)), .unset]) rfl ?_
        show Steps p.tables e below (T173.setTop (mkF m 31 #[.val (.int p0), .val (.int p1), .val (.int (1 : Int32)), .val (.int (p0 &&& (63 : Int32))), .val (.ref (u 1)), .unset] [])) _
        refine XS.iloadN X173.here hx rfl (hb hby at_31) rfl ?_
        exact kt)
      obtain ⟨vr176, _, ⟨T176, L176, k176, n176⟩, -, X176, ⟨Lc176, hQ176, l176, y176, z176⟩, st176⟩ := Jvm.LawKit.callS X173 hx (y := (⟨"com/example/portcullis/portcullis/giop/ComponentTagOfPinLaw", "expected", "(I)Lcom/example/portcullis/portcullis/giop/ComponentTag;"⟩ : MethodName)) hown (mvT hZ (hw _ (List.mem_of_getElem? (i := 32) rfl))) (mvT hZ (hw _ (List.mem_of_getElem? (i := 33) rfl))) (mvT hZ (hw _ (List.mem_of_getElem? (i := 34) rfl))) (mvT hZ (hw _ (List.mem_of_getElem? (i := 35) rfl))) (by decide) (backOf (W := 0) (rm3 l Z a0 hw [] u (p0 &&& (63 : Int32)) B T173.heap n0 O173 ) hZ (hw _ (List.mem_of_getElem? (i := 35) rfl)) (hw _ (List.mem_of_getElem? (i := 34) rfl)) (by decide) (by decide)) (g := (mkF m 32 #[.val (.int p0), .val (.int p1), .val (.int (1 : Int32)), .val (.int (p0 &&& (63 : Int32))), .val (.ref (u 1)), .unset] [(.int (p0 &&& (63 : Int32)))])) rfl (by rw [hml]; rfl) (argsL := [(.int (p0 &&& (63 : Int32)))]) (rest := []) (lenOf own_pd1 rfl) rfl (by show 2 * 0 + _ ≤ _; exact Nat.le_of_eq rfl) (hb hby at_32) (fun _ _ => ⟨rfl, rfl, (by decide : 1 + 0 ≤ _), (by decide : 11 + 0 ≤ _)⟩)
      dsimp only [Pt.U, Pt.locs, Pt.cells, Pt.slots] at X176 l176 y176 z176 st176 hQ176
      subst l176 y176 z176
      obtain ⟨hv176, N176q, e176⟩ := hQ176
      have N176 := Fr.app N173 N176q
      obtain rfl : vr176 = some (.ref (u 1)) := hv176.trans (by unfold own_r3; rw [if_pos (Eq.symm hc174)])
      obtain ⟨cq177, kq177, q177a, q177b, q177c⟩ := isOf hZ e176 (B.2.2.2.1.ext O173.2)
      obtain ⟨vr177, _, ⟨T177, L177, k177, n177⟩, -, X177, ⟨Lc177, hQ177, l177, y177, z177⟩, st177⟩ := X176.virtualBack hx (y := (⟨"com/example/portcullis/portcullis/giop/ComponentTag", "code", "()I"⟩ : MethodName)) (z := (⟨"com/example/portcullis/portcullis/giop/ComponentTag", "code", "()I"⟩ : MethodName)) hown (mvT hZ (hw _ (List.mem_of_getElem? (i := 37) rfl))) (mvT hZ (hw _ (List.mem_of_getElem? (i := 38) rfl))) (notFace_of_selects (args := #[]) (mvT hZ (hw _ (List.mem_of_getElem? (i := 40) rfl)))) (mvT hZ (hw _ (List.mem_of_getElem? (i := 40) rfl))) (mvT hZ (hw _ (List.mem_of_getElem? (i := 39) rfl))) (by decide) (backOf (W := 0) (rm4 l Z a0 hw [] u (u 1) (0 : Int32) B T173.heap n0 O173 (B.2.2.2.2.2.2.2.2.2.2.2.2.2.2.2.2.2.2.2.2.2.2.2.2.2.1.ext O173.2)) hZ (hw _ (List.mem_of_getElem? (i := 41) rfl)) (hw _ (List.mem_of_getElem? (i := 2) rfl)) (by decide) (by decide)) q177a q177c (g := (mkF m 53 #[.val (.int p0), .val (.int p1), .val (.int (1 : Int32)), .val (.int (p0 &&& (63 : Int32))), .val (.ref (u 1)), .val (.ref (u 1))] [(.ref (u 1))])) rfl (by rw [hml]; rfl) (Steps.refl _) (argsL := []) (rest := []) (lenOf own_pd2 rfl) rfl (by show 2 * 0 + _ ≤ _; exact Nat.le_of_eq rfl) (hb hby at_53) (fun _ _ => ⟨rfl, e176, (by decide : 1 + 0 ≤ _), (by decide : 11 + 0 ≤ _)⟩)
      dsimp only [Pt.U, Pt.locs, Pt.cells, Pt.slots] at X177 l177 y177 z177 st177 hQ177
      subst l177 y177 z177
      obtain ⟨rfl, N177q, e177⟩ := hQ177
      have N177 := Fr.app N176 N177q
      obtain ⟨fs, hr, hrun, hended, hW, hsame⟩ := X177.leave (v := some (.int (1 : Int32))) (fun h => by rw [Bd.returns] at h; cases h)
      refine ⟨_, _, pre175 _ ?_, hrun, hended, _, _, rfl, ?_, ⟨_, rfl⟩, hW, hsame.mono (by decide) (by decide)⟩
      · show Steps p.tables e below (T173.setTop (mkF m 32 #[.val (.int p0), .val (.int p1), .val (.int (1 : Int32)), .val (.int (p0 &&& (63 : Int32))), .val (.ref (u 1)), .unset] [(.int (p0 &&& (63 : Int32)))])) _
        refine st176 _ ?_
        show Steps p.tables e below (T176.setTop (mkF m 35 #[.val (.int p0), .val (.int p1), .val (.int (1 : Int32)), .val (.int (p0 &&& (63 : Int32))), .val (.ref (u 1)), .unset] [(.ref (u 1))])) _
        refine XS.astore X176.here hx rfl (hb hby at_35) rfl rfl (l' := #[.val (.int p0), .val (.int p1), .val (.int (1 : Int32)), .val (.int (p0 &&& (63 : Int32))), .val (.ref (u 1)), .val (.ref (u 1))]) rfl ?_
        show Steps p.tables e below (T176.setTop (mkF m 37 #[.val (.int p0), .val (.int p1), .val (.int (1 : Int32)), .val (.int (p0 &&& (63 : Int32))), .val (.ref (u 1)), .val (.ref (u 1))] [])) _
        refine XS.aload X176.here hx rfl (hb hby at_37) rfl rfl ?_
        show Steps p.tables e below (T176.setTop (mkF m 39 #[.val (.int p0), .val (.int p1), .val (.int (1 : Int32)), .val (.int (p0 &&& (63 : Int32))), .val (.ref (u 1)), .val (.ref (u 1))] [(.ref (u 1))])) _
        refine XS.aload X176.here hx rfl (hb hby at_39) rfl rfl ?_
        show Steps p.tables e below (T176.setTop (mkF m 41 #[.val (.int p0), .val (.int p1), .val (.int (1 : Int32)), .val (.int (p0 &&& (63 : Int32))), .val (.ref (u 1)), .val (.ref (u 1))] [(.ref (u 1)), (.ref (u 1))])) _
        refine Jvm.RoadKit.acmp (g := (mkF m 41 #[.val (.int p0), .val (.int p1), .val (.int (1 : Int32)), .val (.int (p0 &&& (63 : Int32))), .val (.ref (u 1)), .val (.ref (u 1))] [(.ref (u 1)), (.ref (u 1))])) X176 hx rfl rfl rfl (pc0 := 41) (pc' := 46) (same := true) rfl (hb hby at_41) rfl (decide_eq_true rfl) (by decide) (by decide) ?_
        show Steps p.tables e below (T176.setTop (mkF m 46 #[.val (.int p0), .val (.int p1), .val (.int (1 : Int32)), .val (.int (p0 &&& (63 : Int32))), .val (.ref (u 1)), .val (.ref (u 1))] [])) _
        refine XS.aload X176.here hx rfl (hb hby at_46) rfl rfl ?_
        show Steps p.tables e below (T176.setTop (mkF m 48 #[.val (.int p0), .val (.int p1), .val (.int (1 : Int32)), .val (.int (p0 &&& (63 : Int32))), .val (.ref (u 1)), .val (.ref (u 1))] [(.ref (u 1))])) _
        refine XS.ifnullNo X176.here hx rfl (hb hby at_48) rfl ?_
        show Steps p.tables e below (T176.setTop (mkF m 51 #[.val (.int p0), .val (.int p1), .val (.int (1 : Int32)), .val (.int (p0 &&& (63 : Int32))), .val (.ref (u 1)), .val (.ref (u 1))] [])) _
        refine XS.aload X176.here hx rfl (hb hby at_51) rfl rfl ?_
        show Steps p.tables e below (T176.setTop (mkF m 53 #[.val (.int p0), .val (.int p1), .val (.int (1 : Int32)), .val (.int (p0 &&& (63 : Int32))), .val (.ref (u 1)), .val (.ref (u 1))] [(.ref (u 1))])) _
        refine st177.trans ?_
        show Steps p.tables e below (T177.setTop (mkF m 56 #[.val (.int p0), .val (.int p1), .val (.int (1 : Int32)), .val (.int (p0 &&& (63 : Int32))), .val (.ref (u 1)), .val (.ref (u 1))] [(.int (0 : Int32))])) _
        refine XS.iloadN X177.here hx rfl (hb hby at_56) rfl ?_
        show Steps p.tables e below (T177.setTop (mkF m 57 #[.val (.int p0), .val (.int p1), .val (.int (1 : Int32)), .val (.int (p0 &&& (63 : Int32))), .val (.ref (u 1)), .val (.ref (u 1))] [(.int (p0 &&& (63 : Int32))), (.int (0 : Int32))])) _
        refine XS.icmpYes X177.here hx rfl (pc0 := 57) (pc' := 62) rfl (hb hby at_57) rfl (teq hc174).1 (by decide) (by decide) ?_
        show Steps p.tables e below (T177.setTop (mkF m 62 #[.val (.int p0), .val (.int p1), .val (.int (1 : Int32)), .val (.int (p0 &&& (63 : Int32))), .val (.ref (u 1)), .val (.ref (u 1))] [])) _
        refine XS.iconst X177.here hx rfl (hb hby at_62) ?_
        show Steps p.tables e below (T177.setTop (mkF m 63 #[.val (.int p0), .val (.int p1), .val (.int (1 : Int32)), .val (.int (p0 &&& (63 : Int32))), .val (.ref (u 1)), .val (.ref (u 1))] [(.int (1 : Int32))])) _
        exact retN X177 hx (t := .boolean) Bd.returns (by simp) (hb hby at_63) hr
      · show own_Q0 Z u p0 p1 h0 n0 _ T177.heap _
        rw [e177]
        exact ⟨rfl, N177, trivial⟩
    · --
      by_cases hc179 : (1 : Int32) = (p0 &&& (63 : Int32))
      · --
        obtain rfl : vr173 = some (.ref (u 2)) := hv173.trans (by unfold own_r1; rw [if_neg hc174, if_pos hc179])
        have pre180 : ∀ t, Steps p.tables e below (T173.setTop (mkF m 32 #[.val (.int p0), .val (.int p1), .val (.int (1 : Int32)), .val (.int (p0 &&& (63 : Int32))), .val (.ref (u 2)), .unset] [(.int (p0 &&& (63 : Int32)))])) t → Steps p.tables e below (s₁.setTop (entryFrame m #[(.int p0), (.int p1)] maxLocals)) t := fun t kt => pre172 t (by
          show Steps p.tables e below (s₁.setTop (mkF m 26 #[.val (.int p0), .val (.int p1), .val (.int (1 : Int32)), .val (.int (p0 &&& (63 : Int32))), .unset, .unset] [(.int (p0 &&& (63 : Int32)))])) _
          refine st173 _ ?_
          show Steps p.tables e below (T173.setTop (mkF m 29 #[.val (.int p0), .val (.int p1), .val (.int (1 : Int32)), .val (.int (p0 &&& (63 : Int32))), .unset, .unset] [(.ref (u 2))])) _
          refine XS.astore X173.here hx rfl (hb hby at_29) rfl rfl (l' := #[.val (.int p0), .val (.int p1), .val (.int (1 : Int32)), .val (.int (p0 &&& (63 : Int32))), .val (.ref (u 2)), .unset]) rfl ?_
          show Steps p.tables e below (T173.setTop (mkF m 31 #[.val (.int p0), .val (.int p1), .val (.int (1 : Int32)), .val (.int (p0 &&& (63 : Int32))), .val (.ref (u 2)), .unset] [])) _
          refine XS.iloadN X173.here hx rfl (hb hby at_31) rfl ?_
          exact kt)
        obtain ⟨vr181, _, ⟨T181, L181, k181, n181⟩, -, X181, ⟨Lc181, hQ181, l181, y181, z181⟩, st181⟩ := Jvm.LawKit.callS X173 hx (y := (⟨"com/example/portcullis/portcullis/giop/ComponentTagOfPinLaw", "expected", "(I)Lcom/example/portcullis/portcullis/giop/ComponentTag;"⟩ : MethodName)) hown (mvT hZ (hw _ (List.mem_of_getElem? (i := 32) rfl))) (mvT hZ (hw _ (List.mem_of_getElem? (i := 33) rfl))) (mvT hZ (hw _ (List.mem_of_getElem? (i := 34) rfl))) (mvT hZ (hw _ (List.mem_of_getElem? (i := 35) rfl))) (by decide) (backOf (W := 0) (rm3 l Z a0 hw [] u (p0 &&& (63 : Int32)) B T173.heap n0 O173 ) hZ (hw _ (List.mem_of_getElem? (i := 35) rfl)) (hw _ (List.mem_of_getElem? (i := 34) rfl)) (by decide) (by decide)) (g := (mkF m 32 #[.val (.int p0), .val (.int p1), .val (.int (1 : Int32)), .val (.int (p0 &&& (63 : Int32))), .val (.ref (u 2)), .unset] [(.int (p0 &&& (63 : Int32)))])) rfl (by rw [hml]; rfl) (argsL := [(.int (p0 &&& (63 : Int32)))]) (rest := []) (lenOf own_pd1 rfl) rfl (by show 2 * 0 + _ ≤ _; exact Nat.le_of_eq rfl) (hb hby at_32) (fun _ _ => ⟨rfl, rfl, (by decide : 1 + 0 ≤ _), (by decide : 11 + 0 ≤ _)⟩)
        dsimp only [Pt.U, Pt.locs, Pt.cells, Pt.slots] at X181 l181 y181 z181 st181 hQ181
        subst l181 y181 z181
        obtain ⟨hv181, N181q, e181⟩ := hQ181
        have N181 := Fr.app N173 N181q
        obtain rfl : vr181 = some (.ref (u 2)) := hv181.trans (by unfold own_r3; rw [if_neg (fun q => hc174 (Eq.symm q)), if_pos (Eq.symm hc179)])
        obtain ⟨cq182, kq182, q182a, q182b, q182c⟩ := isOf hZ e181 (B.2.2.2.2.2.1.ext O173.2)
        obtain ⟨vr182, _, ⟨T182, L182, k182, n182⟩, -, X182, ⟨Lc182, hQ182, l182, y182, z182⟩, st182⟩ := X181.virtualBack hx (y := (⟨"com/example/portcullis/portcullis/giop/ComponentTag", "code", "()I"⟩ : MethodName)) (z := (⟨"com/example/portcullis/portcullis/giop/ComponentTag", "code", "()I"⟩ : MethodName)) hown (mvT hZ (hw _ (List.mem_of_getElem? (i := 37) rfl))) (mvT hZ (hw _ (List.mem_of_getElem? (i := 38) rfl))) (notFace_of_selects (args := #[]) (mvT hZ (hw _ (List.mem_of_getElem? (i := 40) rfl)))) (mvT hZ (hw _ (List.mem_of_getElem? (i := 40) rfl))) (mvT hZ (hw _ (List.mem_of_getElem? (i := 39) rfl))) (by decide) (backOf (W := 0) (rm4 l Z a0 hw [] u (u 2) (1 : Int32) B T173.heap n0 O173 (B.2.2.2.2.2.2.2.2.2.2.2.2.2.2.2.2.2.2.2.2.2.2.2.2.2.2.1.ext O173.2)) hZ (hw _ (List.mem_of_getElem? (i := 41) rfl)) (hw _ (List.mem_of_getElem? (i := 2) rfl)) (by decide) (by decide)) q182a q182c (g := (mkF m 53 #[.val (.int p0), .val (.int p1), .val (.int (1 : Int32)), .val (.int (p0 &&& (63 : Int32))), .val (.ref (u 2)), .val (.ref (u 2))] [(.ref (u 2))])) rfl (by rw [hml]; rfl) (Steps.refl _) (argsL := []) (rest := []) (lenOf own_pd2 rfl) rfl (by show 2 * 0 + _ ≤ _; exact Nat.le_of_eq rfl) (hb hby at_53) (fun _ _ => ⟨rfl, e181, (by decide : 1 + 0 ≤ _), (by decide : 11 + 0 ≤ _)⟩)
        dsimp only [Pt.U, Pt.locs, Pt.cells, Pt.slots] at X182 l182 y182 z182 st182 hQ182
        subst l182 y182 z182
        obtain ⟨rfl, N182q, e182⟩ := hQ182
        have N182 := Fr.app N181 N182q
        obtain ⟨fs, hr, hrun, hended, hW, hsame⟩ := X182.leave (v := some (.int (1 : Int32))) (fun h => by rw [Bd.returns] at h; cases h)
        refine ⟨_, _, pre180 _ ?_, hrun, hended, _, _, rfl, ?_, ⟨_, rfl⟩, hW, hsame.mono (by decide) (by decide)⟩
        · show Steps p.tables e below (T173.setTop (mkF m 32 #[.val (.int p0), .val (.int p1), .val (.int (1 : Int32)), .val (.int (p0 &&& (63 : Int32))), .val (.ref (u 2)), .unset] [(.int (p0 &&& (63 : Int32)))])) _
          refine st181 _ ?_
          show Steps p.tables e below (T181.setTop (mkF m 35 #[.val (.int p0), .val (.int p1), .val (.int (1 : Int32)), .val (.int (p0 &&& (63 : Int32))), .val (.ref (u 2)), .unset] [(.ref (u 2))])) _
          refine XS.astore X181.here hx rfl (hb hby at_35) rfl rfl (l' := #[.val (.int p0), .val (.int p1), .val (.int (1 : Int32)), .val (.int (p0 &&& (63 : Int32))), .val (.ref (u 2)), .val (.ref (u 2))]) rfl ?_
          show Steps p.tables e below (T181.setTop (mkF m 37 #[.val (.int p0), .val (.int p1), .val (.int (1 : Int32)), .val (.int (p0 &&& (63 : Int32))), .val (.ref (u 2)), .val (.ref (u 2))] [])) _
          refine XS.aload X181.here hx rfl (hb hby at_37) rfl rfl ?_
          show Steps p.tables e below (T181.setTop (mkF m 39 #[.val (.int p0), .val (.int p1), .val (.int (1 : Int32)), .val (.int (p0 &&& (63 : Int32))), .val (.ref (u 2)), .val (.ref (u 2))] [(.ref (u 2))])) _
          refine XS.aload X181.here hx rfl (hb hby at_39) rfl rfl ?_
          show Steps p.tables e below (T181.setTop (mkF m 41 #[.val (.int p0), .val (.int p1), .val (.int (1 : Int32)), .val (.int (p0 &&& (63 : Int32))), .val (.ref (u 2)), .val (.ref (u 2))] [(.ref (u 2)), (.ref (u 2))])) _
          refine Jvm.RoadKit.acmp (g := (mkF m 41 #[.val (.int p0), .val (.int p1), .val (.int (1 : Int32)), .val (.int (p0 &&& (63 : Int32))), .val (.ref (u 2)), .val (.ref (u 2))] [(.ref (u 2)), (.ref (u 2))])) X181 hx rfl rfl rfl (pc0 := 41) (pc' := 46) (same := true) rfl (hb hby at_41) rfl (decide_eq_true rfl) (by decide) (by decide) ?_
          show Steps p.tables e below (T181.setTop (mkF m 46 #[.val (.int p0), .val (.int p1), .val (.int (1 : Int32)), .val (.int (p0 &&& (63 : Int32))), .val (.ref (u 2)), .val (.ref (u 2))] [])) _
          refine XS.aload X181.here hx rfl (hb hby at_46) rfl rfl ?_
          show Steps p.tables e below (T181.setTop (mkF m 48 #[.val (.int p0), .val (.int p1), .val (.int (1 : Int32)), .val (.int (p0 &&& (63 : Int32))), .val (.ref (u 2)), .val (.ref (u 2))] [(.ref (u 2))])) _
          refine XS.ifnullNo X181.here hx rfl (hb hby at_48) rfl ?_
          show Steps p.tables e below (T181.setTop (mkF m 51 #[.val (.int p0), .val (.int p1), .val (.int (1 : Int32)), .val (.int (p0 &&& (63 : Int32))), .val (.ref (u 2)), .val (.ref (u 2))] [])) _
          refine XS.aload X181.here hx rfl (hb hby at_51) rfl rfl ?_
          show Steps p.tables e below (T181.setTop (mkF m 53 #[.val (.int p0), .val (.int p1), .val (.int (1 : Int32)), .val (.int (p0 &&& (63 : Int32))), .val (.ref (u 2)), .val (.ref (u 2))] [(.ref (u 2))])) _
          refine st182.trans ?_
          show Steps p.tables e below (T182.setTop (mkF m 56 #[.val (.int p0), .val (.int p1), .val (.int (1 : Int32)), .val (.int (p0 &&& (63 : Int32))), .val (.ref (u 2)), .val (.ref (u 2))] [(.int (1 : Int32))])) _
          refine XS.iloadN X182.here hx rfl (hb hby at_56) rfl ?_
          show Steps p.tables e below (T182.setTop (mkF m 57 #[.val (.int p0), .val (.int p1), .val (.int (1 : Int32)), .val (.int (p0 &&& (63 : Int32))), .val (.ref (u 2)), .val (.ref (u 2))] [(.int (p0 &&& (63 : Int32))), (.int (1 : Int32))])) _
          refine XS.icmpYes X182.here hx rfl (pc0 := 57) (pc' := 62) rfl (hb hby at_57) rfl (teq hc179).1 (by decide) (by decide) ?_
          show Steps p.tables e below (T182.setTop (mkF m 62 #[.val (.int p0), .val (.int p1), .val (.int (1 : Int32)), .val (.int (p0 &&& (63 : Int32))), .val (.ref (u 2)), .val (.ref (u 2))] [])) _
          refine XS.iconst X182.here hx rfl (hb hby at_62) ?_
          show Steps p.tables e below (T182.setTop (mkF m 63 #[.val (.int p0), .val (.int p1), .val (.int (1 : Int32)), .val (.int (p0 &&& (63 : Int32))), .val (.ref (u 2)), .val (.ref (u 2))] [(.int (1 : Int32))])) _
          exact retN X182 hx (t := .boolean) Bd.returns (by simp) (hb hby at_63) hr
        · show own_Q0 Z u p0 p1 h0 n0 _ T182.heap _
          rw [e182]
          exact ⟨rfl, N182, trivial⟩
      · --
        by_cases hc184 : (2 : Int32) = (p0 &&& (63 : Int32))
        · --
          obtain rfl : vr173 = some (.ref (u 3)) := hv173.trans (by unfold own_r1; rw [if_neg hc174, if_neg hc179, if_pos hc184])
          have pre185 : ∀ t, Steps p.tables e below (T173.setTop (mkF m 32 #[.val (.int p0), .val (.int p1), .val (.int (1 : Int32)), .val (.int (p0 &&& (63 : Int32))), .val (.ref (u 3)), .unset] [(.int (p0 &&& (63 : Int32)))])) t → Steps p.tables e below (s₁.setTop (entryFrame m #[(.int p0), (.int p1)] maxLocals)) t := fun t kt => pre172 t (by
            show Steps p.tables e below (s₁.setTop (mkF m 26 #[.val (.int p0), .val (.int p1), .val (.int (1 : Int32)), .val (.int (p0 &&& (63 : Int32))), .unset, .unset] [(.int (p0 &&& (63 : Int32)))])) _
            refine st173 _ ?_
            show Steps p.tables e below (T173.setTop (mkF m 29 #[.val (.int p0), .val (.int p1), .val (.int (1 : Int32)), .val (.int (p0 &&& (63 : Int32))), .unset, .unset] [(.ref (u 3))])) _
            refine XS.astore X173.here hx rfl (hb hby at_29) rfl rfl (l' := #[.val (.int p0), .val (.int p1), .val (.int (1 : Int32)), .val (.int (p0 &&& (63 : Int32))), .val (.ref (u 3)), .unset]) rfl ?_
            show Steps p.tables e below (T173.setTop (mkF m 31 #[.val (.int p0), .val (.int p1), .val (.int (1 : Int32)), .val (.int (p0 &&& (63 : Int32))), .val (.ref (u 3)), .unset] [])) _
            refine XS.iloadN X173.here hx rfl (hb hby at_31) rfl ?_
            exact kt)
          obtain ⟨vr186, _, ⟨T186, L186, k186, n186⟩, -, X186, ⟨Lc186, hQ186, l186, y186, z186⟩, st186⟩ := Jvm.LawKit.callS X173 hx (y := (⟨"com/example/portcullis/portcullis/giop/ComponentTagOfPinLaw", "expected", "(I)Lcom/example/portcullis/portcullis/giop/ComponentTag;"⟩ : MethodName)) hown (mvT hZ (hw _ (List.mem_of_getElem? (i := 32) rfl))) (mvT hZ (hw _ (List.mem_of_getElem? (i := 33) rfl))) (mvT hZ (hw _ (List.mem_of_getElem? (i := 34) rfl))) (mvT hZ (hw _ (List.mem_of_getElem? (i := 35) rfl))) (by decide) (backOf (W := 0) (rm3 l Z a0 hw [] u (p0 &&& (63 : Int32)) B T173.heap n0 O173 ) hZ (hw _ (List.mem_of_getElem? (i := 35) rfl)) (hw _ (List.mem_of_getElem? (i := 34) rfl)) (by decide) (by decide)) (g := (mkF m 32 #[.val (.int p0), .val (.int p1), .val (.int (1 : Int32)), .val (.int (p0 &&& (63 : Int32))), .val (.ref (u 3)), .unset] [(.int (p0 &&& (63 : Int32)))])) rfl (by rw [hml]; rfl) (argsL := [(.int (p0 &&& (63 : Int32)))]) (rest := []) (lenOf own_pd1 rfl) rfl (by show 2 * 0 + _ ≤ _; exact Nat.le_of_eq rfl) (hb hby at_32) (fun _ _ => ⟨rfl, rfl, (by decide : 1 + 0 ≤ _), (by decide : 11 + 0 ≤ _)⟩)
          dsimp only [Pt.U, Pt.locs, Pt.cells, Pt.slots] at X186 l186 y186 z186 st186 hQ186
          subst l186 y186 z186
          obtain ⟨hv186, N186q, e186⟩ := hQ186
          have N186 := Fr.app N173 N186q
          obtain rfl : vr186 = some (.ref (u 3)) := hv186.trans (by unfold own_r3; rw [if_neg (fun q => hc174 (Eq.symm q)), if_neg (fun q => hc179 (Eq.symm q)), if_pos (Eq.symm hc184)])
          obtain ⟨cq187, kq187, q187a, q187b, q187c⟩ := isOf hZ e186 (B.2.2.2.2.2.2.2.1.ext O173.2)
          obtain ⟨vr187, _, ⟨T187, L187, k187, n187⟩, -, X187, ⟨Lc187, hQ187, l187, y187, z187⟩, st187⟩ := X186.virtualBack hx (y := (⟨"com/example/portcullis/portcullis/giop/ComponentTag", "code", "()I"⟩ : MethodName)) (z := (⟨"com/example/portcullis/portcullis/giop/ComponentTag", "code", "()I"⟩ : MethodName)) hown (mvT hZ (hw _ (List.mem_of_getElem? (i := 37) rfl))) (mvT hZ (hw _ (List.mem_of_getElem? (i := 38) rfl))) (notFace_of_selects (args := #[]) (mvT hZ (hw _ (List.mem_of_getElem? (i := 40) rfl)))) (mvT hZ (hw _ (List.mem_of_getElem? (i := 40) rfl))) (mvT hZ (hw _ (List.mem_of_getElem? (i := 39) rfl))) (by decide) (backOf (W := 0) (rm4 l Z a0 hw [] u (u 3) (2 : Int32) B T173.heap n0 O173 (B.2.2.2.2.2.2.2.2.2.2.2.2.2.2.2.2.2.2.2.2.2.2.2.2.2.2.2.1.ext O173.2)) hZ (hw _ (List.mem_of_getElem? (i := 41) rfl)) (hw _ (List.mem_of_getElem? (i := 2) rfl)) (by decide) (by decide)) q187a q187c (g := (mkF m 53 #[.val (.int p0), .val (.int p1), .val (.int (1 : Int32)), .val (.int (p0 &&& (63 : Int32))), .val (.ref (u 3)), .val (.ref (u 3))] [(.ref (u 3))])) rfl (by rw [hml]; rfl) (Steps.refl _) (argsL := []) (rest := []) (lenOf own_pd2 rfl) rfl (by show 2 * 0 + _ ≤ _; exact Nat.le_of_eq rfl) (hb hby at_53) (fun _ _ => ⟨rfl, e186, (by decide : 1 + 0 ≤ _), (by decide : 11 + 0 ≤ _)⟩)
          dsimp only [Pt.U, Pt.locs, Pt.cells, Pt.slots] at X187 l187 y187 z187 st187 hQ187
          subst l187 y187 z187
          obtain ⟨rfl, N187q, e187⟩ := hQ187
          have N187 := Fr.app N186 N187q
          obtain ⟨fs, hr, hrun, hended, hW, hsame⟩ := X187.leave (v := some (.int (1 : Int32))) (fun h => by rw [Bd.returns] at h; cases h)
          refine ⟨_, _, pre185 _ ?_, hrun, hended, _, _, rfl, ?_, ⟨_, rfl⟩, hW, hsame.mono (by decide) (by decide)⟩
          · show Steps p.tables e below (T173.setTop (mkF m 32 #[.val (.int p0), .val (.int p1), .val (.int (1 : Int32)), .val (.int (p0 &&& (63 : Int32))), .val (.ref (u 3)), .unset] [(.int (p0 &&& (63 : Int32)))])) _
            refine st186 _ ?_
            show Steps p.tables e below (T186.setTop (mkF m 35 #[.val (.int p0), .val (.int p1), .val (.int (1 : Int32)), .val (.int (p0 &&& (63 : Int32))), .val (.ref (u 3)), .unset] [(.ref (u 3))])) _
            refine XS.astore X186.here hx rfl (hb hby at_35) rfl rfl (l' := #[.val (.int p0), .val (.int p1), .val (.int (1 : Int32)), .val (.int (p0 &&& (63 : Int32))), .val (.ref (u 3)), .val (.ref (u 3))]) rfl ?_
            show Steps p.tables e below (T186.setTop (mkF m 37 #[.val (.int p0), .val (.int p1), .val (.int (1 : Int32)), .val (.int (p0 &&& (63 : Int32))), .val (.ref (u 3)), .val (.ref (u 3))] [])) _
            refine XS.aload X186.here hx rfl (hb hby at_37) rfl rfl ?_
            show Steps p.tables e below (T186.setTop (mkF m 39 #[.val (.int p0), .val (.int p1), .val (.int (1 : Int32)), .val (.int (p0 &&& (63 : Int32))), .val (.ref (u 3)), .val (.ref (u 3))] [(.ref (u 3))])) _
            refine XS.aload X186.here hx rfl (hb hby at_39) rfl rfl ?_
            show Steps p.tables e below (T186.setTop (mkF m 41 #[.val (.int p0), .val (.int p1), .val (.int (1 : Int32)), .val (.int (p0 &&& (63 : Int32))), .val (.ref (u 3)), .val (.ref (u 3))] [(.ref (u 3)), (.ref (u 3))])) _
            refine Jvm.RoadKit.acmp (g := (mkF m 41 #[.val (.int p0), .val (.int p1), .val (.int (1 : Int32)), .val (.int (p0 &&& (63 : Int32))), .val (.ref (u 3)), .val (.ref (u 3))] [(.ref (u 3)), (.ref (u 3))])) X186 hx rfl rfl rfl (pc0 := 41) (pc' := 46) (same := true) rfl (hb hby at_41) rfl (decide_eq_true rfl) (by decide) (by decide) ?_
            show Steps p.tables e below (T186.setTop (mkF m 46 #[.val (.int p0), .val (.int p1), .val (.int (1 : Int32)), .val (.int (p0 &&& (63 : Int32))), .val (.ref (u 3)), .val (.ref (u 3))] [])) _
            refine XS.aload X186.here hx rfl (hb hby at_46) rfl rfl ?_
            show Steps p.tables e below (T186.setTop (mkF m 48 #[.val (.int p0), .val (.int p1), .val (.int (1 : Int32)), .val (.int (p0 &&& (63 : Int32))), .val (.ref (u 3)), .val (.ref (u 3))] [(.ref (u 3))])) _
            refine XS.ifnullNo X186.here hx rfl (hb hby at_48) rfl ?_
            show Steps p.tables e below (T186.setTop (mkF m 51 #[.val (.int p0), .val (.int p1), .val (.int (1 : Int32)), .val (.int (p0 &&& (63 : Int32))), .val (.ref (u 3)), .val (.ref (u 3))] [])) _
            refine XS.aload X186.here hx rfl (hb hby at_51) rfl rfl ?_
            show Steps p.tables e below (T186.setTop (mkF m 53 #[.val (.int p0), .val (.int p1), .val (.int (1 : Int32)), .val (.int (p0 &&& (63 : Int32))), .val (.ref (u 3)), .val (.ref (u 3))] [(.ref (u 3))])) _
            refine st187.trans ?_
            show Steps p.tables e below (T187.setTop (mkF m 56 #[.val (.int p0), .val (.int p1), .val (.int (1 : Int32)), .val (.int (p0 &&& (63 : Int32))), .val (.ref (u 3)), .val (.ref (u 3))] [(.int (2 : Int32))])) _
            refine XS.iloadN X187.here hx rfl (hb hby at_56) rfl ?_
            show Steps p.tables e below (T187.setTop (mkF m 57 #[.val (.int p0), .val (.int p1), .val (.int (1 : Int32)), .val (.int (p0 &&& (63 : Int32))), .val (.ref (u 3)), .val (.ref (u 3))] [(.int (p0 &&& (63 : Int32))), (.int (2 : Int32))])) _
            refine XS.icmpYes X187.here hx rfl (pc0 := 57) (pc' := 62) rfl (hb hby at_57) rfl (teq hc184).1 (by decide) (by decide) ?_
            show Steps p.tables e below (T187.setTop (mkF m 62 #[.val (.int p0), .val (.int p1), .val (.int (1 : Int32)), .val (.int (p0 &&& (63 : Int32))), .val (.ref (u 3)), .val (.ref (u 3))] [])) _
            refine XS.iconst X187.here hx rfl (hb hby at_62) ?_
            show Steps p.tables e below (T187.setTop (mkF m 63 #[.val (.int p0), .val (.int p1), .val (.int (1 : Int32)), .val (.int (p0 &&& (63 : Int32))), .val (.ref (u 3)), .val (.ref (u 3))] [(.int (1 : Int32))])) _
            exact retN X187 hx (t := .boolean) Bd.returns (by simp) (hb hby at_63) hr
          · show own_Q0 Z u p0 p1 h0 n0 _ T187.heap _
            rw [e187]
            exact ⟨rfl, N187, trivial⟩
        · --
          by_cases hc189 : (3 : Int32) = (p0 &&& (63 : Int32))
          · --
            obtain rfl : vr173 = some (.ref (u 4)) := hv173.trans (by unfold own_r1; rw [if_neg hc174, if_neg hc179, if_neg hc184, if_pos hc189])
            have pre190 : ∀ t, Steps p.tables e below (T173.setTop (mkF m 32 #[.val (.int p0), .val (.int p1), .val (.int (1 : Int32)), .val (.int (p0 &&& (63 : Int32))), .val (.ref (u 4)), .unset] [(.int (p0 &&& (63 : Int32)))])) t → Steps p.tables e below (s₁.setTop (entryFrame m #[(.int p0), (.int p1)] maxLocals)) t := fun t kt => pre172 t (by
              show Steps p.tables e below (s₁.setTop (mkF m 26 #[.val (.int p0), .val (.int p1), .val (.int (1 : Int32)), .val (.int (p0 &&& (63 : Int32))), .unset, .unset] [(.int (p0 &&& (63 : Int32)))])) _
              refine st173 _ ?_
              show Steps p.tables e below (T173.setTop (mkF m 29 #[.val (.int p0), .val (.int p1), .val (.int (1 : Int32)), .val (.int (p0 &&& (63 : Int32))), .unset, .unset] [(.ref (u 4))])) _
              refine XS.astore X173.here hx rfl (hb hby at_29) rfl rfl (l' := #[.val (.int p0), .val (.int p1), .val (.int (1 : Int32)), .val (.int (p0 &&& (63 : Int32))), .val (.ref (u 4)), .unset]) rfl ?_
              show Steps p.tables e below (T173.setTop (mkF m 31 #[.val (.int p0), .val (.int p1), .val (.int (1 : Int32)), .val (.int (p0 &&& (63 : Int32))), .val (.ref (u 4)), .unset] [])) _
              refine XS.iloadN X173.here hx rfl (hb hby at_31) rfl ?_
              exact kt)
            obtain ⟨vr191, _, ⟨T191, L191, k191, n191⟩, -, X191, ⟨Lc191, hQ191, l191, y191, z191⟩, st191⟩ := Jvm.LawKit.callS X173 hx (y := (⟨"com/example/portcullis/portcullis/giop/ComponentTagOfPinLaw", "expected", "(I)Lcom/example/portcullis/portcullis/giop/ComponentTag;"⟩ : MethodName)) hown (mvT hZ (hw _ (List.mem_of_getElem? (i := 32) rfl))) (mvT hZ (hw _ (List.mem_of_getElem? (i := 33) rfl))) (mvT hZ (hw _ (List.mem_of_getElem? (i := 34) rfl))) (mvT hZ (hw _ (List.mem_of_getElem? (i := 35) rfl))) (by decide) (backOf (W := 0) (rm3 l Z a0 hw [] u (p0 &&& (63 : Int32)) B T173.heap n0 O173 ) hZ (hw _ (List.mem_of_getElem? (i := 35) rfl)) (hw _ (List.mem_of_getElem? (i := 34) rfl)) (by decide) (by decide)) (g := (mkF m 32 #[.val (.int p0), .val (.int p1), .val (.int (1 : Int32)), .val (.int (p0 &&& (63 : Int32))), .val (.ref (u 4)), .unset] [(.int (p0 &&& (63 : Int32)))])) rfl (by rw [hml]; rfl) (argsL := [(.int (p0 &&& (63 : Int32)))]) (rest := []) (lenOf own_pd1 rfl) rfl (by show 2 * 0 + _ ≤ _; exact Nat.le_of_eq rfl) (hb hby at_32) (fun _ _ => ⟨rfl, rfl, (by decide : 1 + 0 ≤ _), (by decide : 11 + 0 ≤ _)⟩)
            dsimp only [Pt.U, Pt.locs, Pt.cells, Pt.slots] at X191 l191 y191 z191 st191 hQ191
            subst l191 y191 z191
            obtain ⟨hv191, N191q, e191⟩ := hQ191
            have N191 := Fr.app N173 N191q
            obtain rfl : vr191 = some (.ref (u 4)) := hv191.trans (by unfold own_r3; rw [if_neg (fun q => hc174 (Eq.symm q)), if_neg (fun q => hc179 (Eq.symm q)), if_neg (fun q => hc184 (Eq.symm q)), if_pos (Eq.symm hc189)])
            obtain ⟨cq192, kq192, q192a, q192b, q192c⟩ := isOf hZ e191 (B.2.2.2.2.2.2.2.2.2.1.ext O173.2)
            obtain ⟨vr192, _, ⟨T192, L192, k192, n192⟩, -, X192, ⟨Lc192, hQ192, l192, y192, z192⟩, st192⟩ := X191.virtualBack hx (y := (⟨"com/example/portcullis/portcullis/giop/ComponentTag", "code", "()I"⟩ : MethodName)) (z := (⟨"com/example/portcullis/portcullis/giop/ComponentTag", "code", "()I"⟩ : MethodName)) hown (mvT hZ (hw _ (List.mem_of_getElem? (i := 37) rfl))) (mvT hZ (hw _ (List.mem_of_getElem? (i := 38) rfl))) (notFace_of_selects (args := #[]) (mvT hZ (hw _ (List.mem_of_getElem? (i := 40) rfl)))) (mvT hZ (hw _ (List.mem_of_getElem? (i := 40) rfl))) (mvT hZ (hw _ (List.mem_of_getElem? (i := 39) rfl))) (by decide) (backOf (W := 0) (rm4 l Z a0 hw [] u (u 4) (3 : Int32) B T173.heap n0 O173 (B.2.2.2.2.2.2.2.2.2.2.2.2.2.2.2.2.2.2.2.2.2.2.2.2.2.2.2.2.1.ext O173.2)) hZ (hw _ (List.mem_of_getElem? (i := 41) rfl)) (hw _ (List.mem_of_getElem? (i := 2) rfl)) (by decide) (by decide)) q192a q192c (g := (mkF m 53 #[.val (.int p0), .val (.int p1), .val (.int (1 : Int32)), .val (.int (p0 &&& (63 : Int32))), .val (.ref (u 4)), .val (.ref (u 4))] [(.ref (u 4))])) rfl (by rw [hml]; rfl) (Steps.refl _) (argsL := []) (rest := []) (lenOf own_pd2 rfl) rfl (by show 2 * 0 + _ ≤ _; exact Nat.le_of_eq rfl) (hb hby at_53) (fun _ _ => ⟨rfl, e191, (by decide : 1 + 0 ≤ _), (by decide : 11 + 0 ≤ _)⟩)
            dsimp only [Pt.U, Pt.locs, Pt.cells, Pt.slots] at X192 l192 y192 z192 st192 hQ192
            subst l192 y192 z192
            obtain ⟨rfl, N192q, e192⟩ := hQ192
            have N192 := Fr.app N191 N192q
            obtain ⟨fs, hr, hrun, hended, hW, hsame⟩ := X192.leave (v := some (.int (1 : Int32))) (fun h => by rw [Bd.returns] at h; cases h)
            refine ⟨_, _, pre190 _ ?_, hrun, hended, _, _, rfl, ?_, ⟨_, rfl⟩, hW, hsame.mono (by decide) (by decide)⟩
            · show Steps p.tables e below (T173.setTop (mkF m 32 #[.val (.int p0), .val (.int p1), .val (.int (1 : Int32)), .val (.int (p0 &&& (63 : Int32))), .val (.ref (u 4)), .unset] [(.int (p0 &&& (63 : Int32)))])) _
              refine st191 _ ?_
              show Steps p.tables e below (T191.setTop (mkF m 35 #[.val (.int p0), .val (.int p1), .val (.int (1 : Int32)), .val (.int (p0 &&& (63 : Int32))), .val (.ref (u 4)), .unset] [(.ref (u 4))])) _
              refine XS.astore X191.here hx rfl (hb hby at_35) rfl rfl (l' := #[.val (.int p0), .val (.int p1), .val (.int (1 : Int32)), .val (.int (p0 &&& (63 : Int32))), .val (.ref (u 4)), .val (.ref (u 4))]) rfl ?_
              show Steps p.tables e below (T191.setTop (mkF m 37 #[.val (.int p0), .val (.int p1), .val (.int (1 : Int32)), .val (.int (p0 &&& (63 : Int32))), .val (.ref (u 4)), .val (.ref (u 4))] [])) _
              refine XS.aload X191.here hx rfl (hb hby at_37) rfl rfl ?_
              show Steps p.tables e below (T191.setTop (mkF m 39 #[.val (.int p0), .val (.int p1), .val (.int (1 : Int32)), .val (.int (p0 &&& (63 : Int32))), .val (.ref (u 4)), .val (.ref (u 4))] [(.ref (u 4))])) _
              refine XS.aload X191.here hx rfl (hb hby at_39) rfl rfl ?_
              show Steps p.tables e below (T191.setTop (mkF m 41 #[.val (.int p0), .val (.int p1), .val (.int (1 : Int32)), .val (.int (p0 &&& (63 : Int32))), .val (.ref (u 4)), .val (.ref (u 4))] [(.ref (u 4)), (.ref (u 4))])) _
              refine Jvm.RoadKit.acmp (g := (mkF m 41 #[.val (.int p0), .val (.int p1), .val (.int (1 : Int32)), .val (.int (p0 &&& (63 : Int32))), .val (.ref (u 4)), .val (.ref (u 4))] [(.ref (u 4)), (.ref (u 4))])) X191 hx rfl rfl rfl (pc0 := 41) (pc' := 46) (same := true) rfl (hb hby at_41) rfl (decide_eq_true rfl) (by decide) (by decide) ?_
              show Steps p.tables e below (T191.setTop (mkF m 46 #[.val (.int p0), .val (.int p1), .val (.int (1 : Int32)), .val (.int (p0 &&& (63 : Int32))), .val (.ref (u 4)), .val (.ref (u 4))] [])) _
              refine XS.aload X191.here hx rfl (hb hby at_46) rfl rfl ?_
              show Steps p.tables e below (T191.setTop (mkF m 48 #[.val (.int p0), .val (.int p1), .val (.int (1 : Int32)), .val (.int (p0 &&& (63 : Int32))), .val (.ref (u 4)), .val (.ref (u 4))] [(.ref (u 4))])) _
              refine XS.ifnullNo X191.here hx rfl (hb hby at_48) rfl ?_
              show Steps p.tables e below (T191.setTop (mkF m 51 #[.val (.int p0), .val (.int p1), .val (.int (1 : Int32)), .val (.int (p0 &&& (63 : Int32))), .val (.ref (u 4)), .val (.ref (u 4))] [])) _
              refine XS.aload X191.here hx rfl (hb hby at_51) rfl rfl ?_
              show Steps p.tables e below (T191.setTop (mkF m 53 #[.val (.int p0), .val (.int p1), .val (.int (1 : Int32)), .val (.int (p0 &&& (63 : Int32))), .val (.ref (u 4)), .val (.ref (u 4))] [(.ref (u 4))])) _
              refine st192.trans ?_
              show Steps p.tables e below (T192.setTop (mkF m 56 #[.val (.int p0), .val (.int p1), .val (.int (1 : Int32)), .val (.int (p0 &&& (63 : Int32))), .val (.ref (u 4)), .val (.ref (u 4))] [(.int (3 : Int32))])) _
              refine XS.iloadN X192.here hx rfl (hb hby at_56) rfl ?_
              show Steps p.tables e below (T192.setTop (mkF m 57 #[.val (.int p0), .val (.int p1), .val (.int (1 : Int32)), .val (.int (p0 &&& (63 : Int32))), .val (.ref (u 4)), .val (.ref (u 4))] [(.int (p0 &&& (63 : Int32))), (.int (3 : Int32))])) _
              refine XS.icmpYes X192.here hx rfl (pc0 := 57) (pc' := 62) rfl (hb hby at_57) rfl (teq hc189).1 (by decide) (by decide) ?_
              show Steps p.tables e below (T192.setTop (mkF m 62 #[.val (.int p0), .val (.int p1), .val (.int (1 : Int32)), .val (.int (p0 &&& (63 : Int32))), .val (.ref (u 4)), .val (.ref (u 4))] [])) _
              refine XS.iconst X192.here hx rfl (hb hby at_62) ?_
              show Steps p.tables e below (T192.setTop (mkF m 63 #[.val (.int p0), .val (.int p1), .val (.int (1 : Int32)), .val (.int (p0 &&& (63 : Int32))), .val (.ref (u 4)), .val (.ref (u 4))] [(.int (1 : Int32))])) _
              exact retN X192 hx (t := .boolean) Bd.returns (by simp) (hb hby at_63) hr
            · show own_Q0 Z u p0 p1 h0 n0 _ T192.heap _
              rw [e192]
              exact ⟨rfl, N192, trivial⟩
          · --
            by_cases hc194 : (33 : Int32) = (p0 &&& (63 : Int32))
            · --
              obtain rfl : vr173 = some (.ref (u 5)) := hv173.trans (by unfold own_r1; rw [if_neg hc174, if_neg hc179, if_neg hc184, if_neg hc189, if_pos hc194])
              have pre195 : ∀ t, Steps p.tables e below (T173.setTop (mkF m 32 #[.val (.int p0), .val (.int p1), .val (.int (1 : Int32)), .val (.int (p0 &&& (63 : Int32))), .val (.ref (u 5)), .unset] [(.int (p0 &&& (63 : Int32)))])) t → Steps p.tables e below (s₁.setTop (entryFrame m #[(.int p0), (.int p1)] maxLocals)) t := fun t kt => pre172 t (by
                show Steps p.tables e below (s₁.setTop (mkF m 26 #[.val (.int p0), .val (.int p1), .val (.int (1 : Int32)), .val (.int (p0 &&& (63 : Int32))), .unset, .unset] [(.int (p0 &&& (63 : Int32)))])) _
                refine st173 _ ?_
                show Steps p.tables e below (T173.setTop (mkF m 29 #[.val (.int p0), .val (.int p1), .val (.int (1 : Int32)), .val (.int (p0 &&& (63 : Int32))), .unset, .unset] [(.ref (u 5))])) _
                refine XS.astore X173.here hx rfl (hb hby at_29) rfl rfl (l' := #[.val (.int p0), .val (.int p1), .val (.int (1 : Int32)), .val (.int (p0 &&& (63 : Int32))), .val (.ref (u 5)), .unset]) rfl ?_
                show Steps p.tables e below (T173.setTop (mkF m 31 #[.val (.int p0), .val (.int p1), .val (.int (1 : Int32)), .val (.int (p0 &&& (63 : Int32))), .val (.ref (u 5)), .unset] [])) _
                refine XS.iloadN X173.here hx rfl (hb hby at_31) rfl ?_
                exact kt)
              obtain ⟨vr196, _, ⟨T196, L196, k196, n196⟩, -, X196, ⟨Lc196, hQ196, l196, y196, z196⟩, st196⟩ := Jvm.LawKit.callS X173 hx (y := (⟨"com/example/portcullis/portcullis/giop/ComponentTagOfPinLaw", "expected", "(I)Lcom/example/portcullis/portcullis/giop/ComponentTag;"⟩ : MethodName)) hown (mvT hZ (hw _ (List.mem_of_getElem? (i := 32) rfl))) (mvT hZ (hw _ (List.mem_of_getElem? (i := 33) rfl))) (mvT hZ (hw _ (List.mem_of_getElem? (i := 34) rfl))) (mvT hZ (hw _ (List.mem_of_getElem? (i := 35) rfl))) (by decide) (backOf (W := 0) (rm3 l Z a0 hw [] u (p0 &&& (63 : Int32)) B T173.heap n0 O173 ) hZ (hw _ (List.mem_of_getElem? (i := 35) rfl)) (hw _ (List.mem_of_getElem? (i := 34) rfl)) (by decide) (by decide)) (g := (mkF m 32 #[.val (.int p0), .val (.int p1), .val (.int (1 : Int32)), .val (.int (p0 &&& (63 : Int32))), .val (.ref (u 5)), .unset] [(.int (p0 &&& (63 : Int32)))])) rfl (by rw [hml]; rfl) (argsL := [(.int (p0 &&& (63 : Int32)))]) (rest := []) (lenOf own_pd1 rfl) rfl (by show 2 * 0 + _ ≤ _; exact Nat.le_of_eq rfl) (hb hby at_32) (fun _ _ => ⟨rfl, rfl, (by decide : 1 + 0 ≤ _), (by decide : 11 + 0 ≤ _)⟩)
              dsimp only [Pt.U, Pt.locs, Pt.cells, Pt.slots] at X196 l196 y196 z196 st196 hQ196
              subst l196 y196 z196
              obtain ⟨hv196, N196q, e196⟩ := hQ196
              have N196 := Fr.app N173 N196q
              obtain rfl : vr196 = some (.ref (u 5)) := hv196.trans (by unfold own_r3; rw [if_neg (fun q => hc174 (Eq.symm q)), if_neg (fun q => hc179 (Eq.symm q)), if_neg (fun q => hc184 (Eq.symm q)), if_neg (fun q => hc189 (Eq.symm q)), if_pos (Eq.symm hc194)])
              obtain ⟨cq197, kq197, q197a, q197b, q197c⟩ := isOf hZ e196 (B.2.2.2.2.2.2.2.2.2.2.2.1.ext O173.2)
              obtain ⟨vr197, _, ⟨T197, L197, k197, n197⟩, -, X197, ⟨Lc197, hQ197, l197, y197, z197⟩, st197⟩ := X196.virtualBack hx (y := (⟨"com/example/portcullis/portcullis/giop/ComponentTag", "code", "()I"⟩ : MethodName)) (z := (⟨"com/example/portcullis/portcullis/giop/ComponentTag", "code", "()I"⟩ : MethodName)) hown (mvT hZ (hw _ (List.mem_of_getElem? (i := 37) rfl))) (mvT hZ (hw _ (List.mem_of_getElem? (i := 38) rfl))) (notFace_of_selects (args := #[]) (mvT hZ (hw _ (List.mem_of_getElem? (i := 40) rfl)))) (mvT hZ (hw _ (List.mem_of_getElem? (i := 40) rfl))) (mvT hZ (hw _ (List.mem_of_getElem? (i := 39) rfl))) (by decide) (backOf (W := 0) (rm4 l Z a0 hw [] u (u 5) (33 : Int32) B T173.heap n0 O173 (B.2.2.2.2.2.2.2.2.2.2.2.2.2.2.2.2.2.2.2.2.2.2.2.2.2.2.2.2.2.1.ext O173.2)) hZ (hw _ (List.mem_of_getElem? (i := 41) rfl)) (hw _ (List.mem_of_getElem? (i := 2) rfl)) (by decide) (by decide)) q197a q197c (g := (mkF m 53 #[.val (.int p0), .val (.int p1), .val (.int (1 : Int32)), .val (.int (p0 &&& (63 : Int32))), .val (.ref (u 5)), .val (.ref (u 5))] [(.ref (u 5))])) rfl (by rw [hml]; rfl) (Steps.refl _) (argsL := []) (rest := []) (lenOf own_pd2 rfl) rfl (by show 2 * 0 + _ ≤ _; exact Nat.le_of_eq rfl) (hb hby at_53) (fun _ _ => ⟨rfl, e196, (by decide : 1 + 0 ≤ _), (by decide : 11 + 0 ≤ _)⟩)
              dsimp only [Pt.U, Pt.locs, Pt.cells, Pt.slots] at X197 l197 y197 z197 st197 hQ197
              subst l197 y197 z197
              obtain ⟨rfl, N197q, e197⟩ := hQ197
              have N197 := Fr.app N196 N197q
              obtain ⟨fs, hr, hrun, hended, hW, hsame⟩ := X197.leave (v := some (.int (1 : Int32))) (fun h => by rw [Bd.returns] at h; cases h)
              refine ⟨_, _, pre195 _ ?_, hrun, hended, _, _, rfl, ?_, ⟨_, rfl⟩, hW, hsame.mono (by decide) (by decide)⟩
              · show Steps p.tables e below (T173.setTop (mkF m 32 #[.val (.int p0), .val (.int p1), .val (.int (1 : Int32)), .val (.int (p0 &&& (63 : Int32))), .val (.ref (u 5)), .unset] [(.int (p0 &&& (63 : Int32)))])) _
                refine st196 _ ?_
                show Steps p.tables e below (T196.setTop (mkF m 35 #[.val (.int p0), .val (.int p1), .val (.int (1 : Int32)), .val (.int (p0 &&& (63 : Int32))), .val (.ref (u 5)), .unset] [(.ref (u 5))])) _
                refine XS.astore X196.here hx rfl (hb hby at_35) rfl rfl (l' := #[.val (.int p0), .val (.int p1), .val (.int (1 : Int32)), .val (.int (p0 &&& (63 : Int32))), .val (.ref (u 5)), .val (.ref (u 5))]) rfl ?_
                show Steps p.tables e below (T196.setTop (mkF m 37 #[.val (.int p0), .val (.int p1), .val (.int (1 : Int32)), .val (.int (p0 &&& (63 : Int32))), .val (.ref (u 5)), .val (.ref (u 5))] [])) _
                refine XS.aload X196.here hx rfl (hb hby at_37) rfl rfl ?_
                show Steps p.tables e below (T196.setTop (mkF m 39 #[.val (.int p0), .val (.int p1), .val (.int (1 : Int32)), .val (.int (p0 &&& (63 : Int32))), .val (.ref (u 5)), .val (.ref (u 5))] [(.ref (u 5))])) _
                refine XS.aload X196.here hx rfl (hb hby at_39) rfl rfl ?_
                show Steps p.tables e below (T196.setTop (mkF m 41 #[.val (.int p0), .val (.int p1), .val (.int (1 : Int32)), .val (.int (p0 &&& (63 : Int32))), .val (.ref (u 5)), .val (.ref (u 5))] [(.ref (u 5)), (.ref (u 5))])) _
                refine Jvm.RoadKit.acmp (g := (mkF m 41 #[.val (.int p0), .val (.int p1), .val (.int (1 : Int32)), .val (.int (p0 &&& (63 : Int32))), .val (.ref (u 5)), .val (.ref (u 5))] [(.ref (u 5)), (.ref (u 5))])) X196 hx rfl rfl rfl (pc0 := 41) (pc' := 46) (same := true) rfl (hb hby at_41) rfl (decide_eq_true rfl) (by decide) (by decide) ?_
                show Steps p.tables e below (T196.setTop (mkF m 46 #[.val (.int p0), .val (.int p1), .val (.int (1 : Int32)), .val (.int (p0 &&& (63 : Int32))), .val (.ref (u 5)), .val (.ref (u 5))] [])) _
                refine XS.aload X196.here hx rfl (hb hby at_46) rfl rfl ?_
                show Steps p.tables e below (T196.setTop (mkF m 48 #[.val (.int p0), .val (.int p1), .val (.int (1 : Int32)), .val (.int (p0 &&& (63 : Int32))), .val (.ref (u 5)), .val (.ref (u 5))] [(.ref (u 5))])) _
                refine XS.ifnullNo X196.here hx rfl (hb hby at_48) rfl ?_
                show Steps p.tables e below (T196.setTop (mkF m 51 #[.val (.int p0), .val (.int p1), .val (.int (1 : Int32)), .val (.int (p0 &&& (63 : Int32))), .val (.ref (u 5)), .val (.ref (u 5))] [])) _
                refine XS.aload X196.here hx rfl (hb hby at_51) rfl rfl ?_
                show Steps p.tables e below (T196.setTop (mkF m 53 #[.val (.int p0), .val (.int p1), .val (.int (1 : Int32)), .val (.int (p0 &&& (63 : Int32))), .val (.ref (u 5)), .val (.ref (u 5))] [(.ref (u 5))])) _
                refine st197.trans ?_
                show Steps p.tables e below (T197.setTop (mkF m 56 #[.val (.int p0), .val (.int p1), .val (.int (1 : Int32)), .val (.int (p0 &&& (63 : Int32))), .val (.ref (u 5)), .val (.ref (u 5))] [(.int (33 : Int32))])) _
                refine XS.iloadN X197.here hx rfl (hb hby at_56) rfl ?_
                show Steps p.tables e below (T197.setTop (mkF m 57 #[.val (.int p0), .val (.int p1), .val (.int (1 : Int32)), .val (.int (p0 &&& (63 : Int32))), .val (.ref (u 5)), .val (.ref (u 5))] [(.int (p0 &&& (63 : Int32))), (.int (33 : Int32))])) _
                refine XS.icmpYes X197.here hx rfl (pc0 := 57) (pc' := 62) rfl (hb hby at_57) rfl (teq hc194).1 (by decide) (by decide) ?_
                show Steps p.tables e below (T197.setTop (mkF m 62 #[.val (.int p0), .val (.int p1), .val (.int (1 : Int32)), .val (.int (p0 &&& (63 : Int32))), .val (.ref (u 5)), .val (.ref (u 5))] [])) _
                refine XS.iconst X197.here hx rfl (hb hby at_62) ?_
                show Steps p.tables e below (T197.setTop (mkF m 63 #[.val (.int p0), .val (.int p1), .val (.int (1 : Int32)), .val (.int (p0 &&& (63 : Int32))), .val (.ref (u 5)), .val (.ref (u 5))] [(.int (1 : Int32))])) _
                exact retN X197 hx (t := .boolean) Bd.returns (by simp) (hb hby at_63) hr
              · show own_Q0 Z u p0 p1 h0 n0 _ T197.heap _
                rw [e197]
                exact ⟨rfl, N197, trivial⟩
            · --
              by_cases hc199 : (34 : Int32) = (p0 &&& (63 : Int32))
              · --
                obtain rfl : vr173 = some (.ref (u 6)) := hv173.trans (by unfold own_r1; rw [if_neg hc174, if_neg hc179, if_neg hc184, if_neg hc189, if_neg hc194, if_pos hc199])
                have pre200 : ∀ t, Steps p.tables e below (T173.setTop (mkF m 32 #[.val (.int p0), .val (.int p1), .val (.int (1 : Int32)), .val (.int (p0 &&& (63 : Int32))), .val (.ref (u 6)), .unset] [(.int (p0 &&& (63 : Int32)))])) t → Steps p.tables e below (s₁.setTop (entryFrame m #[(.int p0), (.int p1)] maxLocals)) t := fun t kt => pre172 t (by
                  show Steps p.tables e below (s₁.setTop (mkF m 26 #[.val (.int p0), .val (.int p1), .val (.int (1 : Int32)), .val (.int (p0 &&& (63 : Int32))), .unset, .unset] [(.int (p0 &&& (63 : Int32)))])) _
                  refine st173 _ ?_
                  show Steps p.tables e below (T173.setTop (mkF m 29 #[.val (.int p0), .val (.int p1), .val (.int (1 : Int32)), .val (.int (p0 &&& (63 : Int32))), .unset, .unset] [(.ref (u 6))])) _
                  refine XS.astore X173.here hx rfl (hb hby at_29) rfl rfl (l' := #[.val (.int p0), .val (.int p1), .val (.int (1 : Int32)), .val (.int (p0 &&& (63 : Int32))), .val (.ref (u 6)), .unset]) rfl ?_
                  show Steps p.tables e below (T173.setTop (mkF m 31 #[.val (.int p0), .val (.int p1), .val (.int (1 : Int32)), .val (.int (p0 &&& (63 : Int32))), .val (.ref (u 6)), .unset] [])) _
                  refine XS.iloadN X173.here hx rfl (hb hby at_31) rfl ?_
                  exact kt)
                obtain ⟨vr201, _, ⟨T201, L201, k201, n201⟩, -, X201, ⟨Lc201, hQ201, l201, y201, z201⟩, st201⟩ := Jvm.LawKit.callS X173 hx (y := (⟨"com/example/portcullis/portcullis/giop/ComponentTagOfPinLaw", "expected", "(I)Lcom/example/portcullis/portcullis/giop/ComponentTag;"⟩ : MethodName)) hown (mvT hZ (hw _ (List.mem_of_getElem? (i := 32) rfl))) (mvT hZ (hw _ (List.mem_of_getElem? (i := 33) rfl))) (mvT hZ (hw _ (List.mem_of_getElem? (i := 34) rfl))) (mvT hZ (hw _ (List.mem_of_getElem? (i := 35) rfl))) (by decide) (backOf (W := 0) (rm3 l Z a0 hw [] u (p0 &&& (63 : Int32)) B T173.heap n0 O173 ) hZ (hw _ (List.mem_of_getElem? (i := 35) rfl)) (hw _ (List.mem_of_getElem? (i := 34) rfl)) (by decide) (by decide)) (g := (mkF m 32 #[.val (.int p0), .val (.int p1), .val (.int (1 : Int32)), .val (.int (p0 &&& (63 : Int32))), .val (.ref (u 6)), .unset] [(.int (p0 &&& (63 : Int32)))])) rfl (by rw [hml]; rfl) (argsL := [(.int (p0 &&& (63 : Int32)))]) (rest := []) (lenOf own_pd1 rfl) rfl (by show 2 * 0 + _ ≤ _; exact Nat.le_of_eq rfl) (hb hby at_32) (fun _ _ => ⟨rfl, rfl, (by decide : 1 + 0 ≤ _), (by decide : 11 + 0 ≤ _)⟩)
                dsimp only [Pt.U, Pt.locs, Pt.cells, Pt.slots] at X201 l201 y201 z201 st201 hQ201
                subst l201 y201 z201
                obtain ⟨hv201, N201q, e201⟩ := hQ201
                have N201 := Fr.app N173 N201q
                obtain rfl : vr201 = some (.ref (u 6)) := hv201.trans (by unfold own_r3; rw [if_neg (fun q => hc174 (Eq.symm q)), if_neg (fun q => hc179 (Eq.symm q)), if_neg (fun q => hc184 (Eq.symm q)), if_neg (fun q => hc189 (Eq.symm q)), if_neg (fun q => hc194 (Eq.symm q)), if_pos (Eq.symm hc199)])
                obtain ⟨cq202, kq202, q202a, q202b, q202c⟩ := isOf hZ e201 (B.2.2.2.2.2.2.2.2.2.2.2.2.2.1.ext O173.2)
                obtain ⟨vr202, _, ⟨T202, L202, k202, n202⟩, -, X202, ⟨Lc202, hQ202, l202, y202, z202⟩, st202⟩ := X201.virtualBack hx (y := (⟨"com/example/portcullis/portcullis/giop/ComponentTag", "code", "()I"⟩ : MethodName)) (z := (⟨"com/example/portcullis/portcullis/giop/ComponentTag", "code", "()I"⟩ : MethodName)) hown (mvT hZ (hw _ (List.mem_of_getElem? (i := 37) rfl))) (mvT hZ (hw _ (List.mem_of_getElem? (i := 38) rfl))) (notFace_of_selects (args := #[]) (mvT hZ (hw _ (List.mem_of_getElem? (i := 40) rfl)))) (mvT hZ (hw _ (List.mem_of_getElem? (i := 40) rfl))) (mvT hZ (hw _ (List.mem_of_getElem? (i := 39) rfl))) (by decide) (backOf (W := 0) (rm4 l Z a0 hw [] u (u 6) (34 : Int32) B T173.heap n0 O173 (B.2.2.2.2.2.2.2.2.2.2.2.2.2.2.2.2.2.2.2.2.2.2.2.2.2.2.2.2.2.2.1.ext O173.2)) hZ (hw _ (List.mem_of_getElem? (i := 41) rfl)) (hw _ (List.mem_of_getElem? (i := 2) rfl)) (by decide) (by decide)) q202a q202c (g := (mkF m 53 #[.val (.int p0), .val (.int p1), .val (.int (1 : Int32)), .val (.int (p0 &&& (63 : Int32))), .val (.ref (u 6)), .val (.ref (u 6))] [(.ref (u 6))])) rfl (by rw [hml]; rfl) (Steps.refl _) (argsL := []) (rest := []) (lenOf own_pd2 rfl) rfl (by show 2 * 0 + _ ≤ _; exact Nat.le_of_eq rfl) (hb hby at_53) (fun _ _ => ⟨rfl, e201, (by decide : 1 + 0 ≤ _), (by decide : 11 + 0 ≤ _)⟩)
                dsimp only [Pt.U, Pt.locs, Pt.cells, Pt.slots] at X202 l202 y202 z202 st202 hQ202
                subst l202 y202 z202
                obtain ⟨rfl, N202q, e202⟩ := hQ202
                have N202 := Fr.app N201 N202q
                obtain ⟨fs, hr, hrun, hended, hW, hsame⟩ := X202.leave (v := some (.int (1 : Int32))) (fun h => by rw [Bd.returns] at h; cases h)
                refine ⟨_, _, pre200 _ ?_, hrun, hended, _, _, rfl, ?_, ⟨_, rfl⟩, hW, hsame.mono (by decide) (by decide)⟩
                · show Steps p.tables e below (T173.setTop (mkF m 32 #[.val (.int p0), .val (.int p1), .val (.int (1 : Int32)), .val (.int (p0 &&& (63 : Int32))), .val (.ref (u 6)), .unset] [(.int (p0 &&& (63 : Int32)))])) _
                  refine st201 _ ?_
                  show Steps p.tables e below (T201.setTop (mkF m 35 #[.val (.int p0), .val (.int p1), .val (.int (1 : Int32)), .val (.int (p0 &&& (63 : Int32))), .val (.ref (u 6)), .unset] [(.ref (u 6))])) _
                  refine XS.astore X201.here hx rfl (hb hby at_35) rfl rfl (l' := #[.val (.int p0), .val (.int p1), .val (.int (1 : Int32)), .val (.int (p0 &&& (63 : Int32))), .val (.ref (u 6)), .val (.ref (u 6))]) rfl ?_
                  show Steps p.tables e below (T201.setTop (mkF m 37 #[.val (.int p0), .val (.int p1), .val (.int (1 : Int32)), .val (.int (p0 &&& (63 : Int32))), .val (.ref (u 6)), .val (.ref (u 6))] [])) _
                  refine XS.aload X201.here hx rfl (hb hby at_37) rfl rfl ?_
                  show Steps p.tables e below (T201.setTop (mkF m 39 #[.val (.int p0), .val (.int p1), .val (.int (1 : Int32)), .val (.int (p0 &&& (63 : Int32))), .val (.ref (u 6)), .val (.ref (u 6))] [(.ref (u 6))])) _
                  refine XS.aload X201.here hx rfl (hb hby at_39) rfl rfl ?_
                  show Steps p.tables e below (T201.setTop (mkF m 41 #[.val (.int p0), .val (.int p1), .val (.int (1 : Int32)), .val (.int (p0 &&& (63 : Int32))), .val (.ref (u 6)), .val (.ref (u 6))] [(.ref (u 6)), (.ref (u 6))])) _
                  refine Jvm.RoadKit.acmp (g := (mkF m 41 #[.val (.int p0), .val (.int p1), .val (.int (1 : Int32)), .val (.int (p0 &&& (63 : Int32))), .val (.ref (u 6)), .val (.ref (u 6))] [(.ref (u 6)), (.ref (u 6))])) X201 hx rfl rfl rfl (pc0 := 41) (pc' := 46) (same := true) rfl (hb hby at_41) rfl (decide_eq_true rfl) (by decide) (by decide) ?_
                  show Steps p.tables e below (T201.setTop (mkF m 46 #[.val (.int p0), .val (.int p1), .val (.int (1 : Int32)), .val (.int (p0 &&& (63 : Int32))), .val (.ref (u 6)), .val (.ref (u 6))] [])) _
                  refine XS.aload X201.here hx rfl (hb hby at_46) rfl rfl ?_
                  show Steps p.tables e below (T201.setTop (mkF m 48 #[.val (.int p0), .val (.int p1), .val (.int (1 : Int32)), .val (.int (p0 &&& (63 : Int32))), .val (.ref (u 6)), .val (.ref (u 6))] [(.ref (u 6))])) _
                  refine XS.ifnullNo X201.here hx rfl (hb hby at_48) rfl ?_
                  show Steps p.tables e below (T201.setTop (mkF m 51 #[.val (.int p0), .val (.int p1), .val (.int (1 : Int32)), .val (.int (p0 &&& (63 : Int32))), .val (.ref (u 6)), .val (.ref (u 6))] [])) _
                  refine XS.aload X201.here hx rfl (hb hby at_51) rfl rfl ?_
                  show Steps p.tables e below (T201.setTop (mkF m 53 #[.val (.int p0), .val (.int p1), .val (.int (1 : Int32)), .val (.int (p0 &&& (63 : Int32))), .val (.ref (u 6)), .val (.ref (u 6))] [(.ref (u 6))])) _
                  refine st202.trans ?_
                  show Steps p.tables e below (T202.setTop (mkF m 56 #[.val (.int p0), .val (.int p1), .val (.int (1 : Int32)), .val (.int (p0 &&& (63 : Int32))), .val (.ref (u 6)), .val (.ref (u 6))] [(.int (34 : Int32))])) _
                  refine XS.iloadN X202.here hx rfl (hb hby at_56) rfl ?_
                  show Steps p.tables e below (T202.setTop (mkF m 57 #[.val (.int p0), .val (.int p1), .val (.int (1 : Int32)), .val (.int (p0 &&& (63 : Int32))), .val (.ref (u 6)), .val (.ref (u 6))] [(.int (p0 &&& (63 : Int32))), (.int (34 : Int32))])) _
                  refine XS.icmpYes X202.here hx rfl (pc0 := 57) (pc' := 62) rfl (hb hby at_57) rfl (teq hc199).1 (by decide) (by decide) ?_
                  show Steps p.tables e below (T202.setTop (mkF m 62 #[.val (.int p0), .val (.int p1), .val (.int (1 : Int32)), .val (.int (p0 &&& (63 : Int32))), .val (.ref (u 6)), .val (.ref (u 6))] [])) _
                  refine XS.iconst X202.here hx rfl (hb hby at_62) ?_
                  show Steps p.tables e below (T202.setTop (mkF m 63 #[.val (.int p0), .val (.int p1), .val (.int (1 : Int32)), .val (.int (p0 &&& (63 : Int32))), .val (.ref (u 6)), .val (.ref (u 6))] [(.int (1 : Int32))])) _
                  exact retN X202 hx (t := .boolean) Bd.returns (by simp) (hb hby at_63) hr
                · show own_Q0 Z u p0 p1 h0 n0 _ T202.heap _
                  rw [e202]
                  exact ⟨rfl, N202, trivial⟩
              · --
                by_cases hc204 : (35 : Int32) = (p0 &&& (63 : Int32))
                · --
                  obtain rfl : vr173 = some (.ref (u 7)) := hv173.trans (by unfold own_r1; rw [if_neg hc174, if_neg hc179, if_neg hc184, if_neg hc189, if_neg hc194, if_neg hc199, if_pos hc204])
                  have pre205 : ∀ t, Steps p.tables e below (T173.setTop (mkF m 32 #[.val (.int p0), .val (.int p1), .val (.int (1 : Int32)), .val (.int (p0 &&& (63 : Int32))), .val (.ref (u 7)), .unset] [(.int (p0 &&& (63 : Int32)))])) t → Steps p.tables e below (s₁.setTop (entryFrame m #[(.int p0), (.int p1)] maxLocals)) t := fun t kt => pre172 t (by
                    show Steps p.tables e below (s₁.setTop (mkF m 26 #[.val (.int p0), .val (.int p1), .val (.int (1 : Int32)), .val (.int (p0 &&& (63 : Int32))), .unset, .unset] [(.int (p0 &&& (63 : Int32)))])) _
                    refine st173 _ ?_
                    show Steps p.tables e below (T173.setTop (mkF m 29 #[.val (.int p0), .val (.int p1), .val (.int (1 : Int32)), .val (.int (p0 &&& (63 : Int32))), .unset, .unset] [(.ref (u 7))])) _
                    refine XS.astore X173.here hx rfl (hb hby at_29) rfl rfl (l' := #[.val (.int p0), .val (.int p1), .val (.int (1 : Int32)), .val (.int (p0 &&& (63 : Int32))), .val (.ref (u 7)), .unset]) rfl ?_
                    show Steps p.tables e below (T173.setTop (mkF m 31 #[.val (.int p0), .val (.int p1), .val (.int (1 : Int32)), .val (.int (p0 &&& (63 : Int32))), .val (.ref (u 7)), .unset] [])) _
                    refine XS.iloadN X173.here hx rfl (hb hby at_31) rfl ?_
                    exact kt)
                  obtain ⟨vr206, _, ⟨T206, L206, k206, n206⟩, -, X206, ⟨Lc206, hQ206, l206, y206, z206⟩, st206⟩ := Jvm.LawKit.callS X173 hx (y := (⟨"com/example/portcullis/portcullis/giop/ComponentTagOfPinLaw", "expected", "(I)Lcom/example/portcullis/portcullis/giop/ComponentTag;"⟩ : MethodName)) hown (mvT hZ (hw _ (List.mem_of_getElem? (i := 32) rfl))) (mvT hZ (hw _ (List.mem_of_getElem? (i := 33) rfl))) (mvT hZ (hw _ (List.mem_of_getElem? (i := 34) rfl))) (mvT hZ (hw _ (List.mem_of_getElem? (i := 35) rfl))) (by decide) (backOf (W := 0) (rm3 l Z a0 hw [] u (p0 &&& (63 : Int32)) B T173.heap n0 O173 ) hZ (hw _ (List.mem_of_getElem? (i := 35) rfl)) (hw _ (List.mem_of_getElem? (i := 34) rfl)) (by decide) (by decide)) (g := (mkF m 32 #[.val (.int p0), .val (.int p1), .val (.int (1 : Int32)), .val (.int (p0 &&& (63 : Int32))), .val (.ref (u 7)), .unset] [(.int (p0 &&& (63 : Int32)))])) rfl (by rw [hml]; rfl) (argsL := [(.int (p0 &&& (63 : Int32)))]) (rest := []) (lenOf own_pd1 rfl) rfl (by show 2 * 0 + _ ≤ _; exact Nat.le_of_eq rfl) (hb hby at_32) (fun _ _ => ⟨rfl, rfl, (by decide : 1 + 0 ≤ _), (by decide : 11 + 0 ≤ _)⟩)
                  dsimp only [Pt.U, Pt.locs, Pt.cells, Pt.slots] at X206 l206 y206 z206 st206 hQ206
                  subst l206 y206 z206
                  obtain ⟨hv206, N206q, e206⟩ := hQ206
                  have N206 := Fr.app N173 N206q
                  obtain rfl : vr206 = some (.ref (u 7)) := hv206.trans (by unfold own_r3; rw [if_neg (fun q => hc174 (Eq.symm q)), if_neg (fun q => hc179 (Eq.symm q)), if_neg (fun q => hc184 (Eq.symm q)), if_neg (fun q => hc189 (Eq.symm q)), if_neg (fun q => hc194 (Eq.symm q)), if_neg (fun q => hc199 (Eq.symm q)), if_pos (Eq.symm hc204)])
                  obtain ⟨cq207, kq207, q207a, q207b, q207c⟩ := isOf hZ e206 (B.2.2.2.2.2.2.2.2.2.2.2.2.2.2.2.1.ext O173.2)
                  obtain ⟨vr207, _, ⟨T207, L207, k207, n207⟩, -, X207, ⟨Lc207, hQ207, l207, y207, z207⟩, st207⟩ := X206.virtualBack hx (y := (⟨"com/example/portcullis/portcullis/giop/ComponentTag", "code", "()I"⟩ : MethodName)) (z := (⟨"com/example/portcullis/portcullis/giop/ComponentTag", "code", "()I"⟩ : MethodName)) hown (mvT hZ (hw _ (List.mem_of_getElem? (i := 37) rfl))) (mvT hZ (hw _ (List.mem_of_getElem? (i := 38) rfl))) (notFace_of_selects (args := #[]) (mvT hZ (hw _ (List.mem_of_getElem? (i := 40) rfl)))) (mvT hZ (hw _ (List.mem_of_getElem? (i := 40) rfl))) (mvT hZ (hw _ (List.mem_of_getElem? (i := 39) rfl))) (by decide) (backOf (W := 0) (rm4 l Z a0 hw [] u (u 7) (35 : Int32) B T173.heap n0 O173 (B.2.2.2.2.2.2.2.2.2.2.2.2.2.2.2.2.2.2.2.2.2.2.2.2.2.2.2.2.2.2.2.1.ext O173.2)) hZ (hw _ (List.mem_of_getElem? (i := 41) rfl)) (hw _ (List.mem_of_getElem? (i := 2) rfl)) (by decide) (by decide)) q207a q207c (g := (mkF m 53 #[.val (.int p0), .val (.int p1), .val (.int (1 : Int32)), .val (.int (p0 &&& (63 : Int32))), .val (.ref (u 7)), .val (.ref (u 7))] [(.ref (u 7))])) rfl (by rw [hml]; rfl) (Steps.refl _) (argsL := []) (rest := []) (lenOf own_pd2 rfl) rfl (by show 2 * 0 + _ ≤ _; exact Nat.le_of_eq rfl) (hb hby at_53) (fun _ _ => ⟨rfl, e206, (by decide : 1 + 0 ≤ _), (by decide : 11 + 0 ≤ _)⟩)
                  dsimp only [Pt.U, Pt.locs, Pt.cells, Pt.slots] at X207 l207 y207 z207 st207 hQ207
                  subst l207 y207 z207
                  obtain ⟨rfl, N207q, e207⟩ := hQ207
                  have N207 := Fr.app N206 N207q
                  obtain ⟨fs, hr, hrun, hended, hW, hsame⟩ := X207.leave (v := some (.int (1 : Int32))) (fun h => by rw [Bd.returns] at h; cases h)
                  refine ⟨_, _, pre205 _ ?_, hrun, hended, _, _, rfl, ?_, ⟨_, rfl⟩, hW, hsame.mono (by decide) (by decide)⟩
                  · show Steps p.tables e below (T173.setTop (mkF m 32 #[.val (.int p0), .val (.int p1), .val (.int (1 : Int32)), .val (.int (p0 &&& (63 : Int32))), .val (.ref (u 7)), .unset] [(.int (p0 &&& (63 : Int32)))])) _
                    refine st206 _ ?_
                    show Steps p.tables e below (T206.setTop (mkF m 35 #[.val (.int p0), .val (.int p1), .val (.int (1 : Int32)), .val (.int (p0 &&& (63 : Int32))), .val (.ref (u 7)), .unset] [(.ref (u 7))])) _
                    refine XS.astore X206.here hx rfl (hb hby at_35) rfl rfl (l' := #[.val (.int p0), .val (.int p1), .val (.int (1 : Int32)), .val (.int (p0 &&& (63 : Int32))), .val (.ref (u 7)), .val (.ref (u 7))]) rfl ?_
                    show Steps p.tables e below (T206.setTop (mkF m 37 #[.val (.int p0), .val (.int p1), .val (.int (1 : Int32)), .val (.int (p0 &&& (63 : Int32))), .val (.ref (u 7)), .val (.ref (u 7))] [])) _
                    refine XS.aload X206.here hx rfl (hb hby at_37) rfl rfl ?_
                    show Steps p.tables e below (T206.setTop (mkF m 39 #[.val (.int p0), .val (.int p1), .val (.int (1 : Int32)), .val (.int (p0 &&& (63 : Int32))), .val (.ref (u 7)), .val (.ref (u 7))] [(.ref (u 7))])) _
                    refine XS.aload X206.here hx rfl (hb hby at_39) rfl rfl ?_
                    show Steps p.tables e below (T206.setTop (mkF m 41 #[.val (.int p0), .val (.int p1), .val (.int (1 : Int32)), .val (.int (p0 &&& (63 : Int32))), .val (.ref (u 7)), .val (.ref (u 7))] [(.ref (u 7)), (.ref (u 7))])) _
                    refine Jvm.RoadKit.acmp (g := (mkF m 41 #[.val (.int p0), .val (.int p1), .val (.int (1 : Int32)), .val (.int (p0 &&& (63 : Int32))), .val (.ref (u 7)), .val (.ref (u 7))] [(.ref (u 7)), (.ref (u 7))])) X206 hx rfl rfl rfl (pc0 := 41) (pc' := 46) (same := true) rfl (hb hby at_41) rfl (decide_eq_true rfl) (by decide) (by decide) ?_
                    show Steps p.tables e below (T206.setTop (mkF m 46 #[.val (.int p0), .val (.int p1), .val (.int (1 : Int32)), .val (.int (p0 &&& (63 : Int32))), .val (.ref (u 7)), .val (.ref (u 7))] [])) _
                    refine XS.aload X206.here hx rfl (hb hby at_46) rfl rfl ?_
                    show Steps p.tables e below (T206.setTop (mkF m 48 #[.val (.int p0), .val (.int p1), .val (.int (1 : Int32)), .val (.int (p0 &&& (63 : Int32))), .val (.ref (u 7)), .val (.ref (u 7))] [(.ref (u 7))])) _
                    refine XS.ifnullNo X206.here hx rfl (hb hby at_48) rfl ?_
                    show Steps p.tables e below (T206.setTop (mkF m 51 #[.val (.int p0), .val (.int p1), .val (.int (1 : Int32)), .val (.int (p0 &&& (63 : Int32))), .val (.ref (u 7)), .val (.ref (u 7))] [])) _
                    refine XS.aload X206.here hx rfl (hb hby at_51) rfl rfl ?_
                    show Steps p.tables e below (T206.setTop (mkF m 53 #[.val (.int p0), .val (.int p1), .val (.int (1 : Int32)), .val (.int (p0 &&& (63 : Int32))), .val (.ref (u 7)), .val (.ref (u 7))] [(.ref (u 7))])) _
                    refine st207.trans ?_
                    show Steps p.tables e below (T207.setTop (mkF m 56 #[.val (.int p0), .val (.int p1), .val (.int (1 : Int32)), .val (.int (p0 &&& (63 : Int32))), .val (.ref (u 7)), .val (.ref (u 7))] [(.int (35 : Int32))])) _
                    refine XS.iloadN X207.here hx rfl (hb hby at_56) rfl ?_
                    show Steps p.tables e below (T207.setTop (mkF m 57 #[.val (.int p0), .val (.int p1), .val (.int (1 : Int32)), .val (.int (p0 &&& (63 : Int32))), .val (.ref (u 7)), .val (.ref (u 7))] [(.int (p0 &&& (63 : Int32))), (.int (35 : Int32))])) _
                    refine XS.icmpYes X207.here hx rfl (pc0 := 57) (pc' := 62) rfl (hb hby at_57) rfl (teq hc204).1 (by decide) (by decide) ?_
                    show Steps p.tables e below (T207.setTop (mkF m 62 #[.val (.int p0), .val (.int p1), .val (.int (1 : Int32)), .val (.int (p0 &&& (63 : Int32))), .val (.ref (u 7)), .val (.ref (u 7))] [])) _
                    refine XS.iconst X207.here hx rfl (hb hby at_62) ?_
                    show Steps p.tables e below (T207.setTop (mkF m 63 #[.val (.int p0), .val (.int p1), .val (.int (1 : Int32)), .val (.int (p0 &&& (63 : Int32))), .val (.ref (u 7)), .val (.ref (u 7))] [(.int (1 : Int32))])) _
                    exact retN X207 hx (t := .boolean) Bd.returns (by simp) (hb hby at_63) hr
                  · show own_Q0 Z u p0 p1 h0 n0 _ T207.heap _
                    rw [e207]
                    exact ⟨rfl, N207, trivial⟩
                · --
                  by_cases hc209 : (36 : Int32) = (p0 &&& (63 : Int32))
                  · --
                    obtain rfl : vr173 = some (.ref (u 8)) := hv173.trans (by unfold own_r1; rw [if_neg hc174, if_neg hc179, if_neg hc184, if_neg hc189, if_neg hc194, if_neg hc199, if_neg hc204, if_pos hc209])
                    have pre210 : ∀ t, Steps p.tables e below (T173.setTop (mkF m 32 #[.val (.int p0), .val (.int p1), .val (.int (1 : Int32)), .val (.int (p0 &&& (63 : Int32))), .val (.ref (u 8)), .unset] [(.int (p0 &&& (63 : Int32)))])) t → Steps p.tables e below (s₁.setTop (entryFrame m #[(.int p0), (.int p1)] maxLocals)) t := fun t kt => pre172 t (by
                      show Steps p.tables e below (s₁.setTop (mkF m 26 #[.val (.int p0), .val (.int p1), .val (.int (1 : Int32)), .val (.int (p0 &&& (63 : Int32))), .unset, .unset] [(.int (p0 &&& (63 : Int32)))])) _
                      refine st173 _ ?_
                      show Steps p.tables e below (T173.setTop (mkF m 29 #[.val (.int p0), .val (.int p1), .val (.int (1 : Int32)), .val (.int (p0 &&& (63 : Int32))), .unset, .unset] [(.ref (u 8))])) _
                      refine XS.astore X173.here hx rfl (hb hby at_29) rfl rfl (l' := #[.val (.int p0), .val (.int p1), .val (.int (1 : Int32)), .val (.int (p0 &&& (63 : Int32))), .val (.ref (u 8)), .unset]) rfl ?_
                      show Steps p.tables e below (T173.setTop (mkF m 31 #[.val (.int p0), .val (.int p1), .val (.int (1 : Int32)), .val (.int (p0 &&& (63 : Int32))), .val (.ref (u 8)), .unset] [])) _
                      refine XS.iloadN X173.here hx rfl (hb hby at_31) rfl ?_
                      exact kt)
                    obtain ⟨vr211, _, ⟨T211, L211, k211, n211⟩, -, X211, ⟨Lc211, hQ211, l211, y211, z211⟩, st211⟩ := Jvm.LawKit.callS X173 hx (y := (⟨"com/example/portcullis/portcullis/giop/ComponentTagOfPinLaw", "expected", "(I)Lcom/example/portcullis/portcullis/giop/ComponentTag;"⟩ : MethodName)) hown (mvT hZ (hw _ (List.mem_of_getElem? (i := 32) rfl))) (mvT hZ (hw _ (List.mem_of_getElem? (i := 33) rfl))) (mvT hZ (hw _ (List.mem_of_getElem? (i := 34) rfl))) (mvT hZ (hw _ (List.mem_of_getElem? (i := 35) rfl))) (by decide) (backOf (W := 0) (rm3 l Z a0 hw [] u (p0 &&& (63 : Int32)) B T173.heap n0 O173 ) hZ (hw _ (List.mem_of_getElem? (i := 35) rfl)) (hw _ (List.mem_of_getElem? (i := 34) rfl)) (by decide) (by decide)) (g := (mkF m 32 #[.val (.int p0), .val (.int p1), .val (.int (1 : Int32)), .val (.int (p0 &&& (63 : Int32))), .val (.ref (u 8)), .unset] [(.int (p0 &&& (63 : Int32)))])) rfl (by rw [hml]; rfl) (argsL := [(.int (p0 &&& (63 : Int32)))]) (rest := []) (lenOf own_pd1 rfl) rfl (by show 2 * 0 + _ ≤ _; exact Nat.le_of_eq rfl) (hb hby at_32) (fun _ _ => ⟨rfl, rfl, (by decide : 1 + 0 ≤ _), (by decide : 11 + 0 ≤ _)⟩)
                    dsimp only [Pt.U, Pt.locs, Pt.cells, Pt.slots] at X211 l211 y211 z211 st211 hQ211
                    subst l211 y211 z211
                    obtain ⟨hv211, N211q, e211⟩ := hQ211
                    have N211 := Fr.app N173 N211q
                    obtain rfl : vr211 = some (.ref (u 8)) := hv211.trans (by unfold own_r3; rw [if_neg (fun q => hc174 (Eq.symm q)), if_neg (fun q => hc179 (Eq.symm q)), if_neg (fun q => hc184 (Eq.symm q)), if_neg (fun q => hc189 (Eq.symm q)), if_neg (fun q => hc194 (Eq.symm q)), if_neg (fun q => hc199 (Eq.symm q)), if_neg (fun q => hc204 (Eq.symm q)), if_pos (Eq.symm hc209)])
                    obtain ⟨cq212, kq212, q212a, q212b, q212c⟩ := isOf hZ e211 (B.2.2.2.2.2.2.2.2.2.2.2.2.2.2.2.2.2.1.ext O173.2)
                    obtain ⟨vr212, _, ⟨T212, L212, k212, n212⟩, -, X212, ⟨Lc212, hQ212, l212, y212, z212⟩, st212⟩ := X211.virtualBack hx (y := (⟨"com/example/portcullis/portcullis/giop/ComponentTag", "code", "()I"⟩ : MethodName)) (z := (⟨"com/example/portcullis/portcullis/giop/ComponentTag", "code", "()I"⟩ : MethodName)) hown (mvT hZ (hw _ (List.mem_of_getElem? (i := 37) rfl))) (mvT hZ (hw _ (List.mem_of_getElem? (i := 38) rfl))) (notFace_of_selects (args := #[]) (mvT hZ (hw _ (List.mem_of_getElem? (i := 40) rfl)))) (mvT hZ (hw _ (List.mem_of_getElem? (i := 40) rfl))) (mvT hZ (hw _ (List.mem_of_getElem? (i := 39) rfl))) (by decide) (backOf (W := 0) (rm4 l Z a0 hw [] u (u 8) (36 : Int32) B T173.heap n0 O173 (B.2.2.2.2.2.2.2.2.2.2.2.2.2.2.2.2.2.2.2.2.2.2.2.2.2.2.2.2.2.2.2.2.1.ext O173.2)) hZ (hw _ (List.mem_of_getElem? (i := 41) rfl)) (hw _ (List.mem_of_getElem? (i := 2) rfl)) (by decide) (by decide)) q212a q212c (g := (mkF m 53 #[.val (.int p0), .val (.int p1), .val (.int (1 : Int32)), .val (.int (p0 &&& (63 : Int32))), .val (.ref (u 8)), .val (.ref (u 8))] [(.ref (u 8))])) rfl (by rw [hml]; rfl) (Steps.refl _) (argsL := []) (rest := []) (lenOf own_pd2 rfl) rfl (by show 2 * 0 + _ ≤ _; exact Nat.le_of_eq rfl) (hb hby at_53) (fun _ _ => ⟨rfl, e211, (by decide : 1 + 0 ≤ _), (by decide : 11 + 0 ≤ _)⟩)
                    dsimp only [Pt.U, Pt.locs, Pt.cells, Pt.slots] at X212 l212 y212 z212 st212 hQ212
                    subst l212 y212 z212
                    obtain ⟨rfl, N212q, e212⟩ := hQ212
                    have N212 := Fr.app N211 N212q
                    obtain ⟨fs, hr, hrun, hended, hW, hsame⟩ := X212.leave (v := some (.int (1 : Int32))) (fun h => by rw [Bd.returns] at h; cases h)
                    refine ⟨_, _, pre210 _ ?_, hrun, hended, _, _, rfl, ?_, ⟨_, rfl⟩, hW, hsame.mono (by decide) (by decide)⟩
                    · show Steps p.tables e below (T173.setTop (mkF m 32 #[.val (.int p0), .val (.int p1), .val (.int (1 : Int32)), .val (.int (p0 &&& (63 : Int32))), .val (.ref (u 8)), .unset] [(.int (p0 &&& (63 : Int32)))])) _
                      refine st211 _ ?_
                      show Steps p.tables e below (T211.setTop (mkF m 35 #[.val (.int p0), .val (.int p1), .val (.int (1 : Int32)), .val (.int (p0 &&& (63 : Int32))), .val (.ref (u 8)), .unset] [(.ref (u 8))])) _
                      refine XS.astore X211.here hx rfl (hb hby at_35) rfl rfl (l' := #[.val (.int p0), .val (.int p1), .val (.int (1 : Int32)), .val (.int (p0 &&& (63 : Int32))), .val (.ref (u 8)), .val (.ref (u 8))]) rfl ?_
                      show Steps p.tables e below (T211.setTop (mkF m 37 #[.val (.int p0), .val (.int p1), .val (.int (1 : Int32)), .val (.int (p0 &&& (63 : Int32))), .val (.ref (u 8)), .val (.ref (u 8))] [])) _
                      refine XS.aload X211.here hx rfl (hb hby at_37) rfl rfl ?_
                      show Steps p.tables e below (T211.setTop (mkF m 39 #[.val (.int p0), .val (.int p1), .val (.int (1 : Int32)), .val (.int (p0 &&& (63 : Int32))), .val (.ref (u 8)), .val (.ref (u 8))] [(.ref (u 8))])) _
                      refine XS.aload X211.here hx rfl (hb hby at_39) rfl rfl ?_
                      show Steps p.tables e below (T211.setTop (mkF m 41 #[.val (.int p0), .val (.int p1), .val (.int (1 : Int32)), .val (.int (p0 &&& (63 : Int32))), .val (.ref (u 8)), .val (.ref (u 8))] [(.ref (u 8)), (.ref (u 8))])) _
                      refine Jvm.RoadKit.acmp (g := (mkF m 41 #[.val (.int p0), .val (.int p1), .val (.int (1 : Int32)), .val (.int (p0 &&& (63 : Int32))), .val (.ref (u 8)), .val (.ref (u 8))] [(.ref (u 8)), (.ref (u 8))])) X211 hx rfl rfl rfl (pc0 := 41) (pc' := 46) (same := true) rfl (hb hby at_41) rfl (decide_eq_true rfl) (by decide) (by decide) ?_
                      show Steps p.tables e below (T211.setTop (mkF m 46 #[.val (.int p0), .val (.int p1), .val (.int (1 : Int32)), .val (.int (p0 &&& (63 : Int32))), .val (.ref (u 8)), .val (.ref (u 8))] [])) _
                      refine XS.aload X211.here hx rfl (hb hby at_46) rfl rfl ?_
                      show Steps p.tables e below (T211.setTop (mkF m 48 #[.val (.int p0), .val (.int p1), .val (.int (1 : Int32)), .val (.int (p0 &&& (63 : Int32))), .val (.ref (u 8)), .val (.ref (u 8))] [(.ref (u 8))])) _
                      refine XS.ifnullNo X211.here hx rfl (hb hby at_48) rfl ?_
                      show Steps p.tables e below (T211.setTop (mkF m 51 #[.val (.int p0), .val (.int p1), .val (.int (1 : Int32)), .val (.int (p0 &&& (63 : Int32))), .val (.ref (u 8)), .val (.ref (u 8))] [])) _
                      refine XS.aload X211.here hx rfl (hb hby at_51) rfl rfl ?_
                      show Steps p.tables e below (T211.setTop (mkF m 53 #[.val (.int p0), .val (.int p1), .val (.int (1 : Int32)), .val (.int (p0 &&& (63 : Int32))), .val (.ref (u 8)), .val (.ref (u 8))] [(.ref (u 8))])) _
                      refine st212.trans ?_
                      show Steps p.tables e below (T212.setTop (mkF m 56 #[.val (.int p0), .val (.int p1), .val (.int (1 : Int32)), .val (.int (p0 &&& (63 : Int32))), .val (.ref (u 8)), .val (.ref (u 8))] [(.int (36 : Int32))])) _
                      refine XS.iloadN X212.here hx rfl (hb hby at_56) rfl ?_
                      show Steps p.tables e below (T212.setTop (mkF m 57 #[.val (.int p0), .val (.int p1), .val (.int (1 : Int32)), .val (.int (p0 &&& (63 : Int32))), .val (.ref (u 8)), .val (.ref (u 8))] [(.int (p0 &&& (63 : Int32))), (.int (36 : Int32))])) _
                      refine XS.icmpYes X212.here hx rfl (pc0 := 57) (pc' := 62) rfl (hb hby at_57) rfl (teq hc209).1 (by decide) (by decide) ?_
                      show Steps p.tables e below (T212.setTop (mkF m 62 #[.val (.int p0), .val (.int p1), .val (.int (1 : Int32)), .val (.int (p0 &&& (63 : Int32))), .val (.ref (u 8)), .val (.ref (u 8))] [])) _
                      refine XS.iconst X212.here hx rfl (hb hby at_62) ?_
                      show Steps p.tables e below (T212.setTop (mkF m 63 #[.val (.int p0), .val (.int p1), .val (.int (1 : Int32)), .val (.int (p0 &&& (63 : Int32))), .val (.ref (u 8)), .val (.ref (u 8))] [(.int (1 : Int32))])) _
                      exact retN X212 hx (t := .boolean) Bd.returns (by simp) (hb hby at_63) hr
                    · show own_Q0 Z u p0 p1 h0 n0 _ T212.heap _
                      rw [e212]
                      exact ⟨rfl, N212, trivial⟩
                  · --
                    by_cases hc214 : (41 : Int32) = (p0 &&& (63 : Int32))
                    · --
                      obtain rfl : vr173 = some (.ref (u 9)) := hv173.trans (by unfold own_r1; rw [if_neg hc174, if_neg hc179, if_neg hc184, if_neg hc189, if_neg hc194, if_neg hc199, if_neg hc204, if_neg hc209, if_pos hc214])
                      have pre215 : ∀ t, Steps p.tables e below (T173.setTop (mkF m 32 #[.val (.int p0), .val (.int p1), .val (.int (1 : Int32)), .val (.int (p0 &&& (63 : Int32))), .val (.ref (u 9)), .unset] [(.int (p0 &&& (63 : Int32)))])) t → Steps p.tables e below (s₁.setTop (entryFrame m #[(.int p0), (.int p1)] maxLocals)) t := fun t kt => pre172 t (by
                        show Steps p.tables e below (s₁.setTop (mkF m 26 #[.val (.int p0), .val (.int p1), .val (.int (1 : Int32)), .val (.int (p0 &&& (63 : Int32))), .unset, .unset] [(.int (p0 &&& (63 : Int32)))])) _
                        refine st173 _ ?_
                        show Steps p.tables e below (T173.setTop (mkF m 29 #[.val (.int p0), .val (.int p1), .val (.int (1 : Int32)), .val (.int (p0 &&& (63 : Int32))), .unset, .unset] [(.ref (u 9))])) _
                        refine XS.astore X173.here hx rfl (hb hby at_29) rfl rfl (l' := #[.val (.int p0), .val (.int p1), .val (.int (1 : Int32)), .val (.int (p0 &&& (63 : Int32))), .val (.ref (u 9)), .unset]) rfl ?_
                        show Steps p.tables e below (T173.setTop (mkF m 31 #[.val (.int p0), .val (.int p1), .val (.int (1 : Int32)), .val (.int (p0 &&& (63 : Int32))), .val (.ref (u 9)), .unset] [])) _
                        refine XS.iloadN X173.here hx rfl (hb hby at_31) rfl ?_
                        exact kt)
                      obtain ⟨vr216, _, ⟨T216, L216, k216, n216⟩, -, X216, ⟨Lc216, hQ216, l216, y216, z216⟩, st216⟩ := Jvm.LawKit.callS X173 hx (y := (⟨"com/example/portcullis/portcullis/giop/ComponentTagOfPinLaw", "expected", "(I)Lcom/example/portcullis/portcullis/giop/ComponentTag;"⟩ : MethodName)) hown (mvT hZ (hw _ (List.mem_of_getElem? (i := 32) rfl))) (mvT hZ (hw _ (List.mem_of_getElem? (i := 33) rfl))) (mvT hZ (hw _ (List.mem_of_getElem? (i := 34) rfl))) (mvT hZ (hw _ (List.mem_of_getElem? (i := 35) rfl))) (by decide) (backOf (W := 0) (rm3 l Z a0 hw [] u (p0 &&& (63 : Int32)) B T173.heap n0 O173 ) hZ (hw _ (List.mem_of_getElem? (i := 35) rfl)) (hw _ (List.mem_of_getElem? (i := 34) rfl)) (by decide) (by decide)) (g := (mkF m 32 #[.val (.int p0), .val (.int p1), .val (.int (1 : Int32)), .val (.int (p0 &&& (63 : Int32))), .val (.ref (u 9)), .unset] [(.int (p0 &&& (63 : Int32)))])) rfl (by rw [hml]; rfl) (argsL := [(.int (p0 &&& (63 : Int32)))]) (rest := []) (lenOf own_pd1 rfl) rfl (by show 2 * 0 + _ ≤ _; exact Nat.le_of_eq rfl) (hb hby at_32) (fun _ _ => ⟨rfl, rfl, (by decide : 1 + 0 ≤ _), (by decide : 11 + 0 ≤ _)⟩)
                      dsimp only [Pt.U, Pt.locs, Pt.cells, Pt.slots] at X216 l216 y216 z216 st216 hQ216
                      subst l216 y216 z216
                      obtain ⟨hv216, N216q, e216⟩ := hQ216
                      have N216 := Fr.app N173 N216q
                      obtain rfl : vr216 = some (.ref (u 9)) := hv216.trans (by unfold own_r3; rw [if_neg (fun q => hc174 (Eq.symm q)), if_neg (fun q => hc179 (Eq.symm q)), if_neg (fun q => hc184 (Eq.symm q)), if_neg (fun q => hc189 (Eq.symm q)), if_neg (fun q => hc194 (Eq.symm q)), if_neg (fun q => hc199 (Eq.symm q)), if_neg (fun q => hc204 (Eq.symm q)), if_neg (fun q => hc209 (Eq.symm q)), if_pos (Eq.symm hc214)])
                      obtain ⟨cq217, kq217, q217a, q217b, q217c⟩ := isOf hZ e216 (B.2.2.2.2.2.2.2.2.2.2.2.2.2.2.2.2.2.2.2.1.ext O173.2)
                      obtain ⟨vr217, _, ⟨T217, L217, k217, n217⟩, -, X217, ⟨Lc217, hQ217, l217, y217, z217⟩, st217⟩ := X216.virtualBack hx (y := (⟨"com/example/portcullis/portcullis/giop/ComponentTag", "code", "()I"⟩ : MethodName)) (z := (⟨"com/example/portcullis/portcullis/giop/ComponentTag", "code", "()I"⟩ : MethodName)) hown (mvT hZ (hw _ (List.mem_of_getElem? (i := 37) rfl))) (mvT hZ (hw _ (List.mem_of_getElem? (i := 38) rfl))) (notFace_of_selects (args := #[]) (mvT hZ (hw _ (List.mem_of_getElem? (i := 40) rfl)))) (mvT hZ (hw _ (List.mem_of_getElem? (i := 40) rfl))) (mvT hZ (hw _ (List.mem_of_getElem? (i := 39) rfl))) (by decide) (backOf (W := 0) (rm4 l Z a0 hw [] u (u 9) (41 : Int32) B T173.heap n0 O173 (B.2.2.2.2.2.2.2.2.2.2.2.2.2.2.2.2.2.2.2.2.2.2.2.2.2.2.2.2.2.2.2.2.2.1.ext O173.2)) hZ (hw _ (List.mem_of_getElem? (i := 41) rfl)) (hw _ (List.mem_of_getElem? (i := 2) rfl)) (by decide) (by decide)) q217a q217c (g := (mkF m 53 #[.val (.int p0), .val (.int p1), .val (.int (1 : Int32)), .val (.int (p0 &&& (63 : Int32))), .val (.ref (u 9)), .val (.ref (u 9))] [(.ref (u 9))])) rfl (by rw [hml]; rfl) (Steps.refl _) (argsL := []) (rest := []) (lenOf own_pd2 rfl) rfl (by show 2 * 0 + _ ≤ _; exact Nat.le_of_eq rfl) (hb hby at_53) (fun _ _ => ⟨rfl, e216, (by decide : 1 + 0 ≤ _), (by decide : 11 + 0 ≤ _)⟩)
                      dsimp only [Pt.U, Pt.locs, Pt.cells, Pt.slots] at X217 l217 y217 z217 st217 hQ217
                      subst l217 y217 z217
                      obtain ⟨rfl, N217q, e217⟩ := hQ217
                      have N217 := Fr.app N216 N217q
                      obtain ⟨fs, hr, hrun, hended, hW, hsame⟩ := X217.leave (v := some (.int (1 : Int32))) (fun h => by rw [Bd.returns] at h; cases h)
                      refine ⟨_, _, pre215 _ ?_, hrun, hended, _, _, rfl, ?_, ⟨_, rfl⟩, hW, hsame.mono (by decide) (by decide)⟩
                      · show Steps p.tables e below (T173.setTop (mkF m 32 #[.val (.int p0), .val (.int p1), .val (.int (1 : Int32)), .val (.int (p0 &&& (63 : Int32))), .val (.ref (u 9)), .unset] [(.int (p0 &&& (63 : Int32)))])) _
                        refine st216 _ ?_
                        show Steps p.tables e below (T216.setTop (mkF m 35 #[.val (.int p0), .val (.int p1), .val (.int (1 : Int32)), .val (.int (p0 &&& (63 : Int32))), .val (.ref (u 9)), .unset] [(.ref (u 9))])) _
                        refine XS.astore X216.here hx rfl (hb hby at_35) rfl rfl (l' := #[.val (.int p0), .val (.int p1), .val (.int (1 : Int32)), .val (.int (p0 &&& (63 : Int32))), .val (.ref (u 9)), .val (.ref (u 9))]) rfl ?_
                        show Steps p.tables e below (T216.setTop (mkF m 37 #[.val (.int p0), .val (.int p1), .val (.int (1 : Int32)), .val (.int (p0 &&& (63 : Int32))), .val (.ref (u 9)), .val (.ref (u 9))] [])) _
                        refine XS.aload X216.here hx rfl (hb hby at_37) rfl rfl ?_
                        show Steps p.tables e below (T216.setTop (mkF m 39 #[.val (.int p0), .val (.int p1), .val (.int (1 : Int32)), .val (.int (p0 &&& (63 : Int32))), .val (.ref (u 9)), .val (.ref (u 9))] [(.ref (u 9))])) _
                        refine XS.aload X216.here hx rfl (hb hby at_39) rfl rfl ?_
                        show Steps p.tables e below (T216.setTop (mkF m 41 #[.val (.int p0), .val (.int p1), .val (.int (1 : Int32)), .val (.int (p0 &&& (63 : Int32))), .val (.ref (u 9)), .val (.ref (u 9))] [(.ref (u 9)), (.ref (u 9))])) _
                        refine Jvm.RoadKit.acmp (g := (mkF m 41 #[.val (.int p0), .val (.int p1), .val (.int (1 : Int32)), .val (.int (p0 &&& (63 : Int32))), .val (.ref (u 9)), .val (.ref (u 9))] [(.ref (u 9)), (.ref (u 9))])) X216 hx rfl rfl rfl (pc0 := 41) (pc' := 46) (same := true) rfl (hb hby at_41) rfl (decide_eq_true rfl) (by decide) (by decide) ?_
                        show Steps p.tables e below (T216.setTop (mkF m 46 #[.val (.int p0), .val (.int p1), .val (.int (1 : Int32)), .val (.int (p0 &&& (63 : Int32))), .val (.ref (u 9)), .val (.ref (u 9))] [])) _
                        refine XS.aload X216.here hx rfl (hb hby at_46) rfl rfl ?_
                        show Steps p.tables e below (T216.setTop (mkF m 48 #[.val (.int p0), .val (.int p1), .val (.int (1 : Int32)), .val (.int (p0 &&& (63 : Int32))), .val (.ref (u 9)), .val (.ref (u 9))] [(.ref (u 9))])) _
                        refine XS.ifnullNo X216.here hx rfl (hb hby at_48) rfl ?_
                        show Steps p.tables e below (T216.setTop (mkF m 51 #[.val (.int p0), .val (.int p1), .val (.int (1 : Int32)), .val (.int (p0 &&& (63 : Int32))), .val (.ref (u 9)), .val (.ref (u 9))] [])) _
                        refine XS.aload X216.here hx rfl (hb hby at_51) rfl rfl ?_
                        show Steps p.tables e below (T216.setTop (mkF m 53 #[.val (.int p0), .val (.int p1), .val (.int (1 : Int32)), .val (.int (p0 &&& (63 : Int32))), .val (.ref (u 9)), .val (.ref (u 9))] [(.ref (u 9))])) _
                        refine st217.trans ?_
                        show Steps p.tables e below (T217.setTop (mkF m 56 #[.val (.int p0), .val (.int p1), .val (.int (1 : Int32)), .val (.int (p0 &&& (63 : Int32))), .val (.ref (u 9)), .val (.ref (u 9))] [(.int (41 : Int32))])) _
                        refine XS.iloadN X217.here hx rfl (hb hby at_56) rfl ?_
                        show Steps p.tables e below (T217.setTop (mkF m 57 #[.val (.int p0), .val (.int p1), .val (.int (1 : Int32)), .val (.int (p0 &&& (63 : Int32))), .val (.ref (u 9)), .val (.ref (u 9))] [(.int (p0 &&& (63 : Int32))), (.int (41 : Int32))])) _
                        refine XS.icmpYes X217.here hx rfl (pc0 := 57) (pc' := 62) rfl (hb hby at_57) rfl (teq hc214).1 (by decide) (by decide) ?_
                        show Steps p.tables e below (T217.setTop (mkF m 62 #[.val (.int p0), .val (.int p1), .val (.int (1 : Int32)), .val (.int (p0 &&& (63 : Int32))), .val (.ref (u 9)), .val (.ref (u 9))] [])) _
                        refine XS.iconst X217.here hx rfl (hb hby at_62) ?_
                        show Steps p.tables e below (T217.setTop (mkF m 63 #[.val (.int p0), .val (.int p1), .val (.int (1 : Int32)), .val (.int (p0 &&& (63 : Int32))), .val (.ref (u 9)), .val (.ref (u 9))] [(.int (1 : Int32))])) _
                        exact retN X217 hx (t := .boolean) Bd.returns (by simp) (hb hby at_63) hr
                      · show own_Q0 Z u p0 p1 h0 n0 _ T217.heap _
                        rw [e217]
                        exact ⟨rfl, N217, trivial⟩
                    · --
                      by_cases hc219 : (42 : Int32) = (p0 &&& (63 : Int32))
                      · --
                        obtain rfl : vr173 = some (.ref (u 10)) := hv173.trans (by unfold own_r1; rw [if_neg hc174, if_neg hc179, if_neg hc184, if_neg hc189, if_neg hc194, if_neg hc199, if_neg hc204, if_neg hc209, if_neg hc214, if_pos hc219])
                        have pre220 : ∀ t, Steps p.tables e below (T173.setTop (mkF m 32 #[.val (.int p0), .val (.int p1), .val (.int (1 : Int32)), .val (.int (p0 &&& (63 : Int32))), .val (.ref (u 10)), .unset] [(.int (p0 &&& (63 : Int32)))])) t → Steps p.tables e below (s₁.setTop (entryFrame m #[(.int p0), (.int p1)] maxLocals)) t := fun t kt => pre172 t (by
                          show Steps p.tables e below (s₁.setTop (mkF m 26 #[.val (.int p0), .val (.int p1), .val (.int (1 : Int32)), .val (.int (p0 &&& (63 : Int32))), .unset, .unset] [(.int (p0 &&& (63 : Int32)))])) _
                          refine st173 _ ?_
                          show Steps p.tables e below (T173.setTop (mkF m 29 #[.val (.int p0), .val (.int p1), .val (.int (1 : Int32)), .val (.int (p0 &&& (63 : Int32))), .unset, .unset] [(.ref (u 10))])) _
                          refine XS.astore X173.here hx rfl (hb hby at_29) rfl rfl (l' := #[.val (.int p0), .val (.int p1), .val (.int (1 : Int32)), .val (.int (p0 &&& (63 : Int32))), .val (.ref (u 10)), .unset]) rfl ?_
                          show Steps p.tables e below (T173.setTop (mkF m 31 #[.val (.int p0), .val (.int p1), .val (.int (1 : Int32)), .val (.int (p0 &&& (63 : Int32))), .val (.ref (u 10)), .unset] [])) _
                          refine XS.iloadN X173.here hx rfl (hb hby at_31) rfl ?_
                          exact kt)
                        obtain ⟨vr221, _, ⟨T221, L221, k221, n221⟩, -, X221, ⟨Lc221, hQ221, l221, y221, z221⟩, st221⟩ := Jvm.LawKit.callS X173 hx (y := (⟨"com/example/portcullis/portcullis/giop/ComponentTagOfPinLaw", "expected", "(I)Lcom/example/portcullis/portcullis/giop/ComponentTag;"⟩ : MethodName)) hown (mvT hZ (hw _ (List.mem_of_getElem? (i := 32) rfl))) (mvT hZ (hw _ (List.mem_of_getElem? (i := 33) rfl))) (mvT hZ (hw _ (List.mem_of_getElem? (i := 34) rfl))) (mvT hZ (hw _ (List.mem_of_getElem? (i := 35) rfl))) (by decide) (backOf (W := 0) (rm3 l Z a0 hw [] u (p0 &&& (63 : Int32)) B T173.heap n0 O173 ) hZ (hw _ (List.mem_of_getElem? (i := 35) rfl)) (hw _ (List.mem_of_getElem? (i := 34) rfl)) (by decide) (by decide)) (g := (mkF m 32 #[.val (.int p0), .val (.int p1), .val (.int (1 : Int32)), .val (.int (p0 &&& (63 : Int32))), .val (.ref (u 10)), .unset] [(.int (p0 &&& (63 : Int32)))])) rfl (by rw [hml]; rfl) (argsL := [(.int (p0 &&& (63 : Int32)))]) (rest := []) (lenOf own_pd1 rfl) rfl (by show 2 * 0 + _ ≤ _; exact Nat.le_of_eq rfl) (hb hby at_32) (fun _ _ => ⟨rfl, rfl, (by decide : 1 + 0 ≤ _), (by decide : 11 + 0 ≤ _)⟩)
                        dsimp only [Pt.U, Pt.locs, Pt.cells, Pt.slots] at X221 l221 y221 z221 st221 hQ221
                        subst l221 y221 z221
                        obtain ⟨hv221, N221q, e221⟩ := hQ221
                        have N221 := Fr.app N173 N221q
                        obtain rfl : vr221 = some (.ref (u 10)) := hv221.trans (by unfold own_r3; rw [if_neg (fun q => hc174 (Eq.symm q)), if_neg (fun q => hc179 (Eq.symm q)), if_neg (fun q => hc184 (Eq.symm q)), if_neg (fun q => hc189 (Eq.symm q)), if_neg (fun q => hc194 (Eq.symm q)), if_neg (fun q => hc199 (Eq.symm q)), if_neg (fun q => hc204 (Eq.symm q)), if_neg (fun q => hc209 (Eq.symm q)), if_neg (fun q => hc214 (Eq.symm q)), if_pos (Eq.symm hc219)])
                        obtain ⟨cq222, kq222, q222a, q222b, q222c⟩ := isOf hZ e221 (B.2.2.2.2.2.2.2.2.2.2.2.2.2.2.2.2.2.2.2.2.2.1.ext O173.2)
                        obtain ⟨vr222, _, ⟨T222, L222, k222, n222⟩, -, X222, ⟨Lc222, hQ222, l222, y222, z222⟩, st222⟩ := X221.virtualBack hx (y := (⟨"com/example/portcullis/portcullis/giop/ComponentTag", "code", "()I"⟩ : MethodName)) (z := (⟨"com/example/portcullis/portcullis/giop/ComponentTag", "code", "()I"⟩ : MethodName)) hown (mvT hZ (hw _ (List.mem_of_getElem? (i := 37) rfl))) (mvT hZ (hw _ (List.mem_of_getElem? (i := 38) rfl))) (notFace_of_selects (args := #[]) (mvT hZ (hw _ (List.mem_of_getElem? (i := 40) rfl)))) (mvT hZ (hw _ (List.mem_of_getElem? (i := 40) rfl))) (mvT hZ (hw _ (List.mem_of_getElem? (i := 39) rfl))) (by decide) (backOf (W := 0) (rm4 l Z a0 hw [] u (u 10) (42 : Int32) B T173.heap n0 O173 (B.2.2.2.2.2.2.2.2.2.2.2.2.2.2.2.2.2.2.2.2.2.2.2.2.2.2.2.2.2.2.2.2.2.2.1.ext O173.2)) hZ (hw _ (List.mem_of_getElem? (i := 41) rfl)) (hw _ (List.mem_of_getElem? (i := 2) rfl)) (by decide) (by decide)) q222a q222c (g := (mkF m 53 #[.val (.int p0), .val (.int p1), .val (.int (1 : Int32)), .val (.int (p0 &&& (63 : Int32))), .val (.ref (u 10)), .val (.ref (u 10))] [(.ref (u 10))])) rfl (by rw [hml]; rfl) (Steps.refl _) (argsL := []) (rest := []) (lenOf own_pd2 rfl) rfl (by show 2 * 0 + _ ≤ _; exact Nat.le_of_eq rfl) (hb hby at_53) (fun _ _ => ⟨rfl, e221, (by decide : 1 + 0 ≤ _), (by decide : 11 + 0 ≤ _)⟩)
                        dsimp only [Pt.U, Pt.locs, Pt.cells, Pt.slots] at X222 l222 y222 z222 st222 hQ222
                        subst l222 y222 z222
                        obtain ⟨rfl, N222q, e222⟩ := hQ222
                        have N222 := Fr.app N221 N222q
                        obtain ⟨fs, hr, hrun, hended, hW, hsame⟩ := X222.leave (v := some (.int (1 : Int32))) (fun h => by rw [Bd.returns] at h; cases h)
                        refine ⟨_, _, pre220 _ ?_, hrun, hended, _, _, rfl, ?_, ⟨_, rfl⟩, hW, hsame.mono (by decide) (by decide)⟩
                        · show Steps p.tables e below (T173.setTop (mkF m 32 #[.val (.int p0), .val (.int p1), .val (.int (1 : Int32)), .val (.int (p0 &&& (63 : Int32))), .val (.ref (u 10)), .unset] [(.int (p0 &&& (63 : Int32)))])) _
                          refine st221 _ ?_
                          show Steps p.tables e below (T221.setTop (mkF m 35 #[.val (.int p0), .val (.int p1), .val (.int (1 : Int32)), .val (.int (p0 &&& (63 : Int32))), .val (.ref (u 10)), .unset] [(.ref (u 10))])) _
                          refine XS.astore X221.here hx rfl (hb hby at_35) rfl rfl (l' := #[.val (.int p0), .val (.int p1), .val (.int (1 : Int32)), .val (.int (p0 &&& (63 : Int32))), .val (.ref (u 10)), .val (.ref (u 10))]) rfl ?_
                          show Steps p.tables e below (T221.setTop (mkF m 37 #[.val (.int p0), .val (.int p1), .val (.int (1 : Int32)), .val (.int (p0 &&& (63 : Int32))), .val (.ref (u 10)), .val (.ref (u 10))] [])) _
                          refine XS.aload X221.here hx rfl (hb hby at_37) rfl rfl ?_
                          show Steps p.tables e below (T221.setTop (mkF m 39 #[.val (.int p0), .val (.int p1), .val (.int (1 : Int32)), .val (.int (p0 &&& (63 : Int32))), .val (.ref (u 10)), .val (.ref (u 10))] [(.ref (u 10))])) _
                          refine XS.aload X221.here hx rfl (hb hby at_39) rfl rfl ?_
                          show Steps p.tables e below (T221.setTop (mkF m 41 #[.val (.int p0), .val (.int p1), .val (.int (1 : Int32)), .val (.int (p0 &&& (63 : Int32))), .val (.ref (u 10)), .val (.ref (u 10))] [(.ref (u 10)), (.ref (u 10))])) _
                          refine Jvm.RoadKit.acmp (g := (mkF m 41 #[.val (.int p0), .val (.int p1), .val (.int (1 : Int32)), .val (.int (p0 &&& (63 : Int32))), .val (.ref (u 10)), .val (.ref (u 10))] [(.ref (u 10)), (.ref (u 10))])) X221 hx rfl rfl rfl (pc0 := 41) (pc' := 46) (same := true) rfl (hb hby at_41) rfl (decide_eq_true rfl) (by decide) (by decide) ?_
                          show Steps p.tables e below (T221.setTop (mkF m 46 #[.val (.int p0), .val (.int p1), .val (.int (1 : Int32)), .val (.int (p0 &&& (63 : Int32))), .val (.ref (u 10)), .val (.ref (u 10))] [])) _
                          refine XS.aload X221.here hx rfl (hb hby at_46) rfl rfl ?_
                          show Steps p.tables e below (T221.setTop (mkF m 48 #[.val (.int p0), .val (.int p1), .val (.int (1 : Int32)), .val (.int (p0 &&& (63 : Int32))), .val (.ref (u 10)), .val (.ref (u 10))] [(.ref (u 10))])) _
                          refine XS.ifnullNo X221.here hx rfl (hb hby at_48) rfl ?_
                          show Steps p.tables e below (T221.setTop (mkF m 51 #[.val (.int p0), .val (.int p1), .val (.int (1 : Int32)), .val (.int (p0 &&& (63 : Int32))), .val (.ref (u 10)), .val (.ref (u 10))] [])) _
                          refine XS.aload X221.here hx rfl (hb hby at_51) rfl rfl ?_
                          show Steps p.tables e below (T221.setTop (mkF m 53 #[.val (.int p0), .val (.int p1), .val (.int (1 : Int32)), .val (.int (p0 &&& (63 : Int32))), .val (.ref (u 10)), .val (.ref (u 10))] [(.ref (u 10))])) _
                          refine st222.trans ?_
                          show Steps p.tables e below (T222.setTop (mkF m 56 #[.val (.int p0), .val (.int p1), .val (.int (1 : Int32)), .val (.int (p0 &&& (63 : Int32))), .val (.ref (u 10)), .val (.ref (u 10))] [(.int (42 : Int32))])) _
                          refine XS.iloadN X222.here hx rfl (hb hby at_56) rfl ?_
                          show Steps p.tables e below (T222.setTop (mkF m 57 #[.val (.int p0), .val (.int p1), .val (.int (1 : Int32)), .val (.int (p0 &&& (63 : Int32))), .val (.ref (u 10)), .val (.ref (u 10))] [(.int (p0 &&& (63 : Int32))), (.int (42 : Int32))])) _
                          refine XS.icmpYes X222.here hx rfl (pc0 := 57) (pc' := 62) rfl (hb hby at_57) rfl (teq hc219).1 (by decide) (by decide) ?_
                          show Steps p.tables e below (T222.setTop (mkF m 62 #[.val (.int p0), .val (.int p1), .val (.int (1 : Int32)), .val (.int (p0 &&& (63 : Int32))), .val (.ref (u 10)), .val (.ref (u 10))] [])) _
                          refine XS.iconst X222.here hx rfl (hb hby at_62) ?_
                          show Steps p.tables e below (T222.setTop (mkF m 63 #[.val (.int p0), .val (.int p1), .val (.int (1 : Int32)), .val (.int (p0 &&& (63 : Int32))), .val (.ref (u 10)), .val (.ref (u 10))] [(.int (1 : Int32))])) _
                          exact retN X222 hx (t := .boolean) Bd.returns (by simp) (hb hby at_63) hr
                        · show own_Q0 Z u p0 p1 h0 n0 _ T222.heap _
                          rw [e222]
                          exact ⟨rfl, N222, trivial⟩
                      · --
                        by_cases hc224 : (43 : Int32) = (p0 &&& (63 : Int32))
                        · --
                          obtain rfl : vr173 = some (.ref (u 11)) := hv173.trans (by unfold own_r1; rw [if_neg hc174, if_neg hc179, if_neg hc184, if_neg hc189, if_neg hc194, if_neg hc199, if_neg hc204, if_neg hc209, if_neg hc214, if_neg hc219, if_pos hc224])
                          have pre225 : ∀ t, Steps p.tables e below (T173.setTop (mkF m 32 #[.val (.int p0), .val (.int p1), .val (.int (1 : Int32)), .val (.int (p0 &&& (63 : Int32))), .val (.ref (u 11)), .unset] [(.int (p0 &&& (63 : Int32)))])) t → Steps p.tables e below (s₁.setTop (entryFrame m #[(.int p0), (.int p1)] maxLocals)) t := fun t kt => pre172 t (by
                            show Steps p.tables e below (s₁.setTop (mkF m 26 #[.val (.int p0), .val (.int p1), .val (.int (1 : Int32)), .val (.int (p0 &&& (63 : Int32))), .unset, .unset] [(.int (p0 &&& (63 : Int32)))])) _
                            refine st173 _ ?_
                            show Steps p.tables e below (T173.setTop (mkF m 29 #[.val (.int p0), .val (.int p1), .val (.int (1 : Int32)), .val (.int (p0 &&& (63 : Int32))), .unset, .unset] [(.ref (u 11))])) _
                            refine XS.astore X173.here hx rfl (hb hby at_29) rfl rfl (l' := #[.val (.int p0), .val (.int p1), .val (.int (1 : Int32)), .val (.int (p0 &&& (63 : Int32))), .val (.ref (u 11)), .unset]) rfl ?_
                            show Steps p.tables e below (T173.setTop (mkF m 31 #[.val (.int p0), .val (.int p1), .val (.int (1 : Int32)), .val (.int (p0 &&& (63 : Int32))), .val (.ref (u 11)), .unset] [])) _
                            refine XS.iloadN X173.here hx rfl (hb hby at_31) rfl ?_
                            exact kt)
                          obtain ⟨vr226, _, ⟨T226, L226, k226, n226⟩, -, X226, ⟨Lc226, hQ226, l226, y226, z226⟩, st226⟩ := Jvm.LawKit.callS X173 hx (y := (⟨"com/example/portcullis/portcullis/giop/ComponentTagOfPinLaw", "expected", "(I)Lcom/example/portcullis/portcullis/giop/ComponentTag;"⟩ : MethodName)) hown (mvT hZ (hw _ (List.mem_of_getElem? (i := 32) rfl))) (mvT hZ (hw _ (List.mem_of_getElem? (i := 33) rfl))) (mvT hZ (hw _ (List.mem_of_getElem? (i := 34) rfl))) (mvT hZ (hw _ (List.mem_of_getElem? (i := 35) rfl))) (by decide) (backOf (W := 0) (rm3 l Z a0 hw [] u (p0 &&& (63 : Int32)) B T173.heap n0 O173 ) hZ (hw _ (List.mem_of_getElem? (i := 35) rfl)) (hw _ (List.mem_of_getElem? (i := 34) rfl)) (by decide) (by decide)) (g := (mkF m 32 #[.val (.int p0), .val (.int p1), .val (.int (1 : Int32)), .val (.int (p0 &&& (63 : Int32))), .val (.ref (u 11)), .unset] [(.int (p0 &&& (63 : Int32)))])) rfl (by rw [hml]; rfl) (argsL := [(.int (p0 &&& (63 : Int32)))]) (rest := []) (lenOf own_pd1 rfl) rfl (by show 2 * 0 + _ ≤ _; exact Nat.le_of_eq rfl) (hb hby at_32) (fun _ _ => ⟨rfl, rfl, (by decide : 1 + 0 ≤ _), (by decide : 11 + 0 ≤ _)⟩)
                          dsimp only [Pt.U, Pt.locs, Pt.cells, Pt.slots] at X226 l226 y226 z226 st226 hQ226
                          subst l226 y226 z226
                          obtain ⟨hv226, N226q, e226⟩ := hQ226
                          have N226 := Fr.app N173 N226q
                          obtain rfl : vr226 = some (.ref (u 11)) := hv226.trans (by unfold own_r3; rw [if_neg (fun q => hc174 (Eq.symm q)), if_neg (fun q => hc179 (Eq.symm q)), if_neg (fun q => hc184 (Eq.symm q)), if_neg (fun q => hc189 (Eq.symm q)), if_neg (fun q => hc194 (Eq.symm q)), if_neg (fun q => hc199 (Eq.symm q)), if_neg (fun q => hc204 (Eq.symm q)), if_neg (fun q => hc209 (Eq.symm q)), if_neg (fun q => hc214 (Eq.symm q)), if_neg (fun q => hc219 (Eq.symm q)), if_pos (Eq.symm hc224)])
                          obtain ⟨cq227, kq227, q227a, q227b, q227c⟩ := isOf hZ e226 (B.2.2.2.2.2.2.2.2.2.2.2.2.2.2.2.2.2.2.2.2.2.2.2.1.ext O173.2)
                          obtain ⟨vr227, _, ⟨T227, L227, k227, n227⟩, -, X227, ⟨Lc227, hQ227, l227, y227, z227⟩, st227⟩ := X226.virtualBack hx (y := (⟨"com/example/portcullis/portcullis/giop/ComponentTag", "code", "()I"⟩ : MethodName)) (z := (⟨"com/example/portcullis/portcullis/giop/ComponentTag", "code", "()I"⟩ : MethodName)) hown (mvT hZ (hw _ (List.mem_of_getElem? (i := 37) rfl))) (mvT hZ (hw _ (List.mem_of_getElem? (i := 38) rfl))) (notFace_of_selects (args := #[]) (mvT hZ (hw _ (List.mem_of_getElem? (i := 40) rfl)))) (mvT hZ (hw _ (List.mem_of_getElem? (i := 40) rfl))) (mvT hZ (hw _ (List.mem_of_getElem? (i := 39) rfl))) (by decide) (backOf (W := 0) (rm4 l Z a0 hw [] u (u 11) (43 : Int32) B T173.heap n0 O173 (B.2.2.2.2.2.2.2.2.2.2.2.2.2.2.2.2.2.2.2.2.2.2.2.2.2.2.2.2.2.2.2.2.2.2.2.ext O173.2)) hZ (hw _ (List.mem_of_getElem? (i := 41) rfl)) (hw _ (List.mem_of_getElem? (i := 2) rfl)) (by decide) (by decide)) q227a q227c (g := (mkF m 53 #[.val (.int p0), .val (.int p1), .val (.int (1 : Int32)), .val (.int (p0 &&& (63 : Int32))), .val (.ref (u 11)), .val (.ref (u 11))] [(.ref (u 11))])) rfl (by rw [hml]; rfl) (Steps.refl _) (argsL := []) (rest := []) (lenOf own_pd2 rfl) rfl (by show 2 * 0 + _ ≤ _; exact Nat.le_of_eq rfl) (hb hby at_53) (fun _ _ => ⟨rfl, e226, (by decide : 1 + 0 ≤ _), (by decide : 11 + 0 ≤ _)⟩)
                          dsimp only [Pt.U, Pt.locs, Pt.cells, Pt.slots] at X227 l227 y227 z227 st227 hQ227
                          subst l227 y227 z227
                          obtain ⟨rfl, N227q, e227⟩ := hQ227
                          have N227 := Fr.app N226 N227q
                          obtain ⟨fs, hr, hrun, hended, hW, hsame⟩ := X227.leave (v := some (.int (1 : Int32))) (fun h => by rw [Bd.returns] at h; cases h)
                          refine ⟨_, _, pre225 _ ?_, hrun, hended, _, _, rfl, ?_, ⟨_, rfl⟩, hW, hsame.mono (by decide) (by decide)⟩
                          · show Steps p.tables e below (T173.setTop (mkF m 32 #[.val (.int p0), .val (.int p1), .val (.int (1 : Int32)), .val (.int (p0 &&& (63 : Int32))), .val (.ref (u 11)), .unset] [(.int (p0 &&& (63 : Int32)))])) _
                            refine st226 _ ?_
                            show Steps p.tables e below (T226.setTop (mkF m 35 #[.val (.int p0), .val (.int p1), .val (.int (1 : Int32)), .val (.int (p0 &&& (63 : Int32))), .val (.ref (u 11)), .unset] [(.ref (u 11))])) _
                            refine XS.astore X226.here hx rfl (hb hby at_35) rfl rfl (l' := #[.val (.int p0), .val (.int p1), .val (.int (1 : Int32)), .val (.int (p0 &&& (63 : Int32))), .val (.ref (u 11)), .val (.ref (u 11))]) rfl ?_
                            show Steps p.tables e below (T226.setTop (mkF m 37 #[.val (.int p0), .val (.int p1), .val (.int (1 : Int32)), .val (.int (p0 &&& (63 : Int32))), .val (.ref (u 11)), .val (.ref (u 11))] [])) _
                            refine XS.aload X226.here hx rfl (hb hby at_37) rfl rfl ?_
                            show Steps p.tables e below (T226.setTop (mkF m 39 #[.val (.int p0), .val (.int p1), .val (.int (1 : Int32)), .val (.int (p0 &&& (63 : Int32))), .val (.ref (u 11)), .val (.ref (u 11))] [(.ref (u 11))])) _
                            refine XS.aload X226.here hx rfl (hb hby at_39) rfl rfl ?_
                            show Steps p.tables e below (T226.setTop (mkF m 41 #[.val (.int p0), .val (.int p1), .val (.int (1 : Int32)), .val (.int (p0 &&& (63 : Int32))), .val (.ref (u 11)), .val (.ref (u 11))] [(.ref (u 11)), (.ref (u 11))])) _
                            refine Jvm.RoadKit.acmp (g := (mkF m 41 #[.val (.int p0), .val (.int p1), .val (.int (1 : Int32)), .val (.int (p0 &&& (63 : Int32))), .val (.ref (u 11)), .val (.ref (u 11))] [(.ref (u 11)), (.ref (u 11))])) X226 hx rfl rfl rfl (pc0 := 41) (pc' := 46) (same := true) rfl (hb hby at_41) rfl (decide_eq_true rfl) (by decide) (by decide) ?_
                            show Steps p.tables e below (T226.setTop (mkF m 46 #[.val (.int p0), .val (.int p1), .val (.int (1 : Int32)), .val (.int (p0 &&& (63 : Int32))), .val (.ref (u 11)), .val (.ref (u 11))] [])) _
                            refine XS.aload X226.here hx rfl (hb hby at_46) rfl rfl ?_
                            show Steps p.tables e below (T226.setTop (mkF m 48 #[.val (.int p0), .val (.int p1), .val (.int (1 : Int32)), .val (.int (p0 &&& (63 : Int32))), .val (.ref (u 11)), .val (.ref (u 11))] [(.ref (u 11))])) _
                            refine XS.ifnullNo X226.here hx rfl (hb hby at_48) rfl ?_
                            show Steps p.tables e below (T226.setTop (mkF m 51 #[.val (.int p0), .val (.int p1), .val (.int (1 : Int32)), .val (.int (p0 &&& (63 : Int32))), .val (.ref (u 11)), .val (.ref (u 11))] [])) _
                            refine XS.aload X226.here hx rfl (hb hby at_51) rfl rfl ?_
                            show Steps p.tables e below (T226.setTop (mkF m 53 #[.val (.int p0), .val (.int p1), .val (.int (1 : Int32)), .val (.int (p0 &&& (63 : Int32))), .val (.ref (u 11)), .val (.ref (u 11))] [(.ref (u 11))])) _
                            refine st227.trans ?_
                            show Steps p.tables e below (T227.setTop (mkF m 56 #[.val (.int p0), .val (.int p1), .val (.int (1 : Int32)), .val (.int (p0 &&& (63 : Int32))), .val (.ref (u 11)), .val (.ref (u 11))] [(.int (43 : Int32))])) _
                            refine XS.iloadN X227.here hx rfl (hb hby at_56) rfl ?_
                            show Steps p.tables e below (T227.setTop (mkF m 57 #[.val (.int p0), .val (.int p1), .val (.int (1 : Int32)), .val (.int (p0 &&& (63 : Int32))), .val (.ref (u 11)), .val (.ref (u 11))] [(.int (p0 &&& (63 : Int32))), (.int (43 : Int32))])) _
                            refine XS.icmpYes X227.here hx rfl (pc0 := 57) (pc' := 62) rfl (hb hby at_57) rfl (teq hc224).1 (by decide) (by decide) ?_
                            show Steps p.tables e below (T227.setTop (mkF m 62 #[.val (.int p0), .val (.int p1), .val (.int (1 : Int32)), .val (.int (p0 &&& (63 : Int32))), .val (.ref (u 11)), .val (.ref (u 11))] [])) _
                            refine XS.iconst X227.here hx rfl (hb hby at_62) ?_
                            show Steps p.tables e below (T227.setTop (mkF m 63 #[.val (.int p0), .val (.int p1), .val (.int (1 : Int32)), .val (.int (p0 &&& (63 : Int32))), .val (.ref (u 11)), .val (.ref (u 11))] [(.int (1 : Int32))])) _
                            exact retN X227 hx (t := .boolean) Bd.returns (by simp) (hb hby at_63) hr
                          · show own_Q0 Z u p0 p1 h0 n0 _ T227.heap _
                            rw [e227]
                            exact ⟨rfl, N227, trivial⟩
                        · --
                          obtain rfl : vr173 = some .null := hv173.trans (by unfold own_r1; rw [if_neg hc174, if_neg hc179, if_neg hc184, if_neg hc189, if_neg hc194, if_neg hc199, if_neg hc204, if_neg hc209, if_neg hc214, if_neg hc219, if_neg hc224])
                          have pre229 : ∀ t, Steps p.tables e below (T173.setTop (mkF m 32 #[.val (.int p0), .val (.int p1), .val (.int (1 : Int32)), .val (.int (p0 &&& (63 : Int32))), .val .null, .unset] [(.int (p0 &&& (63 : Int32)))])) t → Steps p.tables e below (s₁.setTop (entryFrame m #[(.int p0), (.int p1)] maxLocals)) t := fun t kt => pre172 t (by
                            show Steps p.tables e below (s₁.setTop (mkF m 26 #[.val (.int p0), .val (.int p1), .val (.int (1 : Int32)), .val (.int (p0 &&& (63 : Int32))), .unset, .unset] [(.int (p0 &&& (63 : Int32)))])) _
                            refine st173 _ ?_
                            show Steps p.tables e below (T173.setTop (mkF m 29 #[.val (.int p0), .val (.int p1), .val (.int (1 : Int32)), .val (.int (p0 &&& (63 : Int32))), .unset, .unset] [.null])) _
                            refine XS.astore X173.here hx rfl (hb hby at_29) rfl rfl (l' := #[.val (.int p0), .val (.int p1), .val (.int (1 : Int32)), .val (.int (p0 &&& (63 : Int32))), .val .null, .unset]) rfl ?_
                            show Steps p.tables e below (T173.setTop (mkF m 31 #[.val (.int p0), .val (.int p1), .val (.int (1 : Int32)), .val (.int (p0 &&& (63 : Int32))), .val .null, .unset] [])) _
                            refine XS.iloadN X173.here hx rfl (hb hby at_31) rfl ?_
                            exact kt)
                          obtain ⟨vr230, _, ⟨T230, L230, k230, n230⟩, -, X230, ⟨Lc230, hQ230, l230, y230, z230⟩, st230⟩ := Jvm.LawKit.callS X173 hx (y := (⟨"com/example/portcullis/portcullis/giop/ComponentTagOfPinLaw", "expected", "(I)Lcom/example/portcullis/portcullis/giop/ComponentTag;"⟩ : MethodName)) hown (mvT hZ (hw _ (List.mem_of_getElem? (i := 32) rfl))) (mvT hZ (hw _ (List.mem_of_getElem? (i := 33) rfl))) (mvT hZ (hw _ (List.mem_of_getElem? (i := 34) rfl))) (mvT hZ (hw _ (List.mem_of_getElem? (i := 35) rfl))) (by decide) (backOf (W := 0) (rm3 l Z a0 hw [] u (p0 &&& (63 : Int32)) B T173.heap n0 O173 ) hZ (hw _ (List.mem_of_getElem? (i := 35) rfl)) (hw _ (List.mem_of_getElem? (i := 34) rfl)) (by decide) (by decide)) (g := (mkF m 32 #[.val (.int p0), .val (.int p1), .val (.int (1 : Int32)), .val (.int (p0 &&& (63 : Int32))), .val .null, .unset] [(.int (p0 &&& (63 : Int32)))])) rfl (by rw [hml]; rfl) (argsL := [(.int (p0 &&& (63 : Int32)))]) (rest := []) (lenOf own_pd1 rfl) rfl (by show 2 * 0 + _ ≤ _; exact Nat.le_of_eq rfl) (hb hby at_32) (fun _ _ => ⟨rfl, rfl, (by decide : 1 + 0 ≤ _), (by decide : 11 + 0 ≤ _)⟩)
                          dsimp only [Pt.U, Pt.locs, Pt.cells, Pt.slots] at X230 l230 y230 z230 st230 hQ230
                          subst l230 y230 z230
                          obtain ⟨hv230, N230q, e230⟩ := hQ230
                          have N230 := Fr.app N173 N230q
                          obtain rfl : vr230 = some .null := hv230.trans (by unfold own_r3; rw [if_neg (fun q => hc174 (Eq.symm q)), if_neg (fun q => hc179 (Eq.symm q)), if_neg (fun q => hc184 (Eq.symm q)), if_neg (fun q => hc189 (Eq.symm q)), if_neg (fun q => hc194 (Eq.symm q)), if_neg (fun q => hc199 (Eq.symm q)), if_neg (fun q => hc204 (Eq.symm q)), if_neg (fun q => hc209 (Eq.symm q)), if_neg (fun q => hc214 (Eq.symm q)), if_neg (fun q => hc219 (Eq.symm q)), if_neg (fun q => hc224 (Eq.symm q))])
                          obtain ⟨fs, hr, hrun, hended, hW, hsame⟩ := X230.leave (v := some (.int (1 : Int32))) (fun h => by rw [Bd.returns] at h; cases h)
                          refine ⟨_, _, pre229 _ ?_, hrun, hended, _, _, rfl, ?_, ⟨_, rfl⟩, hW, hsame.mono (by decide) (by decide)⟩
                          · show Steps p.tables e below (T173.setTop (mkF m 32 #[.val (.int p0), .val (.int p1), .val (.int (1 : Int32)), .val (.int (p0 &&& (63 : Int32))), .val .null, .unset] [(.int (p0 &&& (63 : Int32)))])) _
                            refine st230 _ ?_
                            show Steps p.tables e below (T230.setTop (mkF m 35 #[.val (.int p0), .val (.int p1), .val (.int (1 : Int32)), .val (.int (p0 &&& (63 : Int32))), .val .null, .unset] [.null])) _
                            refine XS.astore X230.here hx rfl (hb hby at_35) rfl rfl (l' := #[.val (.int p0), .val (.int p1), .val (.int (1 : Int32)), .val (.int (p0 &&& (63 : Int32))), .val .null, .val .null]) rfl ?_
                            show Steps p.tables e below (T230.setTop (mkF m 37 #[.val (.int p0), .val (.int p1), .val (.int (1 : Int32)), .val (.int (p0 &&& (63 : Int32))), .val .null, .val .null] [])) _
                            refine XS.aload X230.here hx rfl (hb hby at_37) rfl rfl ?_
                            show Steps p.tables e below (T230.setTop (mkF m 39 #[.val (.int p0), .val (.int p1), .val (.int (1 : Int32)), .val (.int (p0 &&& (63 : Int32))), .val .null, .val .null] [.null])) _
                            refine XS.aload X230.here hx rfl (hb hby at_39) rfl rfl ?_
                            show Steps p.tables e below (T230.setTop (mkF m 41 #[.val (.int p0), .val (.int p1), .val (.int (1 : Int32)), .val (.int (p0 &&& (63 : Int32))), .val .null, .val .null] [.null, .null])) _
                            refine Jvm.RoadKit.acmp (g := (mkF m 41 #[.val (.int p0), .val (.int p1), .val (.int (1 : Int32)), .val (.int (p0 &&& (63 : Int32))), .val .null, .val .null] [.null, .null])) X230 hx rfl rfl rfl (pc0 := 41) (pc' := 46) (same := true) rfl (hb hby at_41) rfl (decide_eq_true rfl) (by decide) (by decide) ?_
                            show Steps p.tables e below (T230.setTop (mkF m 46 #[.val (.int p0), .val (.int p1), .val (.int (1 : Int32)), .val (.int (p0 &&& (63 : Int32))), .val .null, .val .null] [])) _
                            refine XS.aload X230.here hx rfl (hb hby at_46) rfl rfl ?_
                            show Steps p.tables e below (T230.setTop (mkF m 48 #[.val (.int p0), .val (.int p1), .val (.int (1 : Int32)), .val (.int (p0 &&& (63 : Int32))), .val .null, .val .null] [.null])) _
                            refine XS.ifnullYes X230.here hx rfl (pc0 := 48) (pc' := 62) rfl (hb hby at_48) rfl (by decide) (by decide) ?_
                            show Steps p.tables e below (T230.setTop (mkF m 62 #[.val (.int p0), .val (.int p1), .val (.int (1 : Int32)), .val (.int (p0 &&& (63 : Int32))), .val .null, .val .null] [])) _
                            refine XS.iconst X230.here hx rfl (hb hby at_62) ?_
                            show Steps p.tables e below (T230.setTop (mkF m 63 #[.val (.int p0), .val (.int p1), .val (.int (1 : Int32)), .val (.int (p0 &&& (63 : Int32))), .val .null, .val .null] [(.int (1 : Int32))])) _
                            exact retN X230 hx (t := .boolean) Bd.returns (by simp) (hb hby at_63) hr
                          · show own_Q0 Z u p0 p1 h0 n0 _ T230.heap _
                            rw [e230]
                            exact ⟨rfl, N230, trivial⟩
set_option maxRecDepth 65536 in
set_option maxHeartbeats 40000000 in
theorem comes_1 {Post : Tables → Env → Array Value → State → Outcome → State → Prop} (hpost : ∀ tb e args s v u, (limb_1_1.after args s (.returned v) u = true ∧ limb_1_2.after args s (.returned v) u = true ∧ True) → FrameEnd s (.returned v) u (Jvm.fieldLocs frame_1_writes args s ++ Jvm.arrayLocs frame_1_arrays args s ++ Jvm.staticLocs frame_1_statics s) 16 128 → Post tb e args s (.returned v) u) :
    ArmFor flags0 classFile x code maxLocals ret World_1 tables_1 room_1 Calls_1 rest_1 Pre_1 Post := by
  intro l hfl _ _ p e ha hc hk s m args below hf hA hF happ hP
  obtain ⟨hcalls, hrest, hpre⟩ := hP
  obtain ⟨-, -, -, hnamed, -, -, -, hat⟩ := (Spec.applies_iff hf).mp happ
  obtain ⟨hg, hn⟩ := and_e (Cond.before_iff.mp (show (Jvm.Cond.and given_1 narrow_1).before args s = true from hpre))
  obtain ⟨g0, gr0⟩ := and_e hg
  obtain ⟨g1, gr1⟩ := and_e gr0
  have g2 := gr1
  obtain ⟨w0, w1, rfl⟩ : ∃ w0 w1 : Value, args = #[w0, w1] := by
    have hs : args.size = 2 := by simpa [Cond.value, given_1] using g0
    obtain ⟨L⟩ := args
    match L, hs with
    | [w0, w1], _ => exact ⟨w0, w1, rfl⟩
  have hw := fun d (hd : d ∈ tables_1) => atoms_spec (ws := Jvm.Cond.code x code maxLocals ret :: tables_1) hat d (List.mem_cons_of_mem _ hd)
  have hfit : Fit s := fun {y c} hc i hi => by
    obtain ⟨ha, rfl⟩ := Array.getElem?_eq_some_iff.mp hc
    have q := List.all_eq_true.mp ((Array.all_eq_true_iff_forall_mem.mp hF) _ (Array.getElem_mem ha)) i (List.mem_range.mpr hi)
    simpa [Array.getElem?_eq_getElem hi] using q
  obtain ⟨i0, ei0⟩ := is_v g1
  obtain rfl : w0 = (.int i0) := Option.some.inj ei0
  obtain ⟨i1, ei1⟩ := is_v g2
  obtain rfl : w1 = (.int i1) := Option.some.inj ei1
  obtain ⟨b0, hn0⟩ := and_e hn
  obtain ⟨b1, hn1⟩ := and_e hn0
  obtain ⟨b2, hn2⟩ := and_e hn1
  obtain ⟨b3, hn3⟩ := and_e hn2
  obtain ⟨b4, hn4⟩ := and_e hn3
  obtain ⟨b5, hn5⟩ := and_e hn4
  obtain ⟨b6, hn6⟩ := and_e hn5
  obtain ⟨b7, hn7⟩ := and_e hn6
  obtain ⟨b8, hn8⟩ := and_e hn7
  obtain ⟨b9, hn9⟩ := and_e hn8
  obtain ⟨b10, hn10⟩ := and_e hn9
  obtain ⟨b11, hn11⟩ := and_e hn10
  obtain ⟨b12, hn12⟩ := and_e hn11
  obtain ⟨b13, hn13⟩ := and_e hn12
  obtain ⟨b14, hn14⟩ := and_e hn13
  obtain ⟨b15, hn15⟩ := and_e hn14
  obtain ⟨b16, hn16⟩ := and_e hn15
  obtain ⟨b17, hn17⟩ := and_e hn16
  obtain ⟨b18, hn18⟩ := and_e hn17
  obtain ⟨b19, hn19⟩ := and_e hn18
  obtain ⟨b20, hn20⟩ := and_e hn19
  obtain ⟨b21, hn21⟩ := and_e hn20
  obtain ⟨b22, hn22⟩ := and_e hn21
  obtain ⟨b23, hn23⟩ := and_e hn22
  obtain ⟨b24, hn24⟩ := and_e hn23
  obtain ⟨b25, hn25⟩ := and_e hn24
  obtain ⟨b26, hn26⟩ := and_e hn25
  obtain ⟨b27, hn27⟩ := and_e hn26
  obtain ⟨b28, hn28⟩ := and_e hn27
  obtain ⟨b29, hn29⟩ := and_e hn28
  obtain ⟨b30, hn30⟩ := and_e hn29
  obtain ⟨b31, hn31⟩ := and_e hn30
  obtain ⟨b32, hn32⟩ := and_e hn31
  obtain ⟨b33, hn33⟩ := and_e hn32
  obtain ⟨b34, hn34⟩ := and_e hn33
  have b35 := hn34
  obtain ⟨x0, v0⟩ := exa_v b1
  obtain ⟨x1, v1⟩ := exa_v b3
  obtain ⟨x2, v2⟩ := exa_v b5
  obtain ⟨x3, v3⟩ := exa_v b7
  obtain ⟨x4, v4⟩ := exa_v b9
  obtain ⟨x5, v5⟩ := exa_v b11
  obtain ⟨x6, v6⟩ := exa_v b13
  obtain ⟨x7, v7⟩ := exa_v b15
  obtain ⟨x8, v8⟩ := exa_v b17
  obtain ⟨x9, v9⟩ := exa_v b19
  obtain ⟨x10, v10⟩ := exa_v b21
  obtain ⟨x11, v11⟩ := exa_v b23
  obtain ⟨c0, A0⟩ := Arr.start v0 b0
  obtain ⟨l0, m0⟩ := own_len v0 A0.1 b2
  have B : own_Base s (fun i => ([x0, x1, x2, x3, x4, x5, x6, x7, x8, x9, x10, x11] : List Addr).getD i 0) := ⟨Sta.start v0 (Or.inr ⟨(hw _ (List.mem_of_getElem? (i := 2) rfl)), (hw _ (List.mem_of_getElem? (i := 8) rfl))⟩),
    Exa.start v0 b1,
    Sta.start v1 (Or.inr ⟨(hw _ (List.mem_of_getElem? (i := 2) rfl)), (hw _ (List.mem_of_getElem? (i := 16) rfl))⟩),
    Exa.start v1 b3,
    Sta.start v2 (Or.inr ⟨(hw _ (List.mem_of_getElem? (i := 2) rfl)), (hw _ (List.mem_of_getElem? (i := 17) rfl))⟩),
    Exa.start v2 b5,
    Sta.start v3 (Or.inr ⟨(hw _ (List.mem_of_getElem? (i := 2) rfl)), (hw _ (List.mem_of_getElem? (i := 18) rfl))⟩),
    Exa.start v3 b7,
    Sta.start v4 (Or.inr ⟨(hw _ (List.mem_of_getElem? (i := 2) rfl)), (hw _ (List.mem_of_getElem? (i := 19) rfl))⟩),
    Exa.start v4 b9,
    Sta.start v5 (Or.inr ⟨(hw _ (List.mem_of_getElem? (i := 2) rfl)), (hw _ (List.mem_of_getElem? (i := 20) rfl))⟩),
    Exa.start v5 b11,
    Sta.start v6 (Or.inr ⟨(hw _ (List.mem_of_getElem? (i := 2) rfl)), (hw _ (List.mem_of_getElem? (i := 21) rfl))⟩),
    Exa.start v6 b13,
    Sta.start v7 (Or.inr ⟨(hw _ (List.mem_of_getElem? (i := 2) rfl)), (hw _ (List.mem_of_getElem? (i := 22) rfl))⟩),
    Exa.start v7 b15,
    Sta.start v8 (Or.inr ⟨(hw _ (List.mem_of_getElem? (i := 2) rfl)), (hw _ (List.mem_of_getElem? (i := 23) rfl))⟩),
    Exa.start v8 b17,
    Sta.start v9 (Or.inr ⟨(hw _ (List.mem_of_getElem? (i := 2) rfl)), (hw _ (List.mem_of_getElem? (i := 24) rfl))⟩),
    Exa.start v9 b19,
    Sta.start v10 (Or.inr ⟨(hw _ (List.mem_of_getElem? (i := 2) rfl)), (hw _ (List.mem_of_getElem? (i := 25) rfl))⟩),
    Exa.start v10 b21,
    Sta.start v11 (Or.inr ⟨(hw _ (List.mem_of_getElem? (i := 2) rfl)), (hw _ (List.mem_of_getElem? (i := 26) rfl))⟩),
    Exa.start v11 b23,
    ⟨_, Arv.start hfit A0 l0 m0 (by decide) rfl ⟨own_elem v0 A0.1 b4 v1, own_elem v0 A0.1 b6 v2, own_elem v0 A0.1 b8 v3, own_elem v0 A0.1 b10 v4, own_elem v0 A0.1 b12 v5, own_elem v0 A0.1 b14 v6, own_elem v0 A0.1 b16 v7, own_elem v0 A0.1 b18 v8, own_elem v0 A0.1 b20 v9, own_elem v0 A0.1 b22 v10, own_elem v0 A0.1 b24 v11, trivial⟩⟩,
    own_fld v1 b25 rfl,
    own_fld v2 b26 rfl,
    own_fld v3 b27 rfl,
    own_fld v4 b28 rfl,
    own_fld v5 b29 rfl,
    own_fld v6 b30 rfl,
    own_fld v7 b31 rfl,
    own_fld v8 b32 rfl,
    own_fld v9 b33 rfl,
    own_fld v10 b34 rfl,
    own_fld v11 b35 rfl⟩
  obtain ⟨n, o, h1, h2, h3, _, L, rfl, ⟨rfl, N, -⟩, hq⟩ := rm0 l s _ hw tables_1 (fun i => ([x0, x1, x2, x3, x4, x5, x6, x7, x8, x9, x10, x11] : List Addr).getD i 0) i0 i1 B s.heap s.heap.size (Old.start s)  p e ha hc hk s m _ below hf ((Spec.applies_iff_loose hf).mp happ).1 ⟨rfl, State.Warmed39.refl s, rfl⟩ trivial
  refine ⟨n, _, h1, h2, h3, hpost _ _ _ _ _ _ ⟨Cond.after_iff.mpr rfl, Cond.after_iff.mpr (eq_i res_at (Term.int_eval (1)) rfl), trivial⟩ ⟨hq.1, hq.2.1, (hq.2.2.sift fun y hy => Or.inr (N y hy)).mono (by decide) (by decide)⟩⟩
theorem main_1_1 : Claimed_1_1 := comes_1 fun _ _ _ _ _ _ h hF => ⟨h.1, hF⟩
theorem main_1_2 : Claimed_1_2 := comes_1 fun _ _ _ _ _ _ h hF => ⟨h.2.1, hF⟩
end Jvm.Pilot.@@N@@
namespace Jvm.Pilot.@@N@@
open Jvm Jvm.ClassFile Sem Op Lib Jvm.Free Jvm.Stand Jvm.Pilot.@@N@@.Jvm.D
/-! MADE BY PROGRAM (witnessworld.py) out of the Statement's table words and the real class files: 13 classes; the members and pool entries that the words name. The judged class is class 1, her method 2. -/
namespace start1
open Jvm.ClassFile
def u (s : String) : CpInfo := .utf8 (stringToUtf16 s)
/-- a pool by its gaps: so many unusable entries, then the entry; so many at the end -/
def gap : Nat → List CpInfo → List CpInfo
  | 0, r => r
  | n + 1, r => .unusable :: gap n r
def poolList (es : List (Nat × CpInfo)) (last : Nat) : List CpInfo := es.foldr (fun e r => gap e.1 (e.2 :: r)) (gap last [])
def pool (es : List (Nat × CpInfo)) (last : Nat) : Array CpInfo := ⟨poolList es last⟩
def fileOf (pool : Array CpInfo) (this : Nat) (attrs : Array Attribute := #[]) (ms : Array MethodInfo := #[]) (fl : Nat := 33) (sup : Nat := 0) (ifs : Array Nat := #[]) (fds : Array FieldInfo := #[]) : ClassFile where
  minorVersion := 0
  majorVersion := 65
  constantPool := pool
  accessFlags := fl
  thisClass := this
  superClass := sup
  interfaces := ifs
  fields := fds
  methods := ms
  attributes := attrs
def plain (name : String) (sup : Option ClassId) : Class where
  name := name
  kind := .ordinary
  loader := none
  accessFlags := 33
  super := sup
  interfaces := #[]
  cf := none
  fields := #[]
  methods := #[]
  instanceTypes := #[]
  staticTypes := #[]
  resolved := #[]
  callSites := []
  init := .initialized
  statics := none
  mirror := none

def pool0 : Array CpInfo := pool [(5, u "<init>"), (0, u "()V"), (1, .class_ 10), (1, u "java/lang/Object"), (85, u "clone"), (0, u "()Ljava/lang/Object;")] 26

def k0m0 : Method := { name := "<init>", desc := "()V", sig := { parameters := [], returnType := none }, accessFlags := 1, code := none }
def k0m1 : Method := { name := "clone", desc := "()Ljava/lang/Object;", sig := { parameters := [], returnType := some (.object "java/lang/Object") }, accessFlags := 260, code := none }
/-- java/lang/Object -/
def k0 : Class := { plain "java/lang/Object" none with
  accessFlags := 33
  interfaces := #[]
  cf := some (fileOf pool0 8 #[] #[{ accessFlags := 1, nameIndex := 5, descriptorIndex := 6, attributes := #[] }, { accessFlags := 260, nameIndex := 96, descriptorIndex := 97, attributes := #[] }] 33 0 #[] #[])
  fields := #[]
  methods := #[k0m0, k0m1]
  instanceTypes := #[]
  staticTypes := #[]
  resolved := Array.replicate 124 none
  statics := none }

def pool1 : Array CpInfo := pool [(2, .class_ 4), (1, u "java/lang/Object"), (0, u "<init>"), (0, u "()V"), (0, .fieldref 8 9), (0, .class_ 10), (0, .nameAndType 11 12), (0, u "com/example/portcullis/portcullis/giop/ComponentTag"), (0, u "ORB_TYPE"), (0, u "Lcom/example/portcullis/portcullis/giop/ComponentTag;"), (0, .fieldref 8 14), (0, .nameAndType 15 12), (0, u "CODE_SETS"), (0, .fieldref 8 17), (0, .nameAndType 18 12), (0, u "POLICIES"), (0, .fieldref 8 20), (0, .nameAndType 21 12), (0, u "ALTERNATE_IIOP_ADDRESS"), (0, .fieldref 8 23), (0, .nameAndType 24 12), (0, u "CSI_SEC_MECH_LIST"), (0, .fieldref 8 26), (0, .nameAndType 27 12), (0, u "NULL_TAG"), (0, .fieldref 8 29), (0, .nameAndType 30 12), (0, u "SECIOP_SEC_TRANS"), (0, .fieldref 8 32), (0, .nameAndType 33 12), (0, u "TLS_SEC_TRANS"), (0, .fieldref 8 35), (0, .nameAndType 36 12), (0, u "PASSTHRU_TRANS"), (0, .fieldref 8 38), (0, .nameAndType 39 12), (0, u "FIREWALL_PATH"), (0, .fieldref 8 41), (0, .nameAndType 42 12), (0, u "IIOP_SEC_TRANS"), (0, .methodref 8 44), (0, .nameAndType 45 46), (0, u "of"), (0, u "(I)Lcom/example/portcullis/portcullis/giop/ComponentTag;"), (0, .methodref 48 49), (0, .class_ 50), (0, .nameAndType 51 46), (0, u "com/example/portcullis/portcullis/giop/ComponentTagOfPinLaw"), (0, u "expected"), (0, .methodref 8 53), (0, .nameAndType 54 55), (0, u "code"), (0, u "()I"), (3, u "law"), (0, u "(II)Z")] 2

def k1m0 : Method := { name := "<init>", desc := "()V", sig := { parameters := [], returnType := none }, accessFlags := 1, code := none }
def k1c1 : Code := { maxStack := 2, maxLocals := 1, code := method_2_code, exceptionTable := #[], attributes := #[] }
def k1m1 : Method := { name := "expected", desc := "(I)Lcom/example/portcullis/portcullis/giop/ComponentTag;", sig := { parameters := [.int], returnType := some (.object "com/example/portcullis/portcullis/giop/ComponentTag") }, accessFlags := 10, code := some k1c1 }
def k1c2 : Code := { maxStack := 2, maxLocals := 6, code := code, exceptionTable := #[], attributes := #[] }
def k1m2 : Method := { name := "law", desc := "(II)Z", sig := { parameters := [.int, .int], returnType := some .boolean }, accessFlags := 9, code := some k1c2 }
/-- com/example/portcullis/portcullis/giop/ComponentTagOfPinLaw -/
def k1 : Class := { plain "com/example/portcullis/portcullis/giop/ComponentTagOfPinLaw" (some 0) with
  accessFlags := 49
  interfaces := #[]
  cf := some (fileOf pool1 48 #[] #[{ accessFlags := 1, nameIndex := 5, descriptorIndex := 6, attributes := #[] }, { accessFlags := 10, nameIndex := 51, descriptorIndex := 46, attributes := #[] }, { accessFlags := 9, nameIndex := 59, descriptorIndex := 60, attributes := #[] }] 49 2 #[] #[])
  fields := #[]
  methods := #[k1m0, k1m1, k1m2]
  instanceTypes := #[]
  staticTypes := #[]
  resolved := Array.replicate 63 none
  statics := none }

def pool2 : Array CpInfo := pool [(1, .class_ 2), (0, u "java/lang/constant/Constable"), (0, .class_ 4), (0, u "java/lang/Object")] 6

/-- java/lang/constant/Constable -/
def k2 : Class := { plain "java/lang/constant/Constable" (some 0) with
  accessFlags := 1537
  interfaces := #[]
  cf := some (fileOf pool2 1 #[] #[] 1537 3 #[] #[])
  fields := #[]
  methods := #[]
  instanceTypes := #[]
  staticTypes := #[]
  resolved := Array.replicate 11 none
  statics := none }

def pool3 : Array CpInfo := pool [(1, .class_ 2), (0, u "java/lang/Comparable"), (0, .class_ 4), (0, u "java/lang/Object")] 7

/-- java/lang/Comparable -/
def k3 : Class := { plain "java/lang/Comparable" (some 0) with
  accessFlags := 1537
  interfaces := #[]
  cf := some (fileOf pool3 1 #[] #[] 1537 3 #[] #[])
  fields := #[]
  methods := #[]
  instanceTypes := #[]
  staticTypes := #[]
  resolved := Array.replicate 12 none
  statics := none }

def pool4 : Array CpInfo := pool [(1, .class_ 2), (0, u "java/io/Serializable"), (0, .class_ 4), (0, u "java/lang/Object")] 2

/-- java/io/Serializable -/
def k4 : Class := { plain "java/io/Serializable" (some 0) with
  accessFlags := 1537
  interfaces := #[]
  cf := some (fileOf pool4 1 #[] #[] 1537 3 #[] #[])
  fields := #[]
  methods := #[]
  instanceTypes := #[]
  staticTypes := #[]
  resolved := Array.replicate 7 none
  statics := none }

def pool5 : Array CpInfo := pool [(2, .class_ 4), (1, u "java/lang/Enum"), (0, u "name"), (0, u "Ljava/lang/String;"), (2, u "ordinal"), (0, u "I"), (1, .class_ 14), (1, u "java/lang/Object"), (4, u "hash"), (86, .class_ 108), (1, u "java/lang/Enum$EnumDesc"), (2, .class_ 112), (0, u "java/lang/constant/Constable"), (0, .class_ 114), (0, u "java/lang/Comparable"), (0, .class_ 116), (0, u "java/io/Serializable")] 87

/-- java/lang/Enum -/
def k5 : Class := { plain "java/lang/Enum" (some 0) with
  accessFlags := 1057
  interfaces := #[2, 3, 4]
  cf := some (fileOf pool5 2 #[.nestMembers #[106]] #[] 1057 12 #[111, 113, 115] #[{ accessFlags := 18, nameIndex := 5, descriptorIndex := 6, attributes := #[] }, { accessFlags := 18, nameIndex := 9, descriptorIndex := 10, attributes := #[] }, { accessFlags := 2, nameIndex := 19, descriptorIndex := 10, attributes := #[] }])
  fields := #[{ name := "name", type := (.object "java/lang/String"), accessFlags := 18, slot := 0, constantValue := 0 }, { name := "ordinal", type := .int, accessFlags := 18, slot := 1, constantValue := 0 }, { name := "hash", type := .int, accessFlags := 2, slot := 2, constantValue := 0 }]
  methods := #[]
  instanceTypes := #[(.object "java/lang/String"), .int, .int]
  staticTypes := #[]
  resolved := Array.replicate 204 none
  statics := none }

def pool6 : Array CpInfo := pool [(1, .class_ 2), (0, u "com/example/portcullis/portcullis/giop/ComponentTag"), (2, u "ORB_TYPE"), (0, u "Lcom/example/portcullis/portcullis/giop/ComponentTag;"), (2, u "CODE_SETS"), (2, u "POLICIES"), (2, u "ALTERNATE_IIOP_ADDRESS"), (2, u "CSI_SEC_MECH_LIST"), (2, u "NULL_TAG"), (2, u "SECIOP_SEC_TRANS"), (2, u "TLS_SEC_TRANS"), (2, u "PASSTHRU_TRANS"), (2, u "FIREWALL_PATH"), (2, u "IIOP_SEC_TRANS"), (0, .fieldref 1 38), (0, .nameAndType 39 40), (0, u "$VALUES"), (0, u "[Lcom/example/portcullis/portcullis/giop/ComponentTag;"), (0, .methodref 42 43), (0, .class_ 40), (0, .nameAndType 44 45), (0, u "clone"), (0, u "()Ljava/lang/Object;"), (1, .class_ 49), (1, u "java/lang/Enum"), (6, .fieldref 1 57), (0, .nameAndType 58 59), (0, u "code"), (0, u "I"), (2, u "transportAddresses"), (0, u "Z"), (0, .methodref 1 65), (0, .nameAndType 66 67), (0, u "values"), (0, u "()[Lcom/example/portcullis/portcullis/giop/ComponentTag;"), (23, u "()I"), (2, u "of"), (0, u "(I)Lcom/example/portcullis/portcullis/giop/ComponentTag;")] 6

def k6c0 : Code := { maxStack := 1, maxLocals := 0, code := prog_6_method_1_code, exceptionTable := #[], attributes := #[] }
def k6m0 : Method := { name := "values", desc := "()[Lcom/example/portcullis/portcullis/giop/ComponentTag;", sig := { parameters := [], returnType := some (.array (.object "com/example/portcullis/portcullis/giop/ComponentTag")) }, accessFlags := 9, code := some k6c0 }
def k6c1 : Code := { maxStack := 1, maxLocals := 1, code := prog_6_method_4_code, exceptionTable := #[], attributes := #[] }
def k6m1 : Method := { name := "code", desc := "()I", sig := { parameters := [], returnType := some .int }, accessFlags := 1, code := some k6c1 }
def k6c2 : Code := { maxStack := 2, maxLocals := 5, code := prog_6_method_6_code, exceptionTable := #[], attributes := #[] }
def k6m2 : Method := { name := "of", desc := "(I)Lcom/example/portcullis/portcullis/giop/ComponentTag;", sig := { parameters := [.int], returnType := some (.object "com/example/portcullis/portcullis/giop/ComponentTag") }, accessFlags := 9, code := some k6c2 }
/-- com/example/portcullis/portcullis/giop/ComponentTag -/
def k6 : Class := { plain "com/example/portcullis/portcullis/giop/ComponentTag" (some 5) with
  accessFlags := 16433
  interfaces := #[]
  cf := some (fileOf pool6 1 #[] #[{ accessFlags := 9, nameIndex := 66, descriptorIndex := 67, attributes := #[] }, { accessFlags := 1, nameIndex := 58, descriptorIndex := 91, attributes := #[] }, { accessFlags := 9, nameIndex := 94, descriptorIndex := 95, attributes := #[] }] 16433 47 #[] #[{ accessFlags := 16409, nameIndex := 5, descriptorIndex := 6, attributes := #[] }, { accessFlags := 16409, nameIndex := 9, descriptorIndex := 6, attributes := #[] }, { accessFlags := 16409, nameIndex := 12, descriptorIndex := 6, attributes := #[] }, { accessFlags := 16409, nameIndex := 15, descriptorIndex := 6, attributes := #[] }, { accessFlags := 16409, nameIndex := 18, descriptorIndex := 6, attributes := #[] }, { accessFlags := 16409, nameIndex := 21, descriptorIndex := 6, attributes := #[] }, { accessFlags := 16409, nameIndex := 24, descriptorIndex := 6, attributes := #[] }, { accessFlags := 16409, nameIndex := 27, descriptorIndex := 6, attributes := #[] }, { accessFlags := 16409, nameIndex := 30, descriptorIndex := 6, attributes := #[] }, { accessFlags := 16409, nameIndex := 33, descriptorIndex := 6, attributes := #[] }, { accessFlags := 16409, nameIndex := 36, descriptorIndex := 6, attributes := #[] }, { accessFlags := 18, nameIndex := 58, descriptorIndex := 59, attributes := #[] }, { accessFlags := 18, nameIndex := 62, descriptorIndex := 63, attributes := #[] }, { accessFlags := 4122, nameIndex := 39, descriptorIndex := 40, attributes := #[] }])
  fields := #[{ name := "ORB_TYPE", type := (.object "com/example/portcullis/portcullis/giop/ComponentTag"), accessFlags := 16409, slot := 0, constantValue := 0 }, { name := "CODE_SETS", type := (.object "com/example/portcullis/portcullis/giop/ComponentTag"), accessFlags := 16409, slot := 1, constantValue := 0 }, { name := "POLICIES", type := (.object "com/example/portcullis/portcullis/giop/ComponentTag"), accessFlags := 16409, slot := 2, constantValue := 0 }, { name := "ALTERNATE_IIOP_ADDRESS", type := (.object "com/example/portcullis/portcullis/giop/ComponentTag"), accessFlags := 16409, slot := 3, constantValue := 0 }, { name := "CSI_SEC_MECH_LIST", type := (.object "com/example/portcullis/portcullis/giop/ComponentTag"), accessFlags := 16409, slot := 4, constantValue := 0 }, { name := "NULL_TAG", type := (.object "com/example/portcullis/portcullis/giop/ComponentTag"), accessFlags := 16409, slot := 5, constantValue := 0 }, { name := "SECIOP_SEC_TRANS", type := (.object "com/example/portcullis/portcullis/giop/ComponentTag"), accessFlags := 16409, slot := 6, constantValue := 0 }, { name := "TLS_SEC_TRANS", type := (.object "com/example/portcullis/portcullis/giop/ComponentTag"), accessFlags := 16409, slot := 7, constantValue := 0 }, { name := "PASSTHRU_TRANS", type := (.object "com/example/portcullis/portcullis/giop/ComponentTag"), accessFlags := 16409, slot := 8, constantValue := 0 }, { name := "FIREWALL_PATH", type := (.object "com/example/portcullis/portcullis/giop/ComponentTag"), accessFlags := 16409, slot := 9, constantValue := 0 }, { name := "IIOP_SEC_TRANS", type := (.object "com/example/portcullis/portcullis/giop/ComponentTag"), accessFlags := 16409, slot := 10, constantValue := 0 }, { name := "code", type := .int, accessFlags := 18, slot := 3, constantValue := 0 }, { name := "transportAddresses", type := .boolean, accessFlags := 18, slot := 4, constantValue := 0 }, { name := "$VALUES", type := (.array (.object "com/example/portcullis/portcullis/giop/ComponentTag")), accessFlags := 4122, slot := 11, constantValue := 0 }]
  methods := #[k6m0, k6m1, k6m2]
  instanceTypes := #[(.object "java/lang/String"), .int, .int, .int, .boolean]
  staticTypes := #[(.object "com/example/portcullis/portcullis/giop/ComponentTag"), (.object "com/example/portcullis/portcullis/giop/ComponentTag"), (.object "com/example/portcullis/portcullis/giop/ComponentTag"), (.object "com/example/portcullis/portcullis/giop/ComponentTag"), (.object "com/example/portcullis/portcullis/giop/ComponentTag"), (.object "com/example/portcullis/portcullis/giop/ComponentTag"), (.object "com/example/portcullis/portcullis/giop/ComponentTag"), (.object "com/example/portcullis/portcullis/giop/ComponentTag"), (.object "com/example/portcullis/portcullis/giop/ComponentTag"), (.object "com/example/portcullis/portcullis/giop/ComponentTag"), (.object "com/example/portcullis/portcullis/giop/ComponentTag"), (.array (.object "com/example/portcullis/portcullis/giop/ComponentTag"))]
  resolved := Array.replicate 102 none
  statics := some 0 }

def pool7 : Array CpInfo := pool [(1, .class_ 2), (0, u "java/lang/Cloneable"), (0, .class_ 4), (0, u "java/lang/Object")] 2

/-- java/lang/Cloneable -/
def k7 : Class := { plain "java/lang/Cloneable" (some 0) with
  accessFlags := 1537
  interfaces := #[]
  cf := some (fileOf pool7 1 #[] #[] 1537 3 #[] #[])
  fields := #[]
  methods := #[]
  instanceTypes := #[]
  staticTypes := #[]
  resolved := Array.replicate 7 none
  statics := none }

/-- the primitive byte -/
def k8 : Class := { plain "byte" none with kind := .primitive 'B', accessFlags := 0x411 }
/-- [B -/
def k9 : Class := { plain "[B" (some 0) with kind := .array 8 .byte, interfaces := #[7, 4], accessFlags := 1041 }

/-- the primitive int -/
def k10 : Class := { plain "int" none with kind := .primitive 'I', accessFlags := 0x411 }
/-- [I -/
def k11 : Class := { plain "[I" (some 0) with kind := .array 10 .int, interfaces := #[7, 4], accessFlags := 1041 }

/-- [Lcom/example/portcullis/portcullis/giop/ComponentTag; -/
def k12 : Class := { plain "[Lcom/example/portcullis/portcullis/giop/ComponentTag;" (some 0) with kind := .array 6 (.object "com/example/portcullis/portcullis/giop/ComponentTag"), interfaces := #[7, 4], accessFlags := 1041 }

def heap : Heap := #[{ cls := 6, slots := #[.ref 2, .ref 3, .ref 4, .ref 5, .ref 6, .ref 7, .ref 8, .ref 9, .ref 10, .ref 11, .ref 12, .ref 1], vm := .statics 6 },
  { cls := 12, slots := #[.ref 2, .ref 3, .ref 4, .ref 5, .ref 6, .ref 7, .ref 8, .ref 9, .ref 10, .ref 11, .ref 12], vm := .none },
  { cls := 6, slots := #[.null, .int 0, .int 0, .int (0), .int 0], vm := .none },
  { cls := 6, slots := #[.null, .int 0, .int 0, .int (1), .int 0], vm := .none },
  { cls := 6, slots := #[.null, .int 0, .int 0, .int (2), .int 0], vm := .none },
  { cls := 6, slots := #[.null, .int 0, .int 0, .int (3), .int 0], vm := .none },
  { cls := 6, slots := #[.null, .int 0, .int 0, .int (33), .int 0], vm := .none },
  { cls := 6, slots := #[.null, .int 0, .int 0, .int (34), .int 0], vm := .none },
  { cls := 6, slots := #[.null, .int 0, .int 0, .int (35), .int 0], vm := .none },
  { cls := 6, slots := #[.null, .int 0, .int 0, .int (36), .int 0], vm := .none },
  { cls := 6, slots := #[.null, .int 0, .int 0, .int (41), .int 0], vm := .none },
  { cls := 6, slots := #[.null, .int 0, .int 0, .int (42), .int 0], vm := .none },
  { cls := 6, slots := #[.null, .int 0, .int 0, .int (43), .int 0], vm := .none }]
def classes : Array Class := #[k0, k1, k2, k3, k4, k5, k6, k7, k8, k9, k10, k11, k12]
def interned : List (Array UInt16 × Addr) := []
def slotsUsed : Nat := 78
def theMethod : MethodId := ⟨1, 2⟩
def args0 : Array Value := #[.int 5, .int 6]
def aboutOver (below : List Frame) : State where
  vm := { classes := classes, interned := interned.toArray }
  heap := heap
  slotsUsed := slotsUsed
  threads := #[{ frames := .invoking theMethod args0 :: below }]
def below0 : List Frame := [.native { method := ⟨0, 0⟩, args := #[] }]
def about1 : State := aboutOver below0
def p0 : Program := .bare "" "" ""
def e0 : Env := launch0.env 0 0 0
theorem w_frames : about1.frames = Frame.invoking theMethod args0 :: below0 := rfl
set_option maxRecDepth 65536 in
theorem w_args : argsFit about1.vm theMethod args0 = true := by decide +kernel
set_option maxRecDepth 65536 in
theorem w_heap : heapFits about1 = true := by decide +kernel
set_option maxRecDepth 65536 in
theorem w_runnable : about1.curStatus? = some .runnable := by decide +kernel
set_option maxRecDepth 65536 in
theorem w_alone : about1.alone = true := by decide +kernel
set_option maxRecDepth 65536 in
theorem w_named : about1.methodNamed? x = some theMethod := by decide +kernel
set_option maxRecDepth 65536 in
theorem w_hears : about1.hears theMethod below0 = true := by decide +kernel
set_option maxRecDepth 65536 in
theorem w_ripe : about1.ripe theMethod args0 below0 = true := by decide +kernel
theorem w_running : about1.status = .running := rfl
set_option maxRecDepth 65536 in
theorem w_room : about1.hasRoom e0.platform room_1 = true :=
  launch0.hasRoom_least _ room_1 (by decide +kernel) (by decide +kernel) (by decide +kernel) (by decide +kernel) (by decide +kernel) (by decide +kernel)
theorem allAtoms_all (ts : List Jvm.Cond) (a : Array Jvm.Value) (st : Jvm.State) : (allAtoms ts).before a st = ts.all (fun c => c.before a st) := by
  induction ts with
  | nil => rfl
  | cons c t ih =>
    show (Jvm.Cond.and c (allAtoms t)).before a st = _
    rw [Jvm.Cond.before_and, ih, List.all_cons]
def words1 : List Jvm.Cond := Jvm.Cond.code x code maxLocals ret :: tables_1
/-- a 'code' word, met by the world's own term for the bytes: nothing is compared byte by byte -/
theorem code_word {y : MethodName} {bytes : ByteArray} {mx : Nat} {rt : Option FieldType} {a : Array Value} {s : State} {m : MethodId} {meth : Method} {c : Code} (h1 : s.methodNamed? y = some m) (h2 : s.vm.method? m = some meth) (h3 : meth.code = some c) (h4 : c.code = bytes)
    (h5 : (c.maxLocals == mx && c.exceptionTable.isEmpty && decide (c.maxStack ≤ mostOperands) && decide (meth.sig.returnType = rt) && !meth.locks && decide (parseMethodDescriptor y.desc = some meth.sig)) = true) : (Jvm.Cond.code y bytes mx rt).before a s = true := by
  simp only [Bool.and_eq_true, beq_iff_eq, Bool.not_eq_true', decide_eq_true_eq] at h5
  obtain ⟨⟨⟨⟨⟨g1, g2⟩, g3⟩, g4⟩, g5⟩, g6⟩ := h5
  simp [Cond.before, Cond.holds, Cond.value, h1, h2, h3, h4, g1, g2, g3, g4, g5, g6]
def isCode : Jvm.Cond → Bool
  | .code _ _ _ _ => true
  | _ => false
theorem all_split {L : List Jvm.Cond} {P : Jvm.Cond → Bool} (h1 : L.all (fun c => isCode c || P c) = true) (h2 : ∀ c ∈ L.filter isCode, P c = true) : L.all P = true := by
  refine List.all_eq_true.mpr fun c hc => ?_
  have h := List.all_eq_true.mp h1 c hc
  rcases Bool.eq_false_or_eq_true (isCode c) with hi | hi
  · exact h2 c (List.mem_filter.mpr ⟨hc, hi⟩)
  · simpa [hi] using h
set_option maxRecDepth 65536 in
theorem w_c0 : (Jvm.Cond.code x code maxLocals ret).before args0 about1 = true := code_word (m := ⟨1, 2⟩) (meth := k1m2) (c := k1c2) (by decide +kernel) rfl rfl rfl (by decide +kernel)
set_option maxRecDepth 65536 in
theorem w_c1 : (Jvm.Cond.code ({ cls := "com/example/portcullis/portcullis/giop/ComponentTag", name := "of", desc := "(I)Lcom/example/portcullis/portcullis/giop/ComponentTag;" } : Jvm.MethodName) prog_6_method_6_code (5 : Nat) (Option.some (Jvm.ClassFile.FieldType.object "com/example/portcullis/portcullis/giop/ComponentTag"))).before args0 about1 = true := code_word (m := ⟨6, 2⟩) (meth := k6m2) (c := k6c2) (by decide +kernel) rfl rfl rfl (by decide +kernel)
set_option maxRecDepth 65536 in
theorem w_c2 : (Jvm.Cond.code ({ cls := "com/example/portcullis/portcullis/giop/ComponentTag", name := "values", desc := "()[Lcom/example/portcullis/portcullis/giop/ComponentTag;" } : Jvm.MethodName) prog_6_method_1_code (0 : Nat) (Option.some (Jvm.ClassFile.FieldType.array (Jvm.ClassFile.FieldType.object "com/example/portcullis/portcullis/giop/ComponentTag")))).before args0 about1 = true := code_word (m := ⟨6, 0⟩) (meth := k6m0) (c := k6c0) (by decide +kernel) rfl rfl rfl (by decide +kernel)
set_option maxRecDepth 65536 in
theorem w_c3 : (Jvm.Cond.code ({ cls := "com/example/portcullis/portcullis/giop/ComponentTagOfPinLaw", name := "expected", desc := "(I)Lcom/example/portcullis/portcullis/giop/ComponentTag;" } : Jvm.MethodName) method_2_code (1 : Nat) (Option.some (Jvm.ClassFile.FieldType.object "com/example/portcullis/portcullis/giop/ComponentTag"))).before args0 about1 = true := code_word (m := ⟨1, 1⟩) (meth := k1m1) (c := k1c1) (by decide +kernel) rfl rfl rfl (by decide +kernel)
set_option maxRecDepth 65536 in
theorem w_c4 : (Jvm.Cond.code ({ cls := "com/example/portcullis/portcullis/giop/ComponentTag", name := "code", desc := "()I" } : Jvm.MethodName) prog_6_method_4_code (1 : Nat) (Option.some Jvm.ClassFile.FieldType.int)).before args0 about1 = true := code_word (m := ⟨6, 1⟩) (meth := k6m1) (c := k6c1) (by decide +kernel) rfl rfl rfl (by decide +kernel)
def codes1 : List Jvm.Cond := [Jvm.Cond.code x code maxLocals ret, Jvm.Cond.code ({ cls := "com/example/portcullis/portcullis/giop/ComponentTag", name := "of", desc := "(I)Lcom/example/portcullis/portcullis/giop/ComponentTag;" } : Jvm.MethodName) prog_6_method_6_code (5 : Nat) (Option.some (Jvm.ClassFile.FieldType.object "com/example/portcullis/portcullis/giop/ComponentTag")), Jvm.Cond.code ({ cls := "com/example/portcullis/portcullis/giop/ComponentTag", name := "values", desc := "()[Lcom/example/portcullis/portcullis/giop/ComponentTag;" } : Jvm.MethodName) prog_6_method_1_code (0 : Nat) (Option.some (Jvm.ClassFile.FieldType.array (Jvm.ClassFile.FieldType.object "com/example/portcullis/portcullis/giop/ComponentTag"))), Jvm.Cond.code ({ cls := "com/example/portcullis/portcullis/giop/ComponentTagOfPinLaw", name := "expected", desc := "(I)Lcom/example/portcullis/portcullis/giop/ComponentTag;" } : Jvm.MethodName) method_2_code (1 : Nat) (Option.some (Jvm.ClassFile.FieldType.object "com/example/portcullis/portcullis/giop/ComponentTag")), Jvm.Cond.code ({ cls := "com/example/portcullis/portcullis/giop/ComponentTag", name := "code", desc := "()I" } : Jvm.MethodName) prog_6_method_4_code (1 : Nat) (Option.some Jvm.ClassFile.FieldType.int)]
set_option maxRecDepth 65536 in
theorem codes_eq : words1.filter isCode = codes1 := rfl
theorem w_codes : ∀ c ∈ words1.filter isCode, c.before args0 about1 = true := by
  rw [codes_eq]
  intro c hc
  simp only [codes1, List.mem_cons, List.not_mem_nil, or_false] at hc
  rcases hc with rfl | rfl | rfl | rfl | rfl
  · exact w_c0
  · exact w_c1
  · exact w_c2
  · exact w_c3
  · exact w_c4
set_option maxRecDepth 65536 in
theorem w_t1 : (words1.take 24).all (fun c => isCode c || c.before args0 about1) = true := by decide +kernel
set_option maxRecDepth 65536 in
theorem w_t2 : ((words1.drop 24).take 24).all (fun c => isCode c || c.before args0 about1) = true := by decide +kernel
set_option maxRecDepth 65536 in
theorem w_t3 : ((words1.drop 24).drop 24).all (fun c => isCode c || c.before args0 about1) = true := by decide +kernel
theorem w_tables : (allAtoms (Jvm.Cond.code x code maxLocals ret :: tables_1)).before args0 about1 = true := by
  rw [allAtoms_all]
  show words1.all (fun c => c.before args0 about1) = true
  refine all_split ?_ w_codes
  rw [← List.take_append_drop 24 words1, List.all_append, w_t1, ← List.take_append_drop 24 (words1.drop 24), List.all_append, w_t2, w_t3]
  rfl
set_option maxRecDepth 65536 in
theorem w_case : (Jvm.Cond.and given_1 narrow_1).before args0 about1 = true := by decide +kernel
theorem w_applies : (headSpec (Jvm.Cond.code x code maxLocals ret :: tables_1) room_1).applies x e0.platform about1 = true :=
  (Spec.applies_iff w_frames).mpr ⟨w_running, w_runnable, w_alone, w_named, w_hears, w_ripe, w_room, w_tables⟩
theorem atStart : AtStart classFile x code maxLocals ret World_1 tables_1 room_1 Calls_1 rest_1 Pre_1 launch0 p0 e0 about1 theMethod args0 below0 :=
  ⟨lists_1, trivial, launch0.admits_env _ _ _, launch0.least_env, fairChoices_fair.cas, fairChoices_fair.clock, w_frames, w_args, w_heap, w_applies, trivial, trivial, w_case⟩
end start1
theorem witness_1 : WitnessClaimed_1 := ⟨start1.p0, start1.e0, start1.about1, start1.theMethod, start1.args0, start1.below0, start1.atStart⟩
end Jvm.Pilot.@@N@@
