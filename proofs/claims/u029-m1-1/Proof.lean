import JvmDerived
import JvmDerived.Pilot.@@N@@Statement
import JvmDerived.Pilot.@@N@@Code
set_option linter.unusedVariables false
set_option linter.unusedSimpArgs false
namespace Jvm.RoadKit
open Sem ClassFile Op Lib Jvm.Stand Jvm.Free Jvm.LawKit
section New
variable {p : Program} {l : Launch} {e : Env} {R : Room} {s : State} {m : MethodId} {args : Array Value} {below : List Frame} {meth : Method} {c : Code} {T : State} {locs : List Loc} {cells slots : Nat}
theorem retI (X : Stand p l e R s m args below meth c T locs cells slots) (hx : p.tables.exec = Jvm.exec) {pc : Nat} {Ls : Array Slot} {z : Int32} {rest : List Value} (hret : meth.sig.returnType = some .int) (hd : decode c.code pc = .ok (.ireturn, 1)) {fs : List Frame}
    (hl : ∀ (f : JFrame) (acts : List Action), f.method = m → f.locked = none → f.entered = [] → (doReturn e (T.setTop f) acts (some (.int z))).1 = T.setFrames fs) : Steps p.tables e below (T.setTop (mkF m pc Ls (.int z :: rest))) (T.setFrames fs) :=
  retOut X hx hret rfl (Or.inl ⟨rfl, Or.inl rfl, z, rfl⟩) hd hl
end New
end Jvm.RoadKit
namespace Jvm.Pilot.@@N@@
open Jvm Jvm.ClassFile Sem Op Lib Jvm.Free Jvm.Stand Jvm.LawKit Jvm.RoadKit Bundle Jvm.Pilot.@@N@@.Jvm.D
/-! small laws of this text's own -/
theorem own_eqv {args : Array Value} {first s : State} {o : Option Outcome} {idx : List Nat} {a b : Term} {v : Value} (h : (Jvm.Cond.eq a b).value args first o s idx = some true) (hb : b.eval args first o idx s = some v) : a.eval args first o idx s = some v := by
  cases ha : a.eval args first o idx s with
  | none => simp [Cond.value, ha] at h
  | some x => cases x <;> cases v <;> simp_all [Cond.value]
theorem own_fld {args : Array Value} {s : State} {t b : Term} {x : Addr} {C n d : String} {v : Value} (ht : t.eval args s none [] s = some (.ref x)) (h : (Jvm.Cond.eq (.field t C n d) b).value args s none s [] = some true) (hb : b.eval args s none [] s = some v) : Fld s s.heap x C n d v :=
  Fld.start ((fld_at ht).symm.trans (own_eqv h hb))
theorem own_len {args : Array Value} {s : State} {t : Term} {x : Addr} {c : Cell} {n : Int32} (ht : t.eval args s none [] s = some (.ref x)) (hc : s.heap[x]? = some c) (h : (Jvm.Cond.eq (.length t) (.int n)).value args s none s [] = some true) : c.slots.size < 2 ^ 31 ∧ c.slots.size.toInt32 = n := by
  have e := own_eqv h (v := .int n) rfl
  simp only [Term.eval, ht, Option.bind_eq_bind, Option.bind_some] at e
  cases hq : s.arrayAt? x with
  | none => simp [hq] at e
  | some c' =>
    have h1 := (State.arrayAt?_spec hq).1
    cases hc.symm.trans h1
    simp only [hq, Option.bind_some] at e
    split at e
    · rename_i hl; exact ⟨hl, by simpa using e⟩
    · cases e
theorem own_elem {args : Array Value} {s : State} {t b : Term} {x : Addr} {c : Cell} {j : Int32} {v : Value} (ht : t.eval args s none [] s = some (.ref x)) (hc : s.heap[x]? = some c) (h : (Jvm.Cond.eq (.elem t (.int j)) b).value args s none s [] = some true) (hb : b.eval args s none [] s = some v) : c.slots[j.toNatClampNeg]? = some v :=
  (elem_in (own_eqv h hb) ht rfl hc).2
theorem own_selpriv {y : MethodName} {s : State} {args : Array Value} {n : Nat} (hy : y.cls ≠ "java/lang/invoke/MethodHandle" ∧ y.cls ≠ "java/lang/invoke/VarHandle") (hins : (Jvm.Cond.instantiable y.cls n).before args s = true) (hpriv : (Jvm.Cond.privateMethod y).before args s = true) (hinst : (Jvm.Cond.instanceMethod y).before args s = true) : (Jvm.Cond.selects y.cls y y).before args s = true := by
  obtain ⟨c, k, hc, hk, -, hniab, -, -⟩ := Cond.instantiable_spec hins
  exact Stand.selects_self_of_private hc hk (Bool.or_eq_false_iff.mp hniab).1 (Cond.privateMethod_at hpriv) hinst hy
theorem own_ext {h0 h : Heap} (K : Keep h0 h []) : Ext h0 h := ⟨K.1, fun x c q => K.2.1 x c q (fun z => nomatch z)⟩
theorem own_cat1 {v : Value} (h : v.isRef = true) : v.category = 1 := by cases v <;> first | rfl | simp [Value.isRef] at h
theorem own_narref {t : FieldType} {v : Value} (h : t.isReference = true) (hv : v.isRef = true) : narrow t v = v := by
  cases v <;> first | (simp [Value.isRef] at hv; done) | (cases t <;> first | rfl | simp [FieldType.isReference] at h)
theorem own_store1 {l : Array Slot} {i : Nat} {v : Value} {o : Slot} (hold : l[i]? = some o) (ho : o = .unset ∨ ∃ w, o = .val w ∧ w.category = 1) (hv : v.category = 1) : storeLocals l i v = some (l.setIfInBounds i (.val v)) := XS.store1 hold ho hv
def own_Base (Z : State) (u : Nat → Addr) : Prop :=
  (Sta Z Z.heap "com/example/vetted_ledger/vettedledger/engine/BillingAlignment" "ACCOUNT" "Lcom/example/vetted_ledger/vettedledger/engine/BillingAlignment;" (.ref (u 0))) ∧
  (Exa Z Z.heap (u 0) "com/example/vetted_ledger/vettedledger/engine/BillingAlignment") ∧
  (Sta Z Z.heap "com/example/vetted_ledger/vettedledger/engine/BillingAlignment" "SUBSCRIPTION" "Lcom/example/vetted_ledger/vettedledger/engine/BillingAlignment;" (.ref (u 1))) ∧
  (Exa Z Z.heap (u 1) "com/example/vetted_ledger/vettedledger/engine/BillingAlignment") ∧
  (Fld Z Z.heap (u 0) "java/lang/Enum" "ordinal" "I" (.int (0 : Int32))) ∧
  (Fld Z Z.heap (u 1) "java/lang/Enum" "ordinal" "I" (.int (1 : Int32))) ∧
  (Sta Z Z.heap "java/lang/Integer$IntegerCache" "high" "I" (.int (127 : Int32))) ∧
  (Sta Z Z.heap "java/lang/Integer$IntegerCache" "cache" "[Ljava/lang/Integer;" (.ref (u 2))) ∧
  (∃ c, Bxs Z (u 2) c "java/lang/Integer" "I" (256 : Int32) (fun j => .int (j - 128)))
theorem own_cacheval {args : Array Value} {Z : State} (X : Term) (j : Int32) (hj : ¬ j < 0) (h : (Jvm.Cond.eq X (.sub (.index 0) (.int (128 : Int32)))).value args Z none Z [j.toNatClampNeg] = some true) : X.eval args Z none [j.toNatClampNeg] Z = some (.int (j - 128)) := by
  refine own_eqv h ?_
  have e := idx_at (args := args) (s := Z) (first := Z) (o := none) hj
  simp [Term.eval] at e
  simp [Term.eval, e]
theorem own_place {w : Int32} (h1 : ¬ w < (-128 : Int32)) (h2 : ¬ (127 : Int32) < w) : ¬ (w + (128 : Int32)) < 0 ∧ (w + (128 : Int32)) < (256 : Int32) := by
  rw [Int32.lt_iff_toInt_lt] at h1 h2 ⊢
  rw [Int32.lt_iff_toInt_lt]
  have a := c_iadd w 128
  have b := rng32 (w + 128)
  have z0 : (-128 : Int32).toInt = -128 := rfl
  have z1 : (127 : Int32).toInt = 127 := rfl
  have z2 : (128 : Int32).toInt = 128 := rfl
  have z3 : (0 : Int32).toInt = 0 := rfl
  have z4 : (256 : Int32).toInt = 256 := rfl
  omega
theorem own_pd0 : parseMethodDescriptor "()V" = some ⟨[], none⟩ := by decide +kernel
theorem own_pd1 : parseMethodDescriptor "(I)V" = some ⟨[.int], none⟩ := by decide +kernel
theorem own_pd2 : parseMethodDescriptor "(I)Ljava/lang/Integer;" = some ⟨[.int], some (.object "java/lang/Integer")⟩ := by decide +kernel
theorem own_pd3 : parseMethodDescriptor "(Ljava/lang/Integer;Ljava/lang/Integer;)Ljava/lang/Integer;" = some ⟨[(.object "java/lang/Integer"), (.object "java/lang/Integer")], some (.object "java/lang/Integer")⟩ := by decide +kernel
theorem own_pd4 : parseMethodDescriptor "()I" = some ⟨[], some .int⟩ := by decide +kernel
theorem d5_0 : decode jdk_18_method_1_code 0 = .ok (.aload_n 0, 1) := by decide +kernel
theorem d5_1 : decode jdk_18_method_1_code 1 = .ok (.invokespecial 1, 3) := by decide +kernel
theorem d5_4 : decode jdk_18_method_1_code 4 = .ok (.return_, 1) := by decide +kernel
theorem own_pn_5 : plainName "java/lang/Number" = true := by first | (simp [plainName, overriddenIn]; done) | decide +kernel
theorem own_ef_5 (m : MethodId) (x0 : Addr) : entryFrame m #[(.ref x0)] 1 = mkF m 0 #[.val (.ref x0)] [] := by first | (simp [entryFrame, mkF, argsToLocals, Value.category]; done) | rfl
def own_Q5 (Z : State) (u : Nat → Addr) (r0 : Addr) (h0 : Heap) (n0 : Nat) (v : Option Value) (h : Heap) (L : List Loc) : Prop := v = none ∧ Fr n0 L ∧ h = h0
set_option maxRecDepth 65536 in
set_option maxHeartbeats 40000000 in
theorem rm5 (l : Launch) (Z : State) (a0 : Array Value) (hw : ∀ d ∈ tables_1, d.before a0 Z = true) (ws : List Jvm.Cond) (u : Nat → Addr) (r0 : Addr) (B : own_Base Z u) (h0 : Heap) (n0 : Nat) (O : Old Z n0 h0) :
    MetFree l (⟨"java/lang/Number", "<init>", "()V"⟩ : MethodName) (head1 (Jvm.Cond.code (⟨"java/lang/Number", "<init>", "()V"⟩ : MethodName) jdk_18_method_1_code 1 none :: ws) ({ frames := 1, cells := 0, slots := 0, locals := 12 } : Room)) (fun a U => a = #[(.ref r0)] ∧ Z.Warmed39 U.vm ∧ U.heap = h0) (fun _ _ _ _ _ => True) (fun _ U o U' => ∃ v L, o = .returned v ∧ own_Q5 Z u r0 h0 n0 v U'.heap L ∧ FrameEnd U o U' L ({ frames := 1, cells := 0, slots := 0, locals := 12 } : Room).cells ({ frames := 1, cells := 0, slots := 0, locals := 12 } : Room).slots) := by
  refine MetFree.of_bodySF (plainFor_of_name own_pn_5) hisR ?_
  intro p e s m args below meth c s₁ Bd hml0 hP hK
  obtain ⟨rfl, hZ, hh⟩ := hP
  have hx := Bd.exec
  have hby := Bd.bytes
  have hml : c.maxLocals = 1 := hml0
  have hown : s.vm.findClass "java/lang/Number" = some m.cls := findClass_of_methodNamed Bd.named
  have hnm := (name_of_methodNamed Bd.named Bd.method).1
  have X0 : Stand p l e ({ frames := 1, cells := 0, slots := 0, locals := 12 } : Room) s m #[(.ref r0)] below meth c s₁ [] 0 0 := Stand.of_body Bd
  have e0 : s₁.heap = h0 := by rw [← hh, Bd.state]; rfl
  have N0 := Fr.nil n0
  have K0 := Keep.refl h0 []
  have Z0 : n0 ≤ h0.size := O.1 ▸ O.2.1
  have pre0 : ∀ t, Steps p.tables e below (s₁.setTop (mkF m 0 #[.val (.ref r0)] [])) t → Steps p.tables e below (s₁.setTop (entryFrame m #[(.ref r0)] 1)) t := fun t k => castTop (own_ef_5 m r0) k
  obtain ⟨T1, X1, e1, st1⟩ := initO X0 hx hZ hown (hw _ (List.mem_of_getElem? (i := 37) rfl)) (hw _ (List.mem_of_getElem? (i := 38) rfl)) (hw _ (List.mem_of_getElem? (i := 39) rfl)) e0 (g := (mkF m 1 #[.val (.ref r0)] [(.ref r0)])) rfl (by rw [hml]; rfl) rfl (hb hby d5_1) (by decide) (W := 0) (by show 2 * 0 + _ ≤ _; exact Nat.le_of_eq rfl) (by decide)
  obtain ⟨fs, hr, hrun, hended, hW, hsame⟩ := X1.leave (v := none) (fun _ => rfl)
  refine ⟨_, _, pre0 _ ?_, hrun, hended, _, _, rfl, ?_, ⟨_, rfl⟩, hW, hsame.mono (by decide) (by decide)⟩
  · show Steps p.tables e below (s₁.setTop (mkF m 0 #[.val (.ref r0)] [])) _
    refine XS.aloadN X0.here hx rfl (hb hby d5_0) rfl rfl ?_
    show Steps p.tables e below (s₁.setTop (mkF m 1 #[.val (.ref r0)] [(.ref r0)])) _
    refine st1 _ ?_
    show Steps p.tables e below (T1.setTop (mkF m 4 #[.val (.ref r0)] [])) _
    exact X1.returnOut hx Bd.returns (hb hby d5_4) hr
  · show own_Q5 Z u r0 h0 n0 _ T1.heap _
    rw [e1]
    exact ⟨rfl, N0, rfl⟩
theorem d4_0 : decode jdk_33_method_23_code 0 = .ok (.aload_n 0, 1) := by decide +kernel
theorem d4_1 : decode jdk_33_method_23_code 1 = .ok (.invokespecial 202, 3) := by decide +kernel
theorem d4_4 : decode jdk_33_method_23_code 4 = .ok (.aload_n 0, 1) := by decide +kernel
theorem d4_5 : decode jdk_33_method_23_code 5 = .ok (.iload_n 1, 1) := by decide +kernel
theorem d4_6 : decode jdk_33_method_23_code 6 = .ok (.putfield 205, 3) := by decide +kernel
theorem d4_9 : decode jdk_33_method_23_code 9 = .ok (.return_, 1) := by decide +kernel
theorem own_pn_4 : plainName "java/lang/Integer" = true := by first | (simp [plainName, overriddenIn]; done) | decide +kernel
theorem own_ef_4 (m : MethodId) (x0 : Addr) (x1 : Int32) : entryFrame m #[(.ref x0), (.int x1)] 2 = mkF m 0 #[.val (.ref x0), .val (.int x1)] [] := by first | (simp [entryFrame, mkF, argsToLocals, Value.category]; done) | rfl
def own_Q4 (Z : State) (u : Nat → Addr) (r0 : Addr) (p1 : Int32) (h0 : Heap) (n0 : Nat) (v : Option Value) (h : Heap) (L : List Loc) : Prop := v = none ∧ Fr n0 L ∧ Keep h0 h [r0] ∧ Exa Z h r0 "java/lang/Integer" ∧ Fld Z h r0 "java/lang/Integer" "value" "I" (.int p1)
set_option maxRecDepth 65536 in
set_option maxHeartbeats 40000000 in
theorem rm4 (l : Launch) (Z : State) (a0 : Array Value) (hw : ∀ d ∈ tables_1, d.before a0 Z = true) (ws : List Jvm.Cond) (u : Nat → Addr) (r0 : Addr) (p1 : Int32) (B : own_Base Z u) (h0 : Heap) (n0 : Nat) (O : Old Z n0 h0) (E_r : Exa Z h0 r0 "java/lang/Integer") (F_v : Fld Z h0 r0 "java/lang/Integer" "value" "I" (.int (0 : Int32))) (g_r : n0 ≤ r0) :
    MetFree l (⟨"java/lang/Integer", "<init>", "(I)V"⟩ : MethodName) (head1 (Jvm.Cond.code (⟨"java/lang/Integer", "<init>", "(I)V"⟩ : MethodName) jdk_33_method_23_code 2 none :: ws) ({ frames := 2, cells := 0, slots := 0, locals := 24 } : Room)) (fun a U => a = #[(.ref r0), (.int p1)] ∧ Z.Warmed39 U.vm ∧ U.heap = h0) (fun _ _ _ _ _ => True) (fun _ U o U' => ∃ v L, o = .returned v ∧ own_Q4 Z u r0 p1 h0 n0 v U'.heap L ∧ FrameEnd U o U' L ({ frames := 2, cells := 0, slots := 0, locals := 24 } : Room).cells ({ frames := 2, cells := 0, slots := 0, locals := 24 } : Room).slots) := by
  refine MetFree.of_bodySF (plainFor_of_name own_pn_4) hisR ?_
  intro p e s m args below meth c s₁ Bd hml0 hP hK
  obtain ⟨rfl, hZ, hh⟩ := hP
  have hx := Bd.exec
  have hby := Bd.bytes
  have hml : c.maxLocals = 2 := hml0
  have hown : s.vm.findClass "java/lang/Integer" = some m.cls := findClass_of_methodNamed Bd.named
  have hnm := (name_of_methodNamed Bd.named Bd.method).1
  have X0 : Stand p l e ({ frames := 2, cells := 0, slots := 0, locals := 24 } : Room) s m #[(.ref r0), (.int p1)] below meth c s₁ [] 0 0 := Stand.of_body Bd
  have e0 : s₁.heap = h0 := by rw [← hh, Bd.state]; rfl
  have N0 := Fr.nil n0
  have K0 := Keep.refl h0 [r0]
  have Z0 : n0 ≤ h0.size := O.1 ▸ O.2.1
  have pre0 : ∀ t, Steps p.tables e below (s₁.setTop (mkF m 0 #[.val (.ref r0), .val (.int p1)] [])) t → Steps p.tables e below (s₁.setTop (entryFrame m #[(.ref r0), (.int p1)] 2)) t := fun t k => castTop (own_ef_4 m r0 p1) k
  obtain ⟨vr3, _, ⟨T3, L3, k3, n3⟩, -, X3, ⟨Lc3, hQ3, l3, y3, z3⟩, st3⟩ := X0.specialBack hx (y := (⟨"java/lang/Number", "<init>", "()V"⟩ : MethodName)) rfl hown (mvT hZ (hw _ (List.mem_of_getElem? (i := 31) rfl))) (mvT hZ (hw _ (List.mem_of_getElem? (i := 32) rfl))) (mvT hZ (hw _ (List.mem_of_getElem? (i := 36) rfl))) (by decide) (backOf (W := 0) (rm5 l Z a0 hw [] u r0 B h0 n0 O ) hZ (hw _ (List.mem_of_getElem? (i := 36) rfl)) (hw _ (List.mem_of_getElem? (i := 35) rfl)) (by decide) (by decide)) (g := (mkF m 1 #[.val (.ref r0), .val (.int p1)] [(.ref r0)])) rfl (by rw [hml]; rfl) (Steps.refl _) (a := r0) (argsL := []) (rest := []) (lenOf own_pd0 rfl) rfl (by show 2 * 0 + _ ≤ _; exact Nat.le_of_eq rfl) (hb hby d4_1) (fun _ _ => ⟨rfl, e0, (by decide : 0 + 0 ≤ _), (by decide : 0 + 0 ≤ _)⟩)
  dsimp only [Pt.U, Pt.locs, Pt.cells, Pt.slots] at X3 l3 y3 z3 st3 hQ3
  subst l3 y3 z3
  obtain ⟨rfl, N3q, e3⟩ := hQ3
  have N3 := Fr.app N0 N3q
  obtain ⟨T4, h4, X4, e4, W4, st4⟩ := putF X3 hx hZ hown (host := "") (Or.inl (hw _ (List.mem_of_getElem? (i := 21) rfl))) Via.refl e3 F_v E_r (Or.inr ⟨(hw _ (List.mem_of_getElem? (i := 22) rfl)), rfl, hnm⟩) (hw _ (List.mem_of_getElem? (i := 26) rfl)) (ty := .int) (by decide) rfl rfl (g := (mkF m 6 #[.val (.ref r0), .val (.int p1)] [(.int p1), (.ref r0)])) rfl rfl (hb hby d4_6)
  have Nf4 := Fr.snoc X4 N3 g_r
  have f5 := F_v.same W4
  have O4 := O.wr W4 g_r
  have K4 := K0.wr W4 (Or.inl (List.mem_of_getElem? (i := 0) rfl))
  have f6 := E_r.wr W4
  obtain ⟨fs, hr, hrun, hended, hW, hsame⟩ := X4.leave (v := none) (fun _ => rfl)
  refine ⟨_, _, pre0 _ ?_, hrun, hended, _, _, rfl, ?_, ⟨_, rfl⟩, hW, hsame.mono (by decide) (by decide)⟩
  · show Steps p.tables e below (s₁.setTop (mkF m 0 #[.val (.ref r0), .val (.int p1)] [])) _
    refine XS.aloadN X0.here hx rfl (hb hby d4_0) rfl rfl ?_
    show Steps p.tables e below (s₁.setTop (mkF m 1 #[.val (.ref r0), .val (.int p1)] [(.ref r0)])) _
    refine st3.trans ?_
    show Steps p.tables e below (T3.setTop (mkF m 4 #[.val (.ref r0), .val (.int p1)] [])) _
    refine XS.aloadN X3.here hx rfl (hb hby d4_4) rfl rfl ?_
    show Steps p.tables e below (T3.setTop (mkF m 5 #[.val (.ref r0), .val (.int p1)] [(.ref r0)])) _
    refine XS.iloadN X3.here hx rfl (hb hby d4_5) rfl ?_
    show Steps p.tables e below (T3.setTop (mkF m 6 #[.val (.ref r0), .val (.int p1)] [(.int p1), (.ref r0)])) _
    refine st4 _ ?_
    show Steps p.tables e below (T4.setTop (mkF m 9 #[.val (.ref r0), .val (.int p1)] [])) _
    exact X4.returnOut hx Bd.returns (hb hby d4_9) hr
  · show own_Q4 Z u r0 p1 h0 n0 _ T4.heap _
    rw [e4]
    exact ⟨rfl, Nf4, K4, f6, f5⟩
theorem d1_0 : decode jdk_33_method_22_code 0 = .ok (.iload_n 0, 1) := by decide +kernel
theorem d1_1 : decode jdk_33_method_22_code 1 = .ok (.bipush (-128), 2) := by decide +kernel
theorem d1_3 : decode jdk_33_method_22_code 3 = .ok (.if_icmp .lt 20, 3) := by decide +kernel
theorem d1_6 : decode jdk_33_method_22_code 6 = .ok (.iload_n 0, 1) := by decide +kernel
theorem d1_7 : decode jdk_33_method_22_code 7 = .ok (.getstatic 191, 3) := by decide +kernel
theorem d1_10 : decode jdk_33_method_22_code 10 = .ok (.if_icmp .gt 13, 3) := by decide +kernel
theorem d1_13 : decode jdk_33_method_22_code 13 = .ok (.getstatic 195, 3) := by decide +kernel
theorem d1_16 : decode jdk_33_method_22_code 16 = .ok (.iload_n 0, 1) := by decide +kernel
theorem d1_17 : decode jdk_33_method_22_code 17 = .ok (.sipush 128, 3) := by decide +kernel
theorem d1_20 : decode jdk_33_method_22_code 20 = .ok (.iadd, 1) := by decide +kernel
theorem d1_21 : decode jdk_33_method_22_code 21 = .ok (.aaload, 1) := by decide +kernel
theorem d1_22 : decode jdk_33_method_22_code 22 = .ok (.areturn, 1) := by decide +kernel
theorem d1_23 : decode jdk_33_method_22_code 23 = .ok (.new 1, 3) := by decide +kernel
theorem d1_26 : decode jdk_33_method_22_code 26 = .ok (.dup, 1) := by decide +kernel
theorem d1_27 : decode jdk_33_method_22_code 27 = .ok (.iload_n 0, 1) := by decide +kernel
theorem d1_28 : decode jdk_33_method_22_code 28 = .ok (.invokespecial 199, 3) := by decide +kernel
theorem d1_31 : decode jdk_33_method_22_code 31 = .ok (.areturn, 1) := by decide +kernel
theorem own_pn_1 : plainName "java/lang/Integer" = true := by first | (simp [plainName, overriddenIn]; done) | decide +kernel
theorem own_ef_1 (m : MethodId) (x0 : Int32) : entryFrame m #[(.int x0)] 1 = mkF m 0 #[.val (.int x0)] [] := by first | (simp [entryFrame, mkF, argsToLocals, Value.category]; done) | rfl
def own_Q1 (Z : State) (u : Nat → Addr) (p0 : Int32) (h0 : Heap) (n0 : Nat) (v : Option Value) (h : Heap) (L : List Loc) : Prop := ∃ b : Addr, v = some (.ref b) ∧ Fr n0 L ∧ Ext h0 h ∧ Exa Z h b "java/lang/Integer" ∧ Fld Z h b "java/lang/Integer" "value" "I" (.int p0)
set_option maxRecDepth 65536 in
set_option maxHeartbeats 40000000 in
theorem rm1 (l : Launch) (Z : State) (a0 : Array Value) (hw : ∀ d ∈ tables_1, d.before a0 Z = true) (ws : List Jvm.Cond) (u : Nat → Addr) (p0 : Int32) (B : own_Base Z u) (h0 : Heap) (n0 : Nat) (O : Old Z n0 h0) :
    MetFree l (⟨"java/lang/Integer", "valueOf", "(I)Ljava/lang/Integer;"⟩ : MethodName) (head1 (Jvm.Cond.code (⟨"java/lang/Integer", "valueOf", "(I)Ljava/lang/Integer;"⟩ : MethodName) jdk_33_method_22_code 1 (some (.object "java/lang/Integer")) :: ws) ({ frames := 3, cells := 1, slots := 1, locals := 38 } : Room)) (fun a U => a = #[(.int p0)] ∧ Z.Warmed39 U.vm ∧ U.heap = h0) (fun _ _ _ _ _ => True) (fun _ U o U' => ∃ v L, o = .returned v ∧ own_Q1 Z u p0 h0 n0 v U'.heap L ∧ FrameEnd U o U' L ({ frames := 3, cells := 1, slots := 1, locals := 38 } : Room).cells ({ frames := 3, cells := 1, slots := 1, locals := 38 } : Room).slots) := by
  refine MetFree.of_bodySF (plainFor_of_name own_pn_1) hisR ?_
  intro p e s m args below meth c s₁ Bd hml0 hP hK
  obtain ⟨rfl, hZ, hh⟩ := hP
  have hx := Bd.exec
  have hby := Bd.bytes
  have hml : c.maxLocals = 1 := hml0
  have hown : s.vm.findClass "java/lang/Integer" = some m.cls := findClass_of_methodNamed Bd.named
  have hnm := (name_of_methodNamed Bd.named Bd.method).1
  have X0 : Stand p l e ({ frames := 3, cells := 1, slots := 1, locals := 38 } : Room) s m #[(.int p0)] below meth c s₁ [] 0 0 := Stand.of_body Bd
  have e0 : s₁.heap = h0 := by rw [← hh, Bd.state]; rfl
  have N0 := Fr.nil n0
  have K0 := Keep.refl h0 []
  have Z0 : n0 ≤ h0.size := O.1 ▸ O.2.1
  have pre0 : ∀ t, Steps p.tables e below (s₁.setTop (mkF m 0 #[.val (.int p0)] [])) t → Steps p.tables e below (s₁.setTop (entryFrame m #[(.int p0)] 1)) t := fun t k => castTop (own_ef_1 m p0) k
  have pre9 : ∀ t, Steps p.tables e below (s₁.setTop (mkF m 3 #[.val (.int p0)] [(.int (-128 : Int32)), (.int p0)])) t → Steps p.tables e below (s₁.setTop (entryFrame m #[(.int p0)] 1)) t := fun t kt => pre0 t (by
    show Steps p.tables e below (s₁.setTop (mkF m 0 #[.val (.int p0)] [])) _
    refine XS.iloadN X0.here hx rfl (hb hby d1_0) rfl ?_
    show Steps p.tables e below (s₁.setTop (mkF m 1 #[.val (.int p0)] [(.int p0)])) _
    refine XS.bipush X0.here hx rfl (hb hby d1_1) ?_
    exact kt)
  by_cases hc10 : p0 < (-128 : Int32)
  · --
    obtain ⟨T11, h11, X11, e11, E11, A11, D11, -, st11⟩ := newO X0 hx hZ hown (hw _ (List.mem_of_getElem? (i := 25) rfl)) (hw _ (List.mem_of_getElem? (i := 26) rfl)) (hw _ (List.mem_of_getElem? (i := 5) rfl)) e0 (g := (mkF m 23 #[.val (.int p0)] [])) rfl (hb hby d1_23) (by decide) (by decide)
    obtain ⟨b11, g11⟩ : ∃ z, z = h0.size := ⟨_, rfl⟩
    rw [← g11] at A11 D11 st11
    have gx_b11 : n0 ≤ b11 := Nat.le_trans (O.1 ▸ O.2.1) (Nat.le_of_eq g11.symm)
    have sz_b11 : h0.size ≤ b11 := Nat.le_trans K0.1 (Nat.le_of_eq g11.symm)
    have O11 := O.ext E11
    have K11 := K0.ext E11
    have F_value_b11 : Fld Z h11 b11 "java/lang/Integer" "value" "I" (.int (0 : Int32)) := D11 (Or.inr (hw _ (List.mem_of_getElem? (i := 22) rfl))) (ty := .int) (by decide)
    obtain ⟨vr12, _, ⟨T12, L12, k12, n12⟩, -, X12, ⟨Lc12, hQ12, l12, y12, z12⟩, st12⟩ := X11.specialBack hx (y := (⟨"java/lang/Integer", "<init>", "(I)V"⟩ : MethodName)) rfl hown (mvT hZ (hw _ (List.mem_of_getElem? (i := 27) rfl))) (mvT hZ (hw _ (List.mem_of_getElem? (i := 28) rfl))) (mvT hZ (hw _ (List.mem_of_getElem? (i := 30) rfl))) (by decide) (backOf (W := 1) (rm4 l Z a0 hw [] u b11 p0 B h11 n0 O11 A11 F_value_b11 gx_b11) hZ (hw _ (List.mem_of_getElem? (i := 30) rfl)) (hw _ (List.mem_of_getElem? (i := 5) rfl)) (by decide) (by decide)) (g := (mkF m 28 #[.val (.int p0)] [(.int p0), (.ref b11), (.ref b11)])) rfl (by rw [hml]; rfl) (Steps.refl _) (a := b11) (argsL := [(.int p0)]) (rest := [(.ref b11)]) (lenOf own_pd1 rfl) rfl (by show 2 * 0 + _ ≤ _; exact Nat.le_of_eq rfl) (hb hby d1_28) (fun _ _ => ⟨rfl, e11, (by decide : 1 + 0 ≤ _), (by decide : 1 + 0 ≤ _)⟩)
    dsimp only [Pt.U, Pt.locs, Pt.cells, Pt.slots] at X12 l12 y12 z12 st12 hQ12
    subst l12 y12 z12
    obtain ⟨rfl, N12q, Kq12, x12E, x12v⟩ := hQ12
    have N12 := Fr.app N0 N12q
    have O12 := O11.keep Kq12 (allS gx_b11 all0)
    have K12 := Keep.trans K11 Kq12 (allS (Or.inr sz_b11) all0)
    obtain ⟨fs, hr, hrun, hended, hW, hsame⟩ := X12.leave (v := some (.ref b11)) (fun h => by rw [Bd.returns] at h; cases h)
    refine ⟨_, _, pre9 _ ?_, hrun, hended, _, _, rfl, ?_, ⟨_, rfl⟩, hW, hsame.mono (by decide) (by decide)⟩
    · show Steps p.tables e below (s₁.setTop (mkF m 3 #[.val (.int p0)] [(.int (-128 : Int32)), (.int p0)])) _
      refine XS.icmpYes X0.here hx rfl (pc0 := 3) (pc' := 23) rfl (hb hby d1_3) rfl (tlt hc10).1 (by decide) (by decide) ?_
      show Steps p.tables e below (s₁.setTop (mkF m 23 #[.val (.int p0)] [])) _
      refine st11 _ ?_
      show Steps p.tables e below (T11.setTop (mkF m 26 #[.val (.int p0)] [(.ref b11)])) _
      refine XS.dup X11.here hx rfl (hb hby d1_26) rfl rfl ?_
      show Steps p.tables e below (T11.setTop (mkF m 27 #[.val (.int p0)] [(.ref b11), (.ref b11)])) _
      refine XS.iloadN X11.here hx rfl (hb hby d1_27) rfl ?_
      show Steps p.tables e below (T11.setTop (mkF m 28 #[.val (.int p0)] [(.int p0), (.ref b11), (.ref b11)])) _
      refine st12.trans ?_
      show Steps p.tables e below (T12.setTop (mkF m 31 #[.val (.int p0)] [(.ref b11)])) _
      exact retOut X12 hx Bd.returns (own_narref rfl rfl) (Or.inr (Or.inr (Or.inr (Or.inr ⟨rfl, rfl, rfl⟩)))) (hb hby d1_31) hr
    · show own_Q1 Z u p0 h0 n0 _ T12.heap _
      exact ⟨b11, rfl, N12, own_ext K12, x12E, x12v⟩
  · --
    obtain ⟨T14, X14, e14, st14⟩ := getS2 X0 hx hZ hown (host := "") (Or.inl (hw _ (List.mem_of_getElem? (i := 7) rfl))) Via.refl e0 (B.2.2.2.2.2.2.1.ext O.2) (g := (mkF m 7 #[.val (.int p0)] [(.int p0)])) rfl (hb hby d1_7)
    have pre15 : ∀ t, Steps p.tables e below (T14.setTop (mkF m 10 #[.val (.int p0)] [(.int (127 : Int32)), (.int p0)])) t → Steps p.tables e below (s₁.setTop (entryFrame m #[(.int p0)] 1)) t := fun t kt => pre9 t (by
      show Steps p.tables e below (s₁.setTop (mkF m 3 #[.val (.int p0)] [(.int (-128 : Int32)), (.int p0)])) _
      refine XS.icmpNo X0.here hx rfl (hb hby d1_3) rfl (flt hc10).1 ?_
      show Steps p.tables e below (s₁.setTop (mkF m 6 #[.val (.int p0)] [])) _
      refine XS.iloadN X0.here hx rfl (hb hby d1_6) rfl ?_
      show Steps p.tables e below (s₁.setTop (mkF m 7 #[.val (.int p0)] [(.int p0)])) _
      refine st14 _ ?_
      exact kt)
    by_cases hc16 : (127 : Int32) < p0
    · --
      obtain ⟨T17, h17, X17, e17, E17, A17, D17, -, st17⟩ := newO X14 hx hZ hown (hw _ (List.mem_of_getElem? (i := 25) rfl)) (hw _ (List.mem_of_getElem? (i := 26) rfl)) (hw _ (List.mem_of_getElem? (i := 5) rfl)) e14 (g := (mkF m 23 #[.val (.int p0)] [])) rfl (hb hby d1_23) (by decide) (by decide)
      obtain ⟨b17, g17⟩ : ∃ z, z = h0.size := ⟨_, rfl⟩
      rw [← g17] at A17 D17 st17
      have gx_b17 : n0 ≤ b17 := Nat.le_trans (O.1 ▸ O.2.1) (Nat.le_of_eq g17.symm)
      have sz_b17 : h0.size ≤ b17 := Nat.le_trans K0.1 (Nat.le_of_eq g17.symm)
      have O17 := O.ext E17
      have K17 := K0.ext E17
      have F_value_b17 : Fld Z h17 b17 "java/lang/Integer" "value" "I" (.int (0 : Int32)) := D17 (Or.inr (hw _ (List.mem_of_getElem? (i := 22) rfl))) (ty := .int) (by decide)
      obtain ⟨vr18, _, ⟨T18, L18, k18, n18⟩, -, X18, ⟨Lc18, hQ18, l18, y18, z18⟩, st18⟩ := X17.specialBack hx (y := (⟨"java/lang/Integer", "<init>", "(I)V"⟩ : MethodName)) rfl hown (mvT hZ (hw _ (List.mem_of_getElem? (i := 27) rfl))) (mvT hZ (hw _ (List.mem_of_getElem? (i := 28) rfl))) (mvT hZ (hw _ (List.mem_of_getElem? (i := 30) rfl))) (by decide) (backOf (W := 1) (rm4 l Z a0 hw [] u b17 p0 B h17 n0 O17 A17 F_value_b17 gx_b17) hZ (hw _ (List.mem_of_getElem? (i := 30) rfl)) (hw _ (List.mem_of_getElem? (i := 5) rfl)) (by decide) (by decide)) (g := (mkF m 28 #[.val (.int p0)] [(.int p0), (.ref b17), (.ref b17)])) rfl (by rw [hml]; rfl) (Steps.refl _) (a := b17) (argsL := [(.int p0)]) (rest := [(.ref b17)]) (lenOf own_pd1 rfl) rfl (by show 2 * 0 + _ ≤ _; exact Nat.le_of_eq rfl) (hb hby d1_28) (fun _ _ => ⟨rfl, e17, (by decide : 1 + 0 ≤ _), (by decide : 1 + 0 ≤ _)⟩)
      dsimp only [Pt.U, Pt.locs, Pt.cells, Pt.slots] at X18 l18 y18 z18 st18 hQ18
      subst l18 y18 z18
      obtain ⟨rfl, N18q, Kq18, x18E, x18v⟩ := hQ18
      have N18 := Fr.app N0 N18q
      have O18 := O17.keep Kq18 (allS gx_b17 all0)
      have K18 := Keep.trans K17 Kq18 (allS (Or.inr sz_b17) all0)
      obtain ⟨fs, hr, hrun, hended, hW, hsame⟩ := X18.leave (v := some (.ref b17)) (fun h => by rw [Bd.returns] at h; cases h)
      refine ⟨_, _, pre15 _ ?_, hrun, hended, _, _, rfl, ?_, ⟨_, rfl⟩, hW, hsame.mono (by decide) (by decide)⟩
      · show Steps p.tables e below (T14.setTop (mkF m 10 #[.val (.int p0)] [(.int (127 : Int32)), (.int p0)])) _
        refine XS.icmpYes X14.here hx rfl (pc0 := 10) (pc' := 23) rfl (hb hby d1_10) rfl (tlt hc16).2.2.1 (by decide) (by decide) ?_
        show Steps p.tables e below (T14.setTop (mkF m 23 #[.val (.int p0)] [])) _
        refine st17 _ ?_
        show Steps p.tables e below (T17.setTop (mkF m 26 #[.val (.int p0)] [(.ref b17)])) _
        refine XS.dup X17.here hx rfl (hb hby d1_26) rfl rfl ?_
        show Steps p.tables e below (T17.setTop (mkF m 27 #[.val (.int p0)] [(.ref b17), (.ref b17)])) _
        refine XS.iloadN X17.here hx rfl (hb hby d1_27) rfl ?_
        show Steps p.tables e below (T17.setTop (mkF m 28 #[.val (.int p0)] [(.int p0), (.ref b17), (.ref b17)])) _
        refine st18.trans ?_
        show Steps p.tables e below (T18.setTop (mkF m 31 #[.val (.int p0)] [(.ref b17)])) _
        exact retOut X18 hx Bd.returns (own_narref rfl rfl) (Or.inr (Or.inr (Or.inr (Or.inr ⟨rfl, rfl, rfl⟩)))) (hb hby d1_31) hr
      · show own_Q1 Z u p0 h0 n0 _ T18.heap _
        exact ⟨b17, rfl, N18, own_ext K18, x18E, x18v⟩
    · --
      obtain ⟨T20, X20, e20, st20⟩ := getS2 X14 hx hZ hown (host := "") (Or.inl (hw _ (List.mem_of_getElem? (i := 9) rfl))) Via.refl e14 (B.2.2.2.2.2.2.2.1.ext O.2) (g := (mkF m 13 #[.val (.int p0)] [])) rfl (hb hby d1_13)
      obtain ⟨cc21, hb21⟩ := B.2.2.2.2.2.2.2.2
      have hin21 : ¬ ((p0 + (128 : Int32)) < 0 ∨ cc21.slots.size ≤ (p0 + (128 : Int32)).toNatClampNeg) := inb_of (z := 256) hb21.2.1 (own_place hc10 hc16)
      obtain ⟨bx, hat, Ex, Fx⟩ := hb21.2.2.2 _ hin21
      have Fy : Fld Z Z.heap bx "java/lang/Integer" "value" "I" (.int p0) := (Int32.add_sub_cancel p0 128) ▸ (show Fld Z Z.heap bx "java/lang/Integer" "value" "I" (.int ((p0 + (128 : Int32)) - 128)) from Fx)
      obtain ⟨fs, hr, hrun, hended, hW, hsame⟩ := X20.leave (v := some (.ref bx)) (fun h => by rw [Bd.returns] at h; cases h)
      refine ⟨_, _, pre15 _ ?_, hrun, hended, _, _, rfl, ?_, ⟨_, rfl⟩, hW, hsame.mono (by decide) (by decide)⟩
      · show Steps p.tables e below (T14.setTop (mkF m 10 #[.val (.int p0)] [(.int (127 : Int32)), (.int p0)])) _
        refine XS.icmpNo X14.here hx rfl (hb hby d1_10) rfl (flt hc16).2.2.1 ?_
        show Steps p.tables e below (T14.setTop (mkF m 13 #[.val (.int p0)] [])) _
        refine st20 _ ?_
        show Steps p.tables e below (T20.setTop (mkF m 16 #[.val (.int p0)] [(.ref (u 2))])) _
        refine XS.iloadN X20.here hx rfl (hb hby d1_16) rfl ?_
        show Steps p.tables e below (T20.setTop (mkF m 17 #[.val (.int p0)] [(.int p0), (.ref (u 2))])) _
        refine XS.sipush X20.here hx rfl (hb hby d1_17) ?_
        show Steps p.tables e below (T20.setTop (mkF m 20 #[.val (.int p0)] [(.int (128 : Int32)), (.int p0), (.ref (u 2))])) _
        refine XS.iadd X20.here hx rfl (hb hby d1_20) rfl ?_
        show Steps p.tables e below (T20.setTop (mkF m 21 #[.val (.int p0)] [(.int (p0 + (128 : Int32))), (.ref (u 2))])) _
        refine X20.aaload hx (j := (p0 + (128 : Int32))) (v := (.ref bx)) (by rw [e20]; exact (hb21.1.ext O.2).1) (State.isArrayOf_alike hZ.alike hb21.1.2.1) rfl hb21.1.2.2 hin21 hat (g := (mkF m 21 #[.val (.int p0)] [(.int (p0 + (128 : Int32))), (.ref (u 2))])) rfl rfl (hb hby d1_21) _ ?_
        show Steps p.tables e below (T20.setTop (mkF m 22 #[.val (.int p0)] [(.ref bx)])) _
        exact retOut X20 hx Bd.returns (own_narref rfl rfl) (Or.inr (Or.inr (Or.inr (Or.inr ⟨rfl, rfl, rfl⟩)))) (hb hby d1_22) hr
      · show own_Q1 Z u p0 h0 n0 _ T20.heap _
        rw [e20]
        exact ⟨bx, rfl, N0, own_ext K0, (Ex.ext O.2), (Fy.ext O.2)⟩
theorem d3_0 : decode jdk_33_method_27_code 0 = .ok (.aload_n 0, 1) := by decide +kernel
theorem d3_1 : decode jdk_33_method_27_code 1 = .ok (.getfield 205, 3) := by decide +kernel
theorem d3_4 : decode jdk_33_method_27_code 4 = .ok (.ireturn, 1) := by decide +kernel
theorem own_pn_3 : plainName "java/lang/Integer" = true := by first | (simp [plainName, overriddenIn]; done) | decide +kernel
theorem own_ef_3 (m : MethodId) (x0 : Addr) : entryFrame m #[(.ref x0)] 1 = mkF m 0 #[.val (.ref x0)] [] := by first | (simp [entryFrame, mkF, argsToLocals, Value.category]; done) | rfl
def own_Q3 (Z : State) (u : Nat → Addr) (r0 : Addr) (w_value_r0 : Int32) (h0 : Heap) (n0 : Nat) (v : Option Value) (h : Heap) (L : List Loc) : Prop := v = some (.int w_value_r0) ∧ Fr n0 L ∧ h = h0
set_option maxRecDepth 65536 in
set_option maxHeartbeats 40000000 in
theorem rm3 (l : Launch) (Z : State) (a0 : Array Value) (hw : ∀ d ∈ tables_1, d.before a0 Z = true) (ws : List Jvm.Cond) (u : Nat → Addr) (r0 : Addr) (w_value_r0 : Int32) (B : own_Base Z u) (h0 : Heap) (n0 : Nat) (O : Old Z n0 h0) (F_w_value_r0 : Fld Z h0 r0 "java/lang/Integer" "value" "I" (.int w_value_r0)) :
    MetFree l (⟨"java/lang/Integer", "intValue", "()I"⟩ : MethodName) (head1 (Jvm.Cond.code (⟨"java/lang/Integer", "intValue", "()I"⟩ : MethodName) jdk_33_method_27_code 1 (some .int) :: ws) ({ frames := 0, cells := 0, slots := 0, locals := 0 } : Room)) (fun a U => a = #[(.ref r0)] ∧ Z.Warmed39 U.vm ∧ U.heap = h0) (fun _ _ _ _ _ => True) (fun _ U o U' => ∃ v L, o = .returned v ∧ own_Q3 Z u r0 w_value_r0 h0 n0 v U'.heap L ∧ FrameEnd U o U' L ({ frames := 0, cells := 0, slots := 0, locals := 0 } : Room).cells ({ frames := 0, cells := 0, slots := 0, locals := 0 } : Room).slots) := by
  refine MetFree.of_bodySF (plainFor_of_name own_pn_3) hisR ?_
  intro p e s m args below meth c s₁ Bd hml0 hP hK
  obtain ⟨rfl, hZ, hh⟩ := hP
  have hx := Bd.exec
  have hby := Bd.bytes
  have hml : c.maxLocals = 1 := hml0
  have hown : s.vm.findClass "java/lang/Integer" = some m.cls := findClass_of_methodNamed Bd.named
  have hnm := (name_of_methodNamed Bd.named Bd.method).1
  have X0 : Stand p l e ({ frames := 0, cells := 0, slots := 0, locals := 0 } : Room) s m #[(.ref r0)] below meth c s₁ [] 0 0 := Stand.of_body Bd
  have e0 : s₁.heap = h0 := by rw [← hh, Bd.state]; rfl
  have N0 := Fr.nil n0
  have K0 := Keep.refl h0 []
  have Z0 : n0 ≤ h0.size := O.1 ▸ O.2.1
  have pre0 : ∀ t, Steps p.tables e below (s₁.setTop (mkF m 0 #[.val (.ref r0)] [])) t → Steps p.tables e below (s₁.setTop (entryFrame m #[(.ref r0)] 1)) t := fun t k => castTop (own_ef_3 m r0) k
  obtain ⟨T23, X23, e23, st23⟩ := getF X0 hx hZ hown (host := "") (Or.inl (hw _ (List.mem_of_getElem? (i := 21) rfl))) Via.refl e0 F_w_value_r0 (g := (mkF m 1 #[.val (.ref r0)] [(.ref r0)])) rfl rfl (hb hby d3_1)
  obtain ⟨fs, hr, hrun, hended, hW, hsame⟩ := X23.leave (v := some (.int w_value_r0)) (fun h => by rw [Bd.returns] at h; cases h)
  refine ⟨_, _, pre0 _ ?_, hrun, hended, _, _, rfl, ?_, ⟨_, rfl⟩, hW, hsame.mono (by decide) (by decide)⟩
  · show Steps p.tables e below (s₁.setTop (mkF m 0 #[.val (.ref r0)] [])) _
    refine XS.aloadN X0.here hx rfl (hb hby d3_0) rfl rfl ?_
    show Steps p.tables e below (s₁.setTop (mkF m 1 #[.val (.ref r0)] [(.ref r0)])) _
    refine st23 _ ?_
    show Steps p.tables e below (T23.setTop (mkF m 4 #[.val (.ref r0)] [(.int w_value_r0)])) _
    exact retI X23 hx Bd.returns (hb hby d3_4) hr
  · show own_Q3 Z u r0 w_value_r0 h0 n0 _ T23.heap _
    rw [e23]
    exact ⟨rfl, N0, rfl⟩
theorem d2_0 : decode prog_2_method_4_code 0 = .ok (.aload_n 1, 1) := by decide +kernel
theorem d2_1 : decode prog_2_method_4_code 1 = .ok (.astore_n 3, 1) := by decide +kernel
theorem d2_2 : decode prog_2_method_4_code 2 = .ok (.aload_n 0, 1) := by decide +kernel
theorem d2_3 : decode prog_2_method_4_code 3 = .ok (.getstatic 3, 3) := by decide +kernel
theorem d2_6 : decode prog_2_method_4_code 6 = .ok (.if_acmp .ne 13, 3) := by decide +kernel
theorem d2_9 : decode prog_2_method_4_code 9 = .ok (.aload_n 1, 1) := by decide +kernel
theorem d2_10 : decode prog_2_method_4_code 10 = .ok (.ifnull 9, 3) := by decide +kernel
theorem d2_19 : decode prog_2_method_4_code 19 = .ok (.aload_n 3, 1) := by decide +kernel
theorem d2_20 : decode prog_2_method_4_code 20 = .ok (.areturn, 1) := by decide +kernel
theorem own_pn_2 : plainName "com/example/vetted_ledger/vettedledger/engine/BillingAlignment" = true := by first | (simp [plainName, overriddenIn]; done) | decide +kernel
theorem own_ef_sd00 (m : MethodId) (x0 : Addr) : entryFrame m #[(.ref x0), .null, .null] 4 = mkF m 0 #[.val (.ref x0), .val .null, .val .null, .unset] [] := by first | (simp [entryFrame, mkF, argsToLocals, Value.category]; done) | rfl
def own_rsd00 (u : Nat → Addr) (r0 : Addr) : Value :=
  if r0 = (u 0) then
    .null
  else
    .null
theorem own_rsd00_ref {u : Nat → Addr} {r0 : Addr} : (own_rsd00 u r0).isRef = true := by
  unfold own_rsd00
  repeat' split
  all_goals rfl
def own_Qsd00 (Z : State) (u : Nat → Addr) (r0 : Addr) (h0 : Heap) (n0 : Nat) (v : Option Value) (h : Heap) (L : List Loc) : Prop := v = some (own_rsd00 u r0) ∧ Fr n0 L ∧ h = h0
set_option maxRecDepth 65536 in
set_option maxHeartbeats 40000000 in
theorem rmsd00 (l : Launch) (Z : State) (a0 : Array Value) (hw : ∀ d ∈ tables_1, d.before a0 Z = true) (ws : List Jvm.Cond) (u : Nat → Addr) (r0 : Addr) (B : own_Base Z u) (h0 : Heap) (n0 : Nat) (O : Old Z n0 h0) :
    MetFree l (⟨"com/example/vetted_ledger/vettedledger/engine/BillingAlignment", "subscriptionDay", "(Ljava/lang/Integer;Ljava/lang/Integer;)Ljava/lang/Integer;"⟩ : MethodName) (head1 (Jvm.Cond.code (⟨"com/example/vetted_ledger/vettedledger/engine/BillingAlignment", "subscriptionDay", "(Ljava/lang/Integer;Ljava/lang/Integer;)Ljava/lang/Integer;"⟩ : MethodName) prog_2_method_4_code 4 (some (.object "java/lang/Integer")) :: ws) ({ frames := 0, cells := 0, slots := 0, locals := 0 } : Room)) (fun a U => a = #[(.ref r0), .null, .null] ∧ Z.Warmed39 U.vm ∧ U.heap = h0) (fun _ _ _ _ _ => True) (fun _ U o U' => ∃ v L, o = .returned v ∧ own_Qsd00 Z u r0 h0 n0 v U'.heap L ∧ FrameEnd U o U' L ({ frames := 0, cells := 0, slots := 0, locals := 0 } : Room).cells ({ frames := 0, cells := 0, slots := 0, locals := 0 } : Room).slots) := by
  refine MetFree.of_bodySF (plainFor_of_name own_pn_2) hisR ?_
  intro p e s m args below meth c s₁ Bd hml0 hP hK
  obtain ⟨rfl, hZ, hh⟩ := hP
  have hx := Bd.exec
  have hby := Bd.bytes
  have hml : c.maxLocals = 4 := hml0
  have hown : s.vm.findClass "com/example/vetted_ledger/vettedledger/engine/BillingAlignment" = some m.cls := findClass_of_methodNamed Bd.named
  have hnm := (name_of_methodNamed Bd.named Bd.method).1
  have X0 : Stand p l e ({ frames := 0, cells := 0, slots := 0, locals := 0 } : Room) s m #[(.ref r0), .null, .null] below meth c s₁ [] 0 0 := Stand.of_body Bd
  have e0 : s₁.heap = h0 := by rw [← hh, Bd.state]; rfl
  have N0 := Fr.nil n0
  have K0 := Keep.refl h0 []
  have Z0 : n0 ≤ h0.size := O.1 ▸ O.2.1
  have pre0 : ∀ t, Steps p.tables e below (s₁.setTop (mkF m 0 #[.val (.ref r0), .val .null, .val .null, .unset] [])) t → Steps p.tables e below (s₁.setTop (entryFrame m #[(.ref r0), .null, .null] 4)) t := fun t k => castTop (own_ef_sd00 m r0) k
  obtain ⟨T25, X25, e25, st25⟩ := getS2 X0 hx hZ hown (host := "") (Or.inl (hw _ (List.mem_of_getElem? (i := 15) rfl))) Via.refl e0 (B.1.ext O.2) (g := (mkF m 3 #[.val (.ref r0), .val .null, .val .null, .val .null] [(.ref r0)])) rfl (hb hby d2_3)
  have pre26 : ∀ t, Steps p.tables e below (T25.setTop (mkF m 6 #[.val (.ref r0), .val .null, .val .null, .val .null] [(.ref (u 0)), (.ref r0)])) t → Steps p.tables e below (s₁.setTop (entryFrame m #[(.ref r0), .null, .null] 4)) t := fun t kt => pre0 t (by
    show Steps p.tables e below (s₁.setTop (mkF m 0 #[.val (.ref r0), .val .null, .val .null, .unset] [])) _
    refine XS.aloadN X0.here hx rfl (hb hby d2_0) rfl rfl ?_
    show Steps p.tables e below (s₁.setTop (mkF m 1 #[.val (.ref r0), .val .null, .val .null, .unset] [.null])) _
    refine XS.astoreN X0.here hx rfl (hb hby d2_1) rfl rfl (l' := #[.val (.ref r0), .val .null, .val .null, .val .null]) rfl ?_
    show Steps p.tables e below (s₁.setTop (mkF m 2 #[.val (.ref r0), .val .null, .val .null, .val .null] [])) _
    refine XS.aloadN X0.here hx rfl (hb hby d2_2) rfl rfl ?_
    show Steps p.tables e below (s₁.setTop (mkF m 3 #[.val (.ref r0), .val .null, .val .null, .val .null] [(.ref r0)])) _
    refine st25 _ ?_
    exact kt)
  by_cases hc27 : r0 = (u 0)
  · --
    obtain ⟨fs, hr, hrun, hended, hW, hsame⟩ := X25.leave (v := some .null) (fun h => by rw [Bd.returns] at h; cases h)
    refine ⟨_, _, pre26 _ ?_, hrun, hended, _, _, rfl, ?_, ⟨_, rfl⟩, hW, hsame.mono (by decide) (by decide)⟩
    · show Steps p.tables e below (T25.setTop (mkF m 6 #[.val (.ref r0), .val .null, .val .null, .val .null] [(.ref (u 0)), (.ref r0)])) _
      refine Jvm.RoadKit.acmp (g := (mkF m 6 #[.val (.ref r0), .val .null, .val .null, .val .null] [(.ref (u 0)), (.ref r0)])) X25 hx rfl rfl rfl (pc0 := 6) (pc' := 9) (same := true) rfl (hb hby d2_6) rfl (decide_eq_true (congrArg Value.ref hc27)) (by decide) (by decide) ?_
      show Steps p.tables e below (T25.setTop (mkF m 9 #[.val (.ref r0), .val .null, .val .null, .val .null] [])) _
      refine XS.aloadN X25.here hx rfl (hb hby d2_9) rfl rfl ?_
      show Steps p.tables e below (T25.setTop (mkF m 10 #[.val (.ref r0), .val .null, .val .null, .val .null] [.null])) _
      refine XS.ifnullYes X25.here hx rfl (pc0 := 10) (pc' := 19) rfl (hb hby d2_10) rfl (by decide) (by decide) ?_
      show Steps p.tables e below (T25.setTop (mkF m 19 #[.val (.ref r0), .val .null, .val .null, .val .null] [])) _
      refine XS.aloadN X25.here hx rfl (hb hby d2_19) rfl rfl ?_
      show Steps p.tables e below (T25.setTop (mkF m 20 #[.val (.ref r0), .val .null, .val .null, .val .null] [.null])) _
      exact retOut X25 hx Bd.returns (own_narref rfl rfl) (Or.inr (Or.inr (Or.inr (Or.inr ⟨rfl, rfl, rfl⟩)))) (hb hby d2_20) hr
    · show own_Qsd00 Z u r0 h0 n0 _ T25.heap _
      rw [e25]
      exact ⟨(by unfold own_rsd00; rw [if_pos hc27]), N0, rfl⟩
  · --
    obtain ⟨fs, hr, hrun, hended, hW, hsame⟩ := X25.leave (v := some .null) (fun h => by rw [Bd.returns] at h; cases h)
    refine ⟨_, _, pre26 _ ?_, hrun, hended, _, _, rfl, ?_, ⟨_, rfl⟩, hW, hsame.mono (by decide) (by decide)⟩
    · show Steps p.tables e below (T25.setTop (mkF m 6 #[.val (.ref r0), .val .null, .val .null, .val .null] [(.ref (u 0)), (.ref r0)])) _
      refine Jvm.RoadKit.acmp (g := (mkF m 6 #[.val (.ref r0), .val .null, .val .null, .val .null] [(.ref (u 0)), (.ref r0)])) X25 hx rfl rfl rfl (pc0 := 6) (pc' := 19) (same := false) rfl (hb hby d2_6) rfl (decide_eq_false fun q => hc27 (Value.ref.inj q)) (by decide) (by decide) ?_
      show Steps p.tables e below (T25.setTop (mkF m 19 #[.val (.ref r0), .val .null, .val .null, .val .null] [])) _
      refine XS.aloadN X25.here hx rfl (hb hby d2_19) rfl rfl ?_
      show Steps p.tables e below (T25.setTop (mkF m 20 #[.val (.ref r0), .val .null, .val .null, .val .null] [.null])) _
      exact retOut X25 hx Bd.returns (own_narref rfl rfl) (Or.inr (Or.inr (Or.inr (Or.inr ⟨rfl, rfl, rfl⟩)))) (hb hby d2_20) hr
    · show own_Qsd00 Z u r0 h0 n0 _ T25.heap _
      rw [e25]
      exact ⟨(by unfold own_rsd00; rw [if_neg hc27]), N0, rfl⟩
theorem own_ef_sd01 (m : MethodId) (x0 : Addr) (x2 : Addr) : entryFrame m #[(.ref x0), .null, (.ref x2)] 4 = mkF m 0 #[.val (.ref x0), .val .null, .val (.ref x2), .unset] [] := by first | (simp [entryFrame, mkF, argsToLocals, Value.category]; done) | rfl
def own_rsd01 (u : Nat → Addr) (r0 : Addr) (r2 : Addr) : Value :=
  if r0 = (u 0) then
    .null
  else
    .null
theorem own_rsd01_ref {u : Nat → Addr} {r0 : Addr} {r2 : Addr} : (own_rsd01 u r0 r2).isRef = true := by
  unfold own_rsd01
  repeat' split
  all_goals rfl
def own_Qsd01 (Z : State) (u : Nat → Addr) (r0 : Addr) (r2 : Addr) (h0 : Heap) (n0 : Nat) (v : Option Value) (h : Heap) (L : List Loc) : Prop := v = some (own_rsd01 u r0 r2) ∧ Fr n0 L ∧ h = h0
set_option maxRecDepth 65536 in
set_option maxHeartbeats 40000000 in
theorem rmsd01 (l : Launch) (Z : State) (a0 : Array Value) (hw : ∀ d ∈ tables_1, d.before a0 Z = true) (ws : List Jvm.Cond) (u : Nat → Addr) (r0 : Addr) (r2 : Addr) (B : own_Base Z u) (h0 : Heap) (n0 : Nat) (O : Old Z n0 h0) :
    MetFree l (⟨"com/example/vetted_ledger/vettedledger/engine/BillingAlignment", "subscriptionDay", "(Ljava/lang/Integer;Ljava/lang/Integer;)Ljava/lang/Integer;"⟩ : MethodName) (head1 (Jvm.Cond.code (⟨"com/example/vetted_ledger/vettedledger/engine/BillingAlignment", "subscriptionDay", "(Ljava/lang/Integer;Ljava/lang/Integer;)Ljava/lang/Integer;"⟩ : MethodName) prog_2_method_4_code 4 (some (.object "java/lang/Integer")) :: ws) ({ frames := 0, cells := 0, slots := 0, locals := 0 } : Room)) (fun a U => a = #[(.ref r0), .null, (.ref r2)] ∧ Z.Warmed39 U.vm ∧ U.heap = h0) (fun _ _ _ _ _ => True) (fun _ U o U' => ∃ v L, o = .returned v ∧ own_Qsd01 Z u r0 r2 h0 n0 v U'.heap L ∧ FrameEnd U o U' L ({ frames := 0, cells := 0, slots := 0, locals := 0 } : Room).cells ({ frames := 0, cells := 0, slots := 0, locals := 0 } : Room).slots) := by
  refine MetFree.of_bodySF (plainFor_of_name own_pn_2) hisR ?_
  intro p e s m args below meth c s₁ Bd hml0 hP hK
  obtain ⟨rfl, hZ, hh⟩ := hP
  have hx := Bd.exec
  have hby := Bd.bytes
  have hml : c.maxLocals = 4 := hml0
  have hown : s.vm.findClass "com/example/vetted_ledger/vettedledger/engine/BillingAlignment" = some m.cls := findClass_of_methodNamed Bd.named
  have hnm := (name_of_methodNamed Bd.named Bd.method).1
  have X0 : Stand p l e ({ frames := 0, cells := 0, slots := 0, locals := 0 } : Room) s m #[(.ref r0), .null, (.ref r2)] below meth c s₁ [] 0 0 := Stand.of_body Bd
  have e0 : s₁.heap = h0 := by rw [← hh, Bd.state]; rfl
  have N0 := Fr.nil n0
  have K0 := Keep.refl h0 []
  have Z0 : n0 ≤ h0.size := O.1 ▸ O.2.1
  have pre0 : ∀ t, Steps p.tables e below (s₁.setTop (mkF m 0 #[.val (.ref r0), .val .null, .val (.ref r2), .unset] [])) t → Steps p.tables e below (s₁.setTop (entryFrame m #[(.ref r0), .null, (.ref r2)] 4)) t := fun t k => castTop (own_ef_sd01 m r0 r2) k
  obtain ⟨T30, X30, e30, st30⟩ := getS2 X0 hx hZ hown (host := "") (Or.inl (hw _ (List.mem_of_getElem? (i := 15) rfl))) Via.refl e0 (B.1.ext O.2) (g := (mkF m 3 #[.val (.ref r0), .val .null, .val (.ref r2), .val .null] [(.ref r0)])) rfl (hb hby d2_3)
  have pre31 : ∀ t, Steps p.tables e below (T30.setTop (mkF m 6 #[.val (.ref r0), .val .null, .val (.ref r2), .val .null] [(.ref (u 0)), (.ref r0)])) t → Steps p.tables e below (s₁.setTop (entryFrame m #[(.ref r0), .null, (.ref r2)] 4)) t := fun t kt => pre0 t (by
    show Steps p.tables e below (s₁.setTop (mkF m 0 #[.val (.ref r0), .val .null, .val (.ref r2), .unset] [])) _
    refine XS.aloadN X0.here hx rfl (hb hby d2_0) rfl rfl ?_
    show Steps p.tables e below (s₁.setTop (mkF m 1 #[.val (.ref r0), .val .null, .val (.ref r2), .unset] [.null])) _
    refine XS.astoreN X0.here hx rfl (hb hby d2_1) rfl rfl (l' := #[.val (.ref r0), .val .null, .val (.ref r2), .val .null]) rfl ?_
    show Steps p.tables e below (s₁.setTop (mkF m 2 #[.val (.ref r0), .val .null, .val (.ref r2), .val .null] [])) _
    refine XS.aloadN X0.here hx rfl (hb hby d2_2) rfl rfl ?_
    show Steps p.tables e below (s₁.setTop (mkF m 3 #[.val (.ref r0), .val .null, .val (.ref r2), .val .null] [(.ref r0)])) _
    refine st30 _ ?_
    exact kt)
  by_cases hc32 : r0 = (u 0)
  · --
    obtain ⟨fs, hr, hrun, hended, hW, hsame⟩ := X30.leave (v := some .null) (fun h => by rw [Bd.returns] at h; cases h)
    refine ⟨_, _, pre31 _ ?_, hrun, hended, _, _, rfl, ?_, ⟨_, rfl⟩, hW, hsame.mono (by decide) (by decide)⟩
    · show Steps p.tables e below (T30.setTop (mkF m 6 #[.val (.ref r0), .val .null, .val (.ref r2), .val .null] [(.ref (u 0)), (.ref r0)])) _
      refine Jvm.RoadKit.acmp (g := (mkF m 6 #[.val (.ref r0), .val .null, .val (.ref r2), .val .null] [(.ref (u 0)), (.ref r0)])) X30 hx rfl rfl rfl (pc0 := 6) (pc' := 9) (same := true) rfl (hb hby d2_6) rfl (decide_eq_true (congrArg Value.ref hc32)) (by decide) (by decide) ?_
      show Steps p.tables e below (T30.setTop (mkF m 9 #[.val (.ref r0), .val .null, .val (.ref r2), .val .null] [])) _
      refine XS.aloadN X30.here hx rfl (hb hby d2_9) rfl rfl ?_
      show Steps p.tables e below (T30.setTop (mkF m 10 #[.val (.ref r0), .val .null, .val (.ref r2), .val .null] [.null])) _
      refine XS.ifnullYes X30.here hx rfl (pc0 := 10) (pc' := 19) rfl (hb hby d2_10) rfl (by decide) (by decide) ?_
      show Steps p.tables e below (T30.setTop (mkF m 19 #[.val (.ref r0), .val .null, .val (.ref r2), .val .null] [])) _
      refine XS.aloadN X30.here hx rfl (hb hby d2_19) rfl rfl ?_
      show Steps p.tables e below (T30.setTop (mkF m 20 #[.val (.ref r0), .val .null, .val (.ref r2), .val .null] [.null])) _
      exact retOut X30 hx Bd.returns (own_narref rfl rfl) (Or.inr (Or.inr (Or.inr (Or.inr ⟨rfl, rfl, rfl⟩)))) (hb hby d2_20) hr
    · show own_Qsd01 Z u r0 r2 h0 n0 _ T30.heap _
      rw [e30]
      exact ⟨(by unfold own_rsd01; rw [if_pos hc32]), N0, rfl⟩
  · --
    obtain ⟨fs, hr, hrun, hended, hW, hsame⟩ := X30.leave (v := some .null) (fun h => by rw [Bd.returns] at h; cases h)
    refine ⟨_, _, pre31 _ ?_, hrun, hended, _, _, rfl, ?_, ⟨_, rfl⟩, hW, hsame.mono (by decide) (by decide)⟩
    · show Steps p.tables e below (T30.setTop (mkF m 6 #[.val (.ref r0), .val .null, .val (.ref r2), .val .null] [(.ref (u 0)), (.ref r0)])) _
      refine Jvm.RoadKit.acmp (g := (mkF m 6 #[.val (.ref r0), .val .null, .val (.ref r2), .val .null] [(.ref (u 0)), (.ref r0)])) X30 hx rfl rfl rfl (pc0 := 6) (pc' := 19) (same := false) rfl (hb hby d2_6) rfl (decide_eq_false fun q => hc32 (Value.ref.inj q)) (by decide) (by decide) ?_
      show Steps p.tables e below (T30.setTop (mkF m 19 #[.val (.ref r0), .val .null, .val (.ref r2), .val .null] [])) _
      refine XS.aloadN X30.here hx rfl (hb hby d2_19) rfl rfl ?_
      show Steps p.tables e below (T30.setTop (mkF m 20 #[.val (.ref r0), .val .null, .val (.ref r2), .val .null] [.null])) _
      exact retOut X30 hx Bd.returns (own_narref rfl rfl) (Or.inr (Or.inr (Or.inr (Or.inr ⟨rfl, rfl, rfl⟩)))) (hb hby d2_20) hr
    · show own_Qsd01 Z u r0 r2 h0 n0 _ T30.heap _
      rw [e30]
      exact ⟨(by unfold own_rsd01; rw [if_neg hc32]), N0, rfl⟩
theorem d2_13 : decode prog_2_method_4_code 13 = .ok (.aload_n 2, 1) := by decide +kernel
theorem d2_14 : decode prog_2_method_4_code 14 = .ok (.ifnull 5, 3) := by decide +kernel
theorem own_ef_sd10 (m : MethodId) (x0 : Addr) (x1 : Addr) : entryFrame m #[(.ref x0), (.ref x1), .null] 4 = mkF m 0 #[.val (.ref x0), .val (.ref x1), .val .null, .unset] [] := by first | (simp [entryFrame, mkF, argsToLocals, Value.category]; done) | rfl
def own_rsd10 (u : Nat → Addr) (r0 : Addr) (r1 : Addr) : Addr :=
  if r0 = (u 0) then
    r1
  else
    r1
def own_Qsd10 (Z : State) (u : Nat → Addr) (r0 : Addr) (r1 : Addr) (h0 : Heap) (n0 : Nat) (v : Option Value) (h : Heap) (L : List Loc) : Prop := v = some (.ref (own_rsd10 u r0 r1)) ∧ Fr n0 L ∧ h = h0
set_option maxRecDepth 65536 in
set_option maxHeartbeats 40000000 in
theorem rmsd10 (l : Launch) (Z : State) (a0 : Array Value) (hw : ∀ d ∈ tables_1, d.before a0 Z = true) (ws : List Jvm.Cond) (u : Nat → Addr) (r0 : Addr) (r1 : Addr) (B : own_Base Z u) (h0 : Heap) (n0 : Nat) (O : Old Z n0 h0) :
    MetFree l (⟨"com/example/vetted_ledger/vettedledger/engine/BillingAlignment", "subscriptionDay", "(Ljava/lang/Integer;Ljava/lang/Integer;)Ljava/lang/Integer;"⟩ : MethodName) (head1 (Jvm.Cond.code (⟨"com/example/vetted_ledger/vettedledger/engine/BillingAlignment", "subscriptionDay", "(Ljava/lang/Integer;Ljava/lang/Integer;)Ljava/lang/Integer;"⟩ : MethodName) prog_2_method_4_code 4 (some (.object "java/lang/Integer")) :: ws) ({ frames := 0, cells := 0, slots := 0, locals := 0 } : Room)) (fun a U => a = #[(.ref r0), (.ref r1), .null] ∧ Z.Warmed39 U.vm ∧ U.heap = h0) (fun _ _ _ _ _ => True) (fun _ U o U' => ∃ v L, o = .returned v ∧ own_Qsd10 Z u r0 r1 h0 n0 v U'.heap L ∧ FrameEnd U o U' L ({ frames := 0, cells := 0, slots := 0, locals := 0 } : Room).cells ({ frames := 0, cells := 0, slots := 0, locals := 0 } : Room).slots) := by
  refine MetFree.of_bodySF (plainFor_of_name own_pn_2) hisR ?_
  intro p e s m args below meth c s₁ Bd hml0 hP hK
  obtain ⟨rfl, hZ, hh⟩ := hP
  have hx := Bd.exec
  have hby := Bd.bytes
  have hml : c.maxLocals = 4 := hml0
  have hown : s.vm.findClass "com/example/vetted_ledger/vettedledger/engine/BillingAlignment" = some m.cls := findClass_of_methodNamed Bd.named
  have hnm := (name_of_methodNamed Bd.named Bd.method).1
  have X0 : Stand p l e ({ frames := 0, cells := 0, slots := 0, locals := 0 } : Room) s m #[(.ref r0), (.ref r1), .null] below meth c s₁ [] 0 0 := Stand.of_body Bd
  have e0 : s₁.heap = h0 := by rw [← hh, Bd.state]; rfl
  have N0 := Fr.nil n0
  have K0 := Keep.refl h0 []
  have Z0 : n0 ≤ h0.size := O.1 ▸ O.2.1
  have pre0 : ∀ t, Steps p.tables e below (s₁.setTop (mkF m 0 #[.val (.ref r0), .val (.ref r1), .val .null, .unset] [])) t → Steps p.tables e below (s₁.setTop (entryFrame m #[(.ref r0), (.ref r1), .null] 4)) t := fun t k => castTop (own_ef_sd10 m r0 r1) k
  obtain ⟨T35, X35, e35, st35⟩ := getS2 X0 hx hZ hown (host := "") (Or.inl (hw _ (List.mem_of_getElem? (i := 15) rfl))) Via.refl e0 (B.1.ext O.2) (g := (mkF m 3 #[.val (.ref r0), .val (.ref r1), .val .null, .val (.ref r1)] [(.ref r0)])) rfl (hb hby d2_3)
  have pre36 : ∀ t, Steps p.tables e below (T35.setTop (mkF m 6 #[.val (.ref r0), .val (.ref r1), .val .null, .val (.ref r1)] [(.ref (u 0)), (.ref r0)])) t → Steps p.tables e below (s₁.setTop (entryFrame m #[(.ref r0), (.ref r1), .null] 4)) t := fun t kt => pre0 t (by
    show Steps p.tables e below (s₁.setTop (mkF m 0 #[.val (.ref r0), .val (.ref r1), .val .null, .unset] [])) _
    refine XS.aloadN X0.here hx rfl (hb hby d2_0) rfl rfl ?_
    show Steps p.tables e below (s₁.setTop (mkF m 1 #[.val (.ref r0), .val (.ref r1), .val .null, .unset] [(.ref r1)])) _
    refine XS.astoreN X0.here hx rfl (hb hby d2_1) rfl rfl (l' := #[.val (.ref r0), .val (.ref r1), .val .null, .val (.ref r1)]) rfl ?_
    show Steps p.tables e below (s₁.setTop (mkF m 2 #[.val (.ref r0), .val (.ref r1), .val .null, .val (.ref r1)] [])) _
    refine XS.aloadN X0.here hx rfl (hb hby d2_2) rfl rfl ?_
    show Steps p.tables e below (s₁.setTop (mkF m 3 #[.val (.ref r0), .val (.ref r1), .val .null, .val (.ref r1)] [(.ref r0)])) _
    refine st35 _ ?_
    exact kt)
  by_cases hc37 : r0 = (u 0)
  · --
    obtain ⟨fs, hr, hrun, hended, hW, hsame⟩ := X35.leave (v := some (.ref r1)) (fun h => by rw [Bd.returns] at h; cases h)
    refine ⟨_, _, pre36 _ ?_, hrun, hended, _, _, rfl, ?_, ⟨_, rfl⟩, hW, hsame.mono (by decide) (by decide)⟩
    · show Steps p.tables e below (T35.setTop (mkF m 6 #[.val (.ref r0), .val (.ref r1), .val .null, .val (.ref r1)] [(.ref (u 0)), (.ref r0)])) _
      refine Jvm.RoadKit.acmp (g := (mkF m 6 #[.val (.ref r0), .val (.ref r1), .val .null, .val (.ref r1)] [(.ref (u 0)), (.ref r0)])) X35 hx rfl rfl rfl (pc0 := 6) (pc' := 9) (same := true) rfl (hb hby d2_6) rfl (decide_eq_true (congrArg Value.ref hc37)) (by decide) (by decide) ?_
      show Steps p.tables e below (T35.setTop (mkF m 9 #[.val (.ref r0), .val (.ref r1), .val .null, .val (.ref r1)] [])) _
      refine XS.aloadN X35.here hx rfl (hb hby d2_9) rfl rfl ?_
      show Steps p.tables e below (T35.setTop (mkF m 10 #[.val (.ref r0), .val (.ref r1), .val .null, .val (.ref r1)] [(.ref r1)])) _
      refine XS.ifnullNo X35.here hx rfl (hb hby d2_10) rfl ?_
      show Steps p.tables e below (T35.setTop (mkF m 13 #[.val (.ref r0), .val (.ref r1), .val .null, .val (.ref r1)] [])) _
      refine XS.aloadN X35.here hx rfl (hb hby d2_13) rfl rfl ?_
      show Steps p.tables e below (T35.setTop (mkF m 14 #[.val (.ref r0), .val (.ref r1), .val .null, .val (.ref r1)] [.null])) _
      refine XS.ifnullYes X35.here hx rfl (pc0 := 14) (pc' := 19) rfl (hb hby d2_14) rfl (by decide) (by decide) ?_
      show Steps p.tables e below (T35.setTop (mkF m 19 #[.val (.ref r0), .val (.ref r1), .val .null, .val (.ref r1)] [])) _
      refine XS.aloadN X35.here hx rfl (hb hby d2_19) rfl rfl ?_
      show Steps p.tables e below (T35.setTop (mkF m 20 #[.val (.ref r0), .val (.ref r1), .val .null, .val (.ref r1)] [(.ref r1)])) _
      exact retOut X35 hx Bd.returns (own_narref rfl rfl) (Or.inr (Or.inr (Or.inr (Or.inr ⟨rfl, rfl, rfl⟩)))) (hb hby d2_20) hr
    · show own_Qsd10 Z u r0 r1 h0 n0 _ T35.heap _
      rw [e35]
      exact ⟨(by unfold own_rsd10; rw [if_pos hc37]), N0, rfl⟩
  · --
    obtain ⟨fs, hr, hrun, hended, hW, hsame⟩ := X35.leave (v := some (.ref r1)) (fun h => by rw [Bd.returns] at h; cases h)
    refine ⟨_, _, pre36 _ ?_, hrun, hended, _, _, rfl, ?_, ⟨_, rfl⟩, hW, hsame.mono (by decide) (by decide)⟩
    · show Steps p.tables e below (T35.setTop (mkF m 6 #[.val (.ref r0), .val (.ref r1), .val .null, .val (.ref r1)] [(.ref (u 0)), (.ref r0)])) _
      refine Jvm.RoadKit.acmp (g := (mkF m 6 #[.val (.ref r0), .val (.ref r1), .val .null, .val (.ref r1)] [(.ref (u 0)), (.ref r0)])) X35 hx rfl rfl rfl (pc0 := 6) (pc' := 19) (same := false) rfl (hb hby d2_6) rfl (decide_eq_false fun q => hc37 (Value.ref.inj q)) (by decide) (by decide) ?_
      show Steps p.tables e below (T35.setTop (mkF m 19 #[.val (.ref r0), .val (.ref r1), .val .null, .val (.ref r1)] [])) _
      refine XS.aloadN X35.here hx rfl (hb hby d2_19) rfl rfl ?_
      show Steps p.tables e below (T35.setTop (mkF m 20 #[.val (.ref r0), .val (.ref r1), .val .null, .val (.ref r1)] [(.ref r1)])) _
      exact retOut X35 hx Bd.returns (own_narref rfl rfl) (Or.inr (Or.inr (Or.inr (Or.inr ⟨rfl, rfl, rfl⟩)))) (hb hby d2_20) hr
    · show own_Qsd10 Z u r0 r1 h0 n0 _ T35.heap _
      rw [e35]
      exact ⟨(by unfold own_rsd10; rw [if_neg hc37]), N0, rfl⟩
theorem d2_17 : decode prog_2_method_4_code 17 = .ok (.aload_n 2, 1) := by decide +kernel
theorem d2_18 : decode prog_2_method_4_code 18 = .ok (.astore_n 3, 1) := by decide +kernel
theorem own_ef_sd11 (m : MethodId) (x0 : Addr) (x1 : Addr) (x2 : Addr) : entryFrame m #[(.ref x0), (.ref x1), (.ref x2)] 4 = mkF m 0 #[.val (.ref x0), .val (.ref x1), .val (.ref x2), .unset] [] := by first | (simp [entryFrame, mkF, argsToLocals, Value.category]; done) | rfl
def own_rsd11 (u : Nat → Addr) (r0 : Addr) (r1 : Addr) (r2 : Addr) : Addr :=
  if r0 = (u 0) then
    r2
  else
    r1
def own_Qsd11 (Z : State) (u : Nat → Addr) (r0 : Addr) (r1 : Addr) (r2 : Addr) (h0 : Heap) (n0 : Nat) (v : Option Value) (h : Heap) (L : List Loc) : Prop := v = some (.ref (own_rsd11 u r0 r1 r2)) ∧ Fr n0 L ∧ h = h0
set_option maxRecDepth 65536 in
set_option maxHeartbeats 40000000 in
theorem rmsd11 (l : Launch) (Z : State) (a0 : Array Value) (hw : ∀ d ∈ tables_1, d.before a0 Z = true) (ws : List Jvm.Cond) (u : Nat → Addr) (r0 : Addr) (r1 : Addr) (r2 : Addr) (B : own_Base Z u) (h0 : Heap) (n0 : Nat) (O : Old Z n0 h0) :
    MetFree l (⟨"com/example/vetted_ledger/vettedledger/engine/BillingAlignment", "subscriptionDay", "(Ljava/lang/Integer;Ljava/lang/Integer;)Ljava/lang/Integer;"⟩ : MethodName) (head1 (Jvm.Cond.code (⟨"com/example/vetted_ledger/vettedledger/engine/BillingAlignment", "subscriptionDay", "(Ljava/lang/Integer;Ljava/lang/Integer;)Ljava/lang/Integer;"⟩ : MethodName) prog_2_method_4_code 4 (some (.object "java/lang/Integer")) :: ws) ({ frames := 0, cells := 0, slots := 0, locals := 0 } : Room)) (fun a U => a = #[(.ref r0), (.ref r1), (.ref r2)] ∧ Z.Warmed39 U.vm ∧ U.heap = h0) (fun _ _ _ _ _ => True) (fun _ U o U' => ∃ v L, o = .returned v ∧ own_Qsd11 Z u r0 r1 r2 h0 n0 v U'.heap L ∧ FrameEnd U o U' L ({ frames := 0, cells := 0, slots := 0, locals := 0 } : Room).cells ({ frames := 0, cells := 0, slots := 0, locals := 0 } : Room).slots) := by
  refine MetFree.of_bodySF (plainFor_of_name own_pn_2) hisR ?_
  intro p e s m args below meth c s₁ Bd hml0 hP hK
  obtain ⟨rfl, hZ, hh⟩ := hP
  have hx := Bd.exec
  have hby := Bd.bytes
  have hml : c.maxLocals = 4 := hml0
  have hown : s.vm.findClass "com/example/vetted_ledger/vettedledger/engine/BillingAlignment" = some m.cls := findClass_of_methodNamed Bd.named
  have hnm := (name_of_methodNamed Bd.named Bd.method).1
  have X0 : Stand p l e ({ frames := 0, cells := 0, slots := 0, locals := 0 } : Room) s m #[(.ref r0), (.ref r1), (.ref r2)] below meth c s₁ [] 0 0 := Stand.of_body Bd
  have e0 : s₁.heap = h0 := by rw [← hh, Bd.state]; rfl
  have N0 := Fr.nil n0
  have K0 := Keep.refl h0 []
  have Z0 : n0 ≤ h0.size := O.1 ▸ O.2.1
  have pre0 : ∀ t, Steps p.tables e below (s₁.setTop (mkF m 0 #[.val (.ref r0), .val (.ref r1), .val (.ref r2), .unset] [])) t → Steps p.tables e below (s₁.setTop (entryFrame m #[(.ref r0), (.ref r1), (.ref r2)] 4)) t := fun t k => castTop (own_ef_sd11 m r0 r1 r2) k
  obtain ⟨T40, X40, e40, st40⟩ := getS2 X0 hx hZ hown (host := "") (Or.inl (hw _ (List.mem_of_getElem? (i := 15) rfl))) Via.refl e0 (B.1.ext O.2) (g := (mkF m 3 #[.val (.ref r0), .val (.ref r1), .val (.ref r2), .val (.ref r1)] [(.ref r0)])) rfl (hb hby d2_3)
  have pre41 : ∀ t, Steps p.tables e below (T40.setTop (mkF m 6 #[.val (.ref r0), .val (.ref r1), .val (.ref r2), .val (.ref r1)] [(.ref (u 0)), (.ref r0)])) t → Steps p.tables e below (s₁.setTop (entryFrame m #[(.ref r0), (.ref r1), (.ref r2)] 4)) t := fun t kt => pre0 t (by
    show Steps p.tables e below (s₁.setTop (mkF m 0 #[.val (.ref r0), .val (.ref r1), .val (.ref r2), .unset] [])) _
    refine XS.aloadN X0.here hx rfl (hb hby d2_0) rfl rfl ?_
    show Steps p.tables e below (s₁.setTop (mkF m 1 #[.val (.ref r0), .val (.ref r1), .val (.ref r2), .unset] [(.ref r1)])) _
    refine XS.astoreN X0.here hx rfl (hb hby d2_1) rfl rfl (l' := #[.val (.ref r0), .val (.ref r1), .val (.ref r2), .val (.ref r1)]) rfl ?_
    show Steps p.tables e below (s₁.setTop (mkF m 2 #[.val (.ref r0), .val (.ref r1), .val (.ref r2), .val (.ref r1)] [])) _
    refine XS.aloadN X0.here hx rfl (hb hby d2_2) rfl rfl ?_
    show Steps p.tables e below (s₁.setTop (mkF m 3 #[.val (.ref r0), .val (.ref r1), .val (.ref r2), .val (.ref r1)] [(.ref r0)])) _
    refine st40 _ ?_
    exact kt)
  by_cases hc42 : r0 = (u 0)
  · --
    obtain ⟨fs, hr, hrun, hended, hW, hsame⟩ := X40.leave (v := some (.ref r2)) (fun h => by rw [Bd.returns] at h; cases h)
    refine ⟨_, _, pre41 _ ?_, hrun, hended, _, _, rfl, ?_, ⟨_, rfl⟩, hW, hsame.mono (by decide) (by decide)⟩
    · show Steps p.tables e below (T40.setTop (mkF m 6 #[.val (.ref r0), .val (.ref r1), .val (.ref r2), .val (.ref r1)] [(.ref (u 0)), (.ref r0)])) _
      refine Jvm.RoadKit.acmp (g := (mkF m 6 #[.val (.ref r0), .val (.ref r1), .val (.ref r2), .val (.ref r1)] [(.ref (u 0)), (.ref r0)])) X40 hx rfl rfl rfl (pc0 := 6) (pc' := 9) (same := true) rfl (hb hby d2_6) rfl (decide_eq_true (congrArg Value.ref hc42)) (by decide) (by decide) ?_
      show Steps p.tables e below (T40.setTop (mkF m 9 #[.val (.ref r0), .val (.ref r1), .val (.ref r2), .val (.ref r1)] [])) _
      refine XS.aloadN X40.here hx rfl (hb hby d2_9) rfl rfl ?_
      show Steps p.tables e below (T40.setTop (mkF m 10 #[.val (.ref r0), .val (.ref r1), .val (.ref r2), .val (.ref r1)] [(.ref r1)])) _
      refine XS.ifnullNo X40.here hx rfl (hb hby d2_10) rfl ?_
      show Steps p.tables e below (T40.setTop (mkF m 13 #[.val (.ref r0), .val (.ref r1), .val (.ref r2), .val (.ref r1)] [])) _
      refine XS.aloadN X40.here hx rfl (hb hby d2_13) rfl rfl ?_
      show Steps p.tables e below (T40.setTop (mkF m 14 #[.val (.ref r0), .val (.ref r1), .val (.ref r2), .val (.ref r1)] [(.ref r2)])) _
      refine XS.ifnullNo X40.here hx rfl (hb hby d2_14) rfl ?_
      show Steps p.tables e below (T40.setTop (mkF m 17 #[.val (.ref r0), .val (.ref r1), .val (.ref r2), .val (.ref r1)] [])) _
      refine XS.aloadN X40.here hx rfl (hb hby d2_17) rfl rfl ?_
      show Steps p.tables e below (T40.setTop (mkF m 18 #[.val (.ref r0), .val (.ref r1), .val (.ref r2), .val (.ref r1)] [(.ref r2)])) _
      refine XS.astoreN X40.here hx rfl (hb hby d2_18) rfl rfl (l' := #[.val (.ref r0), .val (.ref r1), .val (.ref r2), .val (.ref r2)]) rfl ?_
      show Steps p.tables e below (T40.setTop (mkF m 19 #[.val (.ref r0), .val (.ref r1), .val (.ref r2), .val (.ref r2)] [])) _
      refine XS.aloadN X40.here hx rfl (hb hby d2_19) rfl rfl ?_
      show Steps p.tables e below (T40.setTop (mkF m 20 #[.val (.ref r0), .val (.ref r1), .val (.ref r2), .val (.ref r2)] [(.ref r2)])) _
      exact retOut X40 hx Bd.returns (own_narref rfl rfl) (Or.inr (Or.inr (Or.inr (Or.inr ⟨rfl, rfl, rfl⟩)))) (hb hby d2_20) hr
    · show own_Qsd11 Z u r0 r1 r2 h0 n0 _ T40.heap _
      rw [e40]
      exact ⟨(by unfold own_rsd11; rw [if_pos hc42]), N0, rfl⟩
  · --
    obtain ⟨fs, hr, hrun, hended, hW, hsame⟩ := X40.leave (v := some (.ref r1)) (fun h => by rw [Bd.returns] at h; cases h)
    refine ⟨_, _, pre41 _ ?_, hrun, hended, _, _, rfl, ?_, ⟨_, rfl⟩, hW, hsame.mono (by decide) (by decide)⟩
    · show Steps p.tables e below (T40.setTop (mkF m 6 #[.val (.ref r0), .val (.ref r1), .val (.ref r2), .val (.ref r1)] [(.ref (u 0)), (.ref r0)])) _
      refine Jvm.RoadKit.acmp (g := (mkF m 6 #[.val (.ref r0), .val (.ref r1), .val (.ref r2), .val (.ref r1)] [(.ref (u 0)), (.ref r0)])) X40 hx rfl rfl rfl (pc0 := 6) (pc' := 19) (same := false) rfl (hb hby d2_6) rfl (decide_eq_false fun q => hc42 (Value.ref.inj q)) (by decide) (by decide) ?_
      show Steps p.tables e below (T40.setTop (mkF m 19 #[.val (.ref r0), .val (.ref r1), .val (.ref r2), .val (.ref r1)] [])) _
      refine XS.aloadN X40.here hx rfl (hb hby d2_19) rfl rfl ?_
      show Steps p.tables e below (T40.setTop (mkF m 20 #[.val (.ref r0), .val (.ref r1), .val (.ref r2), .val (.ref r1)] [(.ref r1)])) _
      exact retOut X40 hx Bd.returns (own_narref rfl rfl) (Or.inr (Or.inr (Or.inr (Or.inr ⟨rfl, rfl, rfl⟩)))) (hb hby d2_20) hr
    · show own_Qsd11 Z u r0 r1 r2 h0 n0 _ T40.heap _
      rw [e40]
      exact ⟨(by unfold own_rsd11; rw [if_neg hc42]), N0, rfl⟩
theorem own_pn_0 : plainName "com/example/vetted_ledger/vettedledger/engine/BillingAlignmentSubscriptionDayPinLaw" = true := by first | (simp [plainName, overriddenIn]; done) | decide +kernel
theorem own_ef_0 (m : MethodId) (x0 : Int32) (x1 : Int32) (x2 : Int32) (x3 : Int32) : entryFrame m #[(.int x0), (.int x1), (.int x2), (.int x3)] maxLocals = mkF m 0 #[.val (.int x0), .val (.int x1), .val (.int x2), .val (.int x3), .unset, .unset, .unset, .unset, .unset, .unset, .unset, .unset] [] := by first | (simp [entryFrame, mkF, argsToLocals, Value.category, maxLocals]; done) | rfl
def own_Q0 (Z : State) (u : Nat → Addr) (p0 : Int32) (p1 : Int32) (p2 : Int32) (p3 : Int32) (h0 : Heap) (n0 : Nat) (v : Option Value) (h : Heap) (L : List Loc) : Prop := v = some (.int (1 : Int32)) ∧ Fr n0 L ∧ True
set_option maxRecDepth 65536 in
set_option maxHeartbeats 40000000 in
theorem rm0 (l : Launch) (Z : State) (a0 : Array Value) (hw : ∀ d ∈ tables_1, d.before a0 Z = true) (ws : List Jvm.Cond) (u : Nat → Addr) (p0 : Int32) (p1 : Int32) (p2 : Int32) (p3 : Int32) (B : own_Base Z u) (h0 : Heap) (n0 : Nat) (O : Old Z n0 h0) :
    MetFree l x (head1 (Jvm.Cond.code x code maxLocals ret :: ws) room_1) (fun a U => a = #[(.int p0), (.int p1), (.int p2), (.int p3)] ∧ Z.Warmed39 U.vm ∧ U.heap = h0) (fun _ _ _ _ _ => True) (fun _ U o U' => ∃ v L, o = .returned v ∧ own_Q0 Z u p0 p1 p2 p3 h0 n0 v U'.heap L ∧ FrameEnd U o U' L room_1.cells room_1.slots) := by
  refine MetFree.of_bodySF (plainFor_of_name own_pn_0) hisR ?_
  intro p e s m args below meth c s₁ Bd hml0 hP hK
  obtain ⟨rfl, hZ, hh⟩ := hP
  have hx := Bd.exec
  have hby := Bd.bytes
  have hml : c.maxLocals = 12 := hml0
  have hown : s.vm.findClass "com/example/vetted_ledger/vettedledger/engine/BillingAlignmentSubscriptionDayPinLaw" = some m.cls := findClass_of_methodNamed Bd.named
  have hnm := (name_of_methodNamed Bd.named Bd.method).1
  have X0 : Stand p l e room_1 s m #[(.int p0), (.int p1), (.int p2), (.int p3)] below meth c s₁ [] 0 0 := Stand.of_body Bd
  have e0 : s₁.heap = h0 := by rw [← hh, Bd.state]; rfl
  have N0 := Fr.nil n0
  have K0 := Keep.refl h0 []
  have Z0 : n0 ≤ h0.size := O.1 ▸ O.2.1
  have pre0 : ∀ t, Steps p.tables e below (s₁.setTop (mkF m 0 #[.val (.int p0), .val (.int p1), .val (.int p2), .val (.int p3), .unset, .unset, .unset, .unset, .unset, .unset, .unset, .unset] [])) t → Steps p.tables e below (s₁.setTop (entryFrame m #[(.int p0), (.int p1), (.int p2), (.int p3)] maxLocals)) t := fun t k => castTop (own_ef_0 m p0 p1 p2 p3) k
  have pre45 : ∀ t, Steps p.tables e below (s₁.setTop (mkF m 3 #[.val (.int p0), .val (.int p1), .val (.int p2), .val (.int p3), .unset, .unset, .unset, .unset, .unset, .unset, .unset, .unset] [(.int (p0 &&& (1 : Int32)))])) t → Steps p.tables e below (s₁.setTop (entryFrame m #[(.int p0), (.int p1), (.int p2), (.int p3)] maxLocals)) t := fun t kt => pre0 t (by
    show Steps p.tables e below (s₁.setTop (mkF m 0 #[.val (.int p0), .val (.int p1), .val (.int p2), .val (.int p3), .unset, .unset, .unset, .unset, .unset, .unset, .unset, .unset] [])) _
    refine XS.iloadN X0.here hx rfl (hb hby at_0) rfl ?_
    show Steps p.tables e below (s₁.setTop (mkF m 1 #[.val (.int p0), .val (.int p1), .val (.int p2), .val (.int p3), .unset, .unset, .unset, .unset, .unset, .unset, .unset, .unset] [(.int p0)])) _
    refine XS.iconst X0.here hx rfl (hb hby at_1) ?_
    show Steps p.tables e below (s₁.setTop (mkF m 2 #[.val (.int p0), .val (.int p1), .val (.int p2), .val (.int p3), .unset, .unset, .unset, .unset, .unset, .unset, .unset, .unset] [(.int (1 : Int32)), (.int p0)])) _
    refine XS.iand X0.here hx rfl (hb hby at_2) rfl ?_
    exact kt)
  by_cases hc46 : (p0 &&& (1 : Int32)) = (0 : Int32)
  · --
    obtain ⟨T47, X47, e47, st47⟩ := getS2 X0 hx hZ hown (host := "") (Or.inl (hw _ (List.mem_of_getElem? (i := 0) rfl))) Via.refl e0 (B.1.ext O.2) (g := (mkF m 18 #[.val (.int p0), .val (.int p1), .val (.int p2), .val (.int p3), .val (.int (1 : Int32)), .unset, .unset, .unset, .unset, .unset, .unset, .unset] [])) rfl (hb hby at_18)
    have pre48 : ∀ t, Steps p.tables e below (T47.setTop (mkF m 32 #[.val (.int p0), .val (.int p1), .val (.int p2), .val (.int p3), .val (.int (1 : Int32)), .val (.ref (u 0)), .unset, .unset, .unset, .unset, .unset, .unset] [(.int (p3 &&& (1 : Int32)))])) t → Steps p.tables e below (s₁.setTop (entryFrame m #[(.int p0), (.int p1), (.int p2), (.int p3)] maxLocals)) t := fun t kt => pre45 t (by
      show Steps p.tables e below (s₁.setTop (mkF m 3 #[.val (.int p0), .val (.int p1), .val (.int p2), .val (.int p3), .unset, .unset, .unset, .unset, .unset, .unset, .unset, .unset] [(.int (p0 &&& (1 : Int32)))])) _
      refine XS.ifNo X0.here hx rfl (hb hby at_3) rfl ((if0 _ _).trans (teq hc46).2) ?_
      show Steps p.tables e below (s₁.setTop (mkF m 6 #[.val (.int p0), .val (.int p1), .val (.int p2), .val (.int p3), .unset, .unset, .unset, .unset, .unset, .unset, .unset, .unset] [])) _
      refine XS.iconst X0.here hx rfl (hb hby at_6) ?_
      show Steps p.tables e below (s₁.setTop (mkF m 7 #[.val (.int p0), .val (.int p1), .val (.int p2), .val (.int p3), .unset, .unset, .unset, .unset, .unset, .unset, .unset, .unset] [(.int (1 : Int32))])) _
      refine XS.goto X0.here hx rfl (pc0 := 7) (pc' := 11) rfl (hb hby at_7) (by decide) (by decide) ?_
      show Steps p.tables e below (s₁.setTop (mkF m 11 #[.val (.int p0), .val (.int p1), .val (.int p2), .val (.int p3), .unset, .unset, .unset, .unset, .unset, .unset, .unset, .unset] [(.int (1 : Int32))])) _
      refine XS.istore X0.here hx rfl (hb hby at_11) rfl (l' := #[.val (.int p0), .val (.int p1), .val (.int p2), .val (.int p3), .val (.int (1 : Int32)), .unset, .unset, .unset, .unset, .unset, .unset, .unset]) rfl ?_
      show Steps p.tables e below (s₁.setTop (mkF m 13 #[.val (.int p0), .val (.int p1), .val (.int p2), .val (.int p3), .val (.int (1 : Int32)), .unset, .unset, .unset, .unset, .unset, .unset, .unset] [])) _
      refine XS.iload X0.here hx rfl (hb hby at_13) rfl ?_
      show Steps p.tables e below (s₁.setTop (mkF m 15 #[.val (.int p0), .val (.int p1), .val (.int p2), .val (.int p3), .val (.int (1 : Int32)), .unset, .unset, .unset, .unset, .unset, .unset, .unset] [(.int (1 : Int32))])) _
      refine XS.ifNo X0.here hx rfl (hb hby at_15) rfl ((if0 _ _).trans (feq (by decide : ¬ ((1 : Int32) = (0 : Int32)))).1) ?_
      show Steps p.tables e below (s₁.setTop (mkF m 18 #[.val (.int p0), .val (.int p1), .val (.int p2), .val (.int p3), .val (.int (1 : Int32)), .unset, .unset, .unset, .unset, .unset, .unset, .unset] [])) _
      refine st47 _ ?_
      show Steps p.tables e below (T47.setTop (mkF m 21 #[.val (.int p0), .val (.int p1), .val (.int p2), .val (.int p3), .val (.int (1 : Int32)), .unset, .unset, .unset, .unset, .unset, .unset, .unset] [(.ref (u 0))])) _
      refine XS.goto X47.here hx rfl (pc0 := 21) (pc' := 27) rfl (hb hby at_21) (by decide) (by decide) ?_
      show Steps p.tables e below (T47.setTop (mkF m 27 #[.val (.int p0), .val (.int p1), .val (.int p2), .val (.int p3), .val (.int (1 : Int32)), .unset, .unset, .unset, .unset, .unset, .unset, .unset] [(.ref (u 0))])) _
      refine XS.astore X47.here hx rfl (hb hby at_27) rfl rfl (l' := #[.val (.int p0), .val (.int p1), .val (.int p2), .val (.int p3), .val (.int (1 : Int32)), .val (.ref (u 0)), .unset, .unset, .unset, .unset, .unset, .unset]) rfl ?_
      show Steps p.tables e below (T47.setTop (mkF m 29 #[.val (.int p0), .val (.int p1), .val (.int p2), .val (.int p3), .val (.int (1 : Int32)), .val (.ref (u 0)), .unset, .unset, .unset, .unset, .unset, .unset] [])) _
      refine XS.iloadN X47.here hx rfl (hb hby at_29) rfl ?_
      show Steps p.tables e below (T47.setTop (mkF m 30 #[.val (.int p0), .val (.int p1), .val (.int p2), .val (.int p3), .val (.int (1 : Int32)), .val (.ref (u 0)), .unset, .unset, .unset, .unset, .unset, .unset] [(.int p3)])) _
      refine XS.iconst X47.here hx rfl (hb hby at_30) ?_
      show Steps p.tables e below (T47.setTop (mkF m 31 #[.val (.int p0), .val (.int p1), .val (.int p2), .val (.int p3), .val (.int (1 : Int32)), .val (.ref (u 0)), .unset, .unset, .unset, .unset, .unset, .unset] [(.int (1 : Int32)), (.int p3)])) _
      refine XS.iand X47.here hx rfl (hb hby at_31) rfl ?_
      exact kt)
    by_cases hc49 : (p3 &&& (1 : Int32)) = (0 : Int32)
    · --
      have pre50 : ∀ t, Steps p.tables e below (T47.setTop (mkF m 45 #[.val (.int p0), .val (.int p1), .val (.int p2), .val (.int p3), .val (.int (1 : Int32)), .val (.ref (u 0)), .val (.int (0 : Int32)), .unset, .unset, .unset, .unset, .unset] [(.int (p3 &&& (2 : Int32)))])) t → Steps p.tables e below (s₁.setTop (entryFrame m #[(.int p0), (.int p1), (.int p2), (.int p3)] maxLocals)) t := fun t kt => pre48 t (by
        show Steps p.tables e below (T47.setTop (mkF m 32 #[.val (.int p0), .val (.int p1), .val (.int p2), .val (.int p3), .val (.int (1 : Int32)), .val (.ref (u 0)), .unset, .unset, .unset, .unset, .unset, .unset] [(.int (p3 &&& (1 : Int32)))])) _
        refine XS.ifYes X47.here hx rfl (pc0 := 32) (pc' := 39) rfl (hb hby at_32) rfl ((if0 _ _).trans (teq hc49).1) (by decide) (by decide) ?_
        show Steps p.tables e below (T47.setTop (mkF m 39 #[.val (.int p0), .val (.int p1), .val (.int p2), .val (.int p3), .val (.int (1 : Int32)), .val (.ref (u 0)), .unset, .unset, .unset, .unset, .unset, .unset] [])) _
        refine XS.iconst X47.here hx rfl (hb hby at_39) ?_
        show Steps p.tables e below (T47.setTop (mkF m 40 #[.val (.int p0), .val (.int p1), .val (.int p2), .val (.int p3), .val (.int (1 : Int32)), .val (.ref (u 0)), .unset, .unset, .unset, .unset, .unset, .unset] [(.int (0 : Int32))])) _
        refine XS.istore X47.here hx rfl (hb hby at_40) rfl (l' := #[.val (.int p0), .val (.int p1), .val (.int p2), .val (.int p3), .val (.int (1 : Int32)), .val (.ref (u 0)), .val (.int (0 : Int32)), .unset, .unset, .unset, .unset, .unset]) rfl ?_
        show Steps p.tables e below (T47.setTop (mkF m 42 #[.val (.int p0), .val (.int p1), .val (.int p2), .val (.int p3), .val (.int (1 : Int32)), .val (.ref (u 0)), .val (.int (0 : Int32)), .unset, .unset, .unset, .unset, .unset] [])) _
        refine XS.iloadN X47.here hx rfl (hb hby at_42) rfl ?_
        show Steps p.tables e below (T47.setTop (mkF m 43 #[.val (.int p0), .val (.int p1), .val (.int p2), .val (.int p3), .val (.int (1 : Int32)), .val (.ref (u 0)), .val (.int (0 : Int32)), .unset, .unset, .unset, .unset, .unset] [(.int p3)])) _
        refine XS.iconst X47.here hx rfl (hb hby at_43) ?_
        show Steps p.tables e below (T47.setTop (mkF m 44 #[.val (.int p0), .val (.int p1), .val (.int p2), .val (.int p3), .val (.int (1 : Int32)), .val (.ref (u 0)), .val (.int (0 : Int32)), .unset, .unset, .unset, .unset, .unset] [(.int (2 : Int32)), (.int p3)])) _
        refine XS.iand X47.here hx rfl (hb hby at_44) rfl ?_
        exact kt)
      by_cases hc51 : (p3 &&& (2 : Int32)) = (0 : Int32)
      · --
        have pre52 : ∀ t, Steps p.tables e below (T47.setTop (mkF m 65 #[.val (.int p0), .val (.int p1), .val (.int p2), .val (.int p3), .val (.int (1 : Int32)), .val (.ref (u 0)), .val (.int (0 : Int32)), .val (.int (0 : Int32)), .unset, .unset, .unset, .unset] [(.int p1)])) t → Steps p.tables e below (s₁.setTop (entryFrame m #[(.int p0), (.int p1), (.int p2), (.int p3)] maxLocals)) t := fun t kt => pre50 t (by
          show Steps p.tables e below (T47.setTop (mkF m 45 #[.val (.int p0), .val (.int p1), .val (.int p2), .val (.int p3), .val (.int (1 : Int32)), .val (.ref (u 0)), .val (.int (0 : Int32)), .unset, .unset, .unset, .unset, .unset] [(.int (p3 &&& (2 : Int32)))])) _
          refine XS.ifYes X47.here hx rfl (pc0 := 45) (pc' := 52) rfl (hb hby at_45) rfl ((if0 _ _).trans (teq hc51).1) (by decide) (by decide) ?_
          show Steps p.tables e below (T47.setTop (mkF m 52 #[.val (.int p0), .val (.int p1), .val (.int p2), .val (.int p3), .val (.int (1 : Int32)), .val (.ref (u 0)), .val (.int (0 : Int32)), .unset, .unset, .unset, .unset, .unset] [])) _
          refine XS.iconst X47.here hx rfl (hb hby at_52) ?_
          show Steps p.tables e below (T47.setTop (mkF m 53 #[.val (.int p0), .val (.int p1), .val (.int p2), .val (.int p3), .val (.int (1 : Int32)), .val (.ref (u 0)), .val (.int (0 : Int32)), .unset, .unset, .unset, .unset, .unset] [(.int (0 : Int32))])) _
          refine XS.istore X47.here hx rfl (hb hby at_53) rfl (l' := #[.val (.int p0), .val (.int p1), .val (.int p2), .val (.int p3), .val (.int (1 : Int32)), .val (.ref (u 0)), .val (.int (0 : Int32)), .val (.int (0 : Int32)), .unset, .unset, .unset, .unset]) rfl ?_
          show Steps p.tables e below (T47.setTop (mkF m 55 #[.val (.int p0), .val (.int p1), .val (.int p2), .val (.int p3), .val (.int (1 : Int32)), .val (.ref (u 0)), .val (.int (0 : Int32)), .val (.int (0 : Int32)), .unset, .unset, .unset, .unset] [])) _
          refine XS.iload X47.here hx rfl (hb hby at_55) rfl ?_
          show Steps p.tables e below (T47.setTop (mkF m 57 #[.val (.int p0), .val (.int p1), .val (.int p2), .val (.int p3), .val (.int (1 : Int32)), .val (.ref (u 0)), .val (.int (0 : Int32)), .val (.int (0 : Int32)), .unset, .unset, .unset, .unset] [(.int (0 : Int32))])) _
          refine XS.ifYes X47.here hx rfl (pc0 := 57) (pc' := 64) rfl (hb hby at_57) rfl ((if0 _ _).trans (teq (by decide : (0 : Int32) = (0 : Int32))).1) (by decide) (by decide) ?_
          show Steps p.tables e below (T47.setTop (mkF m 64 #[.val (.int p0), .val (.int p1), .val (.int p2), .val (.int p3), .val (.int (1 : Int32)), .val (.ref (u 0)), .val (.int (0 : Int32)), .val (.int (0 : Int32)), .unset, .unset, .unset, .unset] [])) _
          refine XS.iloadN X47.here hx rfl (hb hby at_64) rfl ?_
          exact kt)
        obtain ⟨vr53, _, ⟨T53, L53, k53, n53⟩, -, X53, ⟨Lc53, hQ53, l53, y53, z53⟩, st53⟩ := Jvm.LawKit.callS X47 hx (y := (⟨"java/lang/Integer", "valueOf", "(I)Ljava/lang/Integer;"⟩ : MethodName)) hown (mvT hZ (hw _ (List.mem_of_getElem? (i := 3) rfl))) (mvT hZ (hw _ (List.mem_of_getElem? (i := 4) rfl))) (mvT hZ (hw _ (List.mem_of_getElem? (i := 5) rfl))) (mvT hZ (hw _ (List.mem_of_getElem? (i := 6) rfl))) (by decide) (backOf (W := 0) (rm1 l Z a0 hw [] u p1 B h0 n0 O ) hZ (hw _ (List.mem_of_getElem? (i := 6) rfl)) (hw _ (List.mem_of_getElem? (i := 5) rfl)) (by decide) (by decide)) (g := (mkF m 65 #[.val (.int p0), .val (.int p1), .val (.int p2), .val (.int p3), .val (.int (1 : Int32)), .val (.ref (u 0)), .val (.int (0 : Int32)), .val (.int (0 : Int32)), .unset, .unset, .unset, .unset] [(.int p1)])) rfl (by rw [hml]; rfl) (argsL := [(.int p1)]) (rest := []) (lenOf own_pd2 rfl) rfl (by show 2 * 0 + _ ≤ _; exact Nat.le_of_eq rfl) (hb hby at_65) (fun _ _ => ⟨rfl, e47, (by decide : 0 + 1 ≤ _), (by decide : 0 + 1 ≤ _)⟩)
        dsimp only [Pt.U, Pt.locs, Pt.cells, Pt.slots] at X53 l53 y53 z53 st53 hQ53
        subst l53 y53 z53
        obtain ⟨b53, rfl, N53q, E53, x53E, x53v⟩ := hQ53
        have N53 := Fr.app N0 N53q
        have O53 := O.ext E53
        have K53 := K0.ext E53
        have pre54 : ∀ t, Steps p.tables e below (T53.setTop (mkF m 80 #[.val (.int p0), .val (.int p1), .val (.int p2), .val (.int p3), .val (.int (1 : Int32)), .val (.ref (u 0)), .val (.int (0 : Int32)), .val (.int (0 : Int32)), .val (.ref b53), .unset, .unset, .unset] [(.int p2)])) t → Steps p.tables e below (s₁.setTop (entryFrame m #[(.int p0), (.int p1), (.int p2), (.int p3)] maxLocals)) t := fun t kt => pre52 t (by
          show Steps p.tables e below (T47.setTop (mkF m 65 #[.val (.int p0), .val (.int p1), .val (.int p2), .val (.int p3), .val (.int (1 : Int32)), .val (.ref (u 0)), .val (.int (0 : Int32)), .val (.int (0 : Int32)), .unset, .unset, .unset, .unset] [(.int p1)])) _
          refine st53 _ ?_
          show Steps p.tables e below (T53.setTop (mkF m 68 #[.val (.int p0), .val (.int p1), .val (.int p2), .val (.int p3), .val (.int (1 : Int32)), .val (.ref (u 0)), .val (.int (0 : Int32)), .val (.int (0 : Int32)), .unset, .unset, .unset, .unset] [(.ref b53)])) _
          refine XS.astore X53.here hx rfl (hb hby at_68) rfl rfl (l' := #[.val (.int p0), .val (.int p1), .val (.int p2), .val (.int p3), .val (.int (1 : Int32)), .val (.ref (u 0)), .val (.int (0 : Int32)), .val (.int (0 : Int32)), .val (.ref b53), .unset, .unset, .unset]) rfl ?_
          show Steps p.tables e below (T53.setTop (mkF m 70 #[.val (.int p0), .val (.int p1), .val (.int p2), .val (.int p3), .val (.int (1 : Int32)), .val (.ref (u 0)), .val (.int (0 : Int32)), .val (.int (0 : Int32)), .val (.ref b53), .unset, .unset, .unset] [])) _
          refine XS.iload X53.here hx rfl (hb hby at_70) rfl ?_
          show Steps p.tables e below (T53.setTop (mkF m 72 #[.val (.int p0), .val (.int p1), .val (.int p2), .val (.int p3), .val (.int (1 : Int32)), .val (.ref (u 0)), .val (.int (0 : Int32)), .val (.int (0 : Int32)), .val (.ref b53), .unset, .unset, .unset] [(.int (0 : Int32))])) _
          refine XS.ifYes X53.here hx rfl (pc0 := 72) (pc' := 79) rfl (hb hby at_72) rfl ((if0 _ _).trans (teq (by decide : (0 : Int32) = (0 : Int32))).1) (by decide) (by decide) ?_
          show Steps p.tables e below (T53.setTop (mkF m 79 #[.val (.int p0), .val (.int p1), .val (.int p2), .val (.int p3), .val (.int (1 : Int32)), .val (.ref (u 0)), .val (.int (0 : Int32)), .val (.int (0 : Int32)), .val (.ref b53), .unset, .unset, .unset] [])) _
          refine XS.iloadN X53.here hx rfl (hb hby at_79) rfl ?_
          exact kt)
        obtain ⟨vr55, _, ⟨T55, L55, k55, n55⟩, -, X55, ⟨Lc55, hQ55, l55, y55, z55⟩, st55⟩ := Jvm.LawKit.callS X53 hx (y := (⟨"java/lang/Integer", "valueOf", "(I)Ljava/lang/Integer;"⟩ : MethodName)) hown (mvT hZ (hw _ (List.mem_of_getElem? (i := 3) rfl))) (mvT hZ (hw _ (List.mem_of_getElem? (i := 4) rfl))) (mvT hZ (hw _ (List.mem_of_getElem? (i := 5) rfl))) (mvT hZ (hw _ (List.mem_of_getElem? (i := 6) rfl))) (by decide) (backOf (W := 0) (rm1 l Z a0 hw [] u p2 B T53.heap n0 O53 ) hZ (hw _ (List.mem_of_getElem? (i := 6) rfl)) (hw _ (List.mem_of_getElem? (i := 5) rfl)) (by decide) (by decide)) (g := (mkF m 80 #[.val (.int p0), .val (.int p1), .val (.int p2), .val (.int p3), .val (.int (1 : Int32)), .val (.ref (u 0)), .val (.int (0 : Int32)), .val (.int (0 : Int32)), .val (.ref b53), .unset, .unset, .unset] [(.int p2)])) rfl (by rw [hml]; rfl) (argsL := [(.int p2)]) (rest := []) (lenOf own_pd2 rfl) rfl (by show 2 * 0 + _ ≤ _; exact Nat.le_of_eq rfl) (hb hby at_80) (fun _ _ => ⟨rfl, rfl, (by decide : 1 + 1 ≤ _), (by decide : 1 + 1 ≤ _)⟩)
        dsimp only [Pt.U, Pt.locs, Pt.cells, Pt.slots] at X55 l55 y55 z55 st55 hQ55
        subst l55 y55 z55
        obtain ⟨b55, rfl, N55q, E55, x55E, x55v⟩ := hQ55
        have N55 := Fr.app N53 N55q
        have O55 := O53.ext E55
        have K55 := K53.ext E55
        have f56 := x53E.ext E55
        have f57 := x53v.ext E55
        have pre58 : ∀ t, Steps p.tables e below (T55.setTop (mkF m 91 #[.val (.int p0), .val (.int p1), .val (.int p2), .val (.int p3), .val (.int (1 : Int32)), .val (.ref (u 0)), .val (.int (0 : Int32)), .val (.int (0 : Int32)), .val (.ref b53), .val (.ref b55), .unset, .unset] [(.ref b55), (.ref b53), (.ref (u 0))])) t → Steps p.tables e below (s₁.setTop (entryFrame m #[(.int p0), (.int p1), (.int p2), (.int p3)] maxLocals)) t := fun t kt => pre54 t (by
          show Steps p.tables e below (T53.setTop (mkF m 80 #[.val (.int p0), .val (.int p1), .val (.int p2), .val (.int p3), .val (.int (1 : Int32)), .val (.ref (u 0)), .val (.int (0 : Int32)), .val (.int (0 : Int32)), .val (.ref b53), .unset, .unset, .unset] [(.int p2)])) _
          refine st55 _ ?_
          show Steps p.tables e below (T55.setTop (mkF m 83 #[.val (.int p0), .val (.int p1), .val (.int p2), .val (.int p3), .val (.int (1 : Int32)), .val (.ref (u 0)), .val (.int (0 : Int32)), .val (.int (0 : Int32)), .val (.ref b53), .unset, .unset, .unset] [(.ref b55)])) _
          refine XS.astore X55.here hx rfl (hb hby at_83) rfl rfl (l' := #[.val (.int p0), .val (.int p1), .val (.int p2), .val (.int p3), .val (.int (1 : Int32)), .val (.ref (u 0)), .val (.int (0 : Int32)), .val (.int (0 : Int32)), .val (.ref b53), .val (.ref b55), .unset, .unset]) rfl ?_
          show Steps p.tables e below (T55.setTop (mkF m 85 #[.val (.int p0), .val (.int p1), .val (.int p2), .val (.int p3), .val (.int (1 : Int32)), .val (.ref (u 0)), .val (.int (0 : Int32)), .val (.int (0 : Int32)), .val (.ref b53), .val (.ref b55), .unset, .unset] [])) _
          refine XS.aload X55.here hx rfl (hb hby at_85) rfl rfl ?_
          show Steps p.tables e below (T55.setTop (mkF m 87 #[.val (.int p0), .val (.int p1), .val (.int p2), .val (.int p3), .val (.int (1 : Int32)), .val (.ref (u 0)), .val (.int (0 : Int32)), .val (.int (0 : Int32)), .val (.ref b53), .val (.ref b55), .unset, .unset] [(.ref (u 0))])) _
          refine XS.aload X55.here hx rfl (hb hby at_87) rfl rfl ?_
          show Steps p.tables e below (T55.setTop (mkF m 89 #[.val (.int p0), .val (.int p1), .val (.int p2), .val (.int p3), .val (.int (1 : Int32)), .val (.ref (u 0)), .val (.int (0 : Int32)), .val (.int (0 : Int32)), .val (.ref b53), .val (.ref b55), .unset, .unset] [(.ref b53), (.ref (u 0))])) _
          refine XS.aload X55.here hx rfl (hb hby at_89) rfl rfl ?_
          exact kt)
        obtain ⟨cq59, kq59, q59a, q59b, q59c⟩ := isOf hZ rfl (B.2.1.ext O55.2)
        obtain ⟨vr59, _, ⟨T59, L59, k59, n59⟩, -, X59, ⟨Lc59, hQ59, l59, y59, z59⟩, st59⟩ := X55.virtualBack hx (y := (⟨"com/example/vetted_ledger/vettedledger/engine/BillingAlignment", "subscriptionDay", "(Ljava/lang/Integer;Ljava/lang/Integer;)Ljava/lang/Integer;"⟩ : MethodName)) (z := (⟨"com/example/vetted_ledger/vettedledger/engine/BillingAlignment", "subscriptionDay", "(Ljava/lang/Integer;Ljava/lang/Integer;)Ljava/lang/Integer;"⟩ : MethodName)) hown (mvT hZ (hw _ (List.mem_of_getElem? (i := 10) rfl))) (mvT hZ (hw _ (List.mem_of_getElem? (i := 11) rfl))) (notFace_of_selects (args := #[]) (mvT hZ (hw _ (List.mem_of_getElem? (i := 13) rfl)))) (mvT hZ (hw _ (List.mem_of_getElem? (i := 13) rfl))) (mvT hZ (hw _ (List.mem_of_getElem? (i := 12) rfl))) (by decide) (backOf (W := 0) (rmsd11 l Z a0 hw [] u (u 0) b53 b55 B T55.heap n0 O55 ) hZ (hw _ (List.mem_of_getElem? (i := 14) rfl)) (hw _ (List.mem_of_getElem? (i := 1) rfl)) (by decide) (by decide)) q59a q59c (g := (mkF m 91 #[.val (.int p0), .val (.int p1), .val (.int p2), .val (.int p3), .val (.int (1 : Int32)), .val (.ref (u 0)), .val (.int (0 : Int32)), .val (.int (0 : Int32)), .val (.ref b53), .val (.ref b55), .unset, .unset] [(.ref b55), (.ref b53), (.ref (u 0))])) rfl (by rw [hml]; rfl) (Steps.refl _) (argsL := [(.ref b53), (.ref b55)]) (rest := []) (lenOf own_pd3 rfl) rfl (by show 2 * 0 + _ ≤ _; exact Nat.le_of_eq rfl) (hb hby at_91) (fun _ _ => ⟨rfl, rfl, (by decide : 2 + 0 ≤ _), (by decide : 2 + 0 ≤ _)⟩)
        dsimp only [Pt.U, Pt.locs, Pt.cells, Pt.slots] at X59 l59 y59 z59 st59 hQ59
        subst l59 y59 z59
        obtain ⟨hv59, N59q, e59⟩ := hQ59
        have N59 := Fr.app N55 N59q
        obtain rfl : vr59 = some (.ref b55) := hv59.trans (by unfold own_rsd11; rw [if_pos (rfl : (u 0) = (u 0))])
        obtain ⟨cq60, kq60, q60a, q60b, q60c⟩ := isOf hZ e59 x55E
        obtain ⟨vr60, _, ⟨T60, L60, k60, n60⟩, -, X60, ⟨Lc60, hQ60, l60, y60, z60⟩, st60⟩ := X59.virtualBack hx (y := (⟨"java/lang/Integer", "intValue", "()I"⟩ : MethodName)) (z := (⟨"java/lang/Integer", "intValue", "()I"⟩ : MethodName)) hown (mvT hZ (hw _ (List.mem_of_getElem? (i := 16) rfl))) (mvT hZ (hw _ (List.mem_of_getElem? (i := 17) rfl))) (notFace_of_selects (args := #[]) (mvT hZ (hw _ (List.mem_of_getElem? (i := 19) rfl)))) (mvT hZ (hw _ (List.mem_of_getElem? (i := 19) rfl))) (mvT hZ (hw _ (List.mem_of_getElem? (i := 18) rfl))) (by decide) (backOf (W := 0) (rm3 l Z a0 hw [] u b55 p2 B T55.heap n0 O55 x55v) hZ (hw _ (List.mem_of_getElem? (i := 20) rfl)) (hw _ (List.mem_of_getElem? (i := 5) rfl)) (by decide) (by decide)) q60a q60c (g := (mkF m 137 #[.val (.int p0), .val (.int p1), .val (.int p2), .val (.int p3), .val (.int (1 : Int32)), .val (.ref (u 0)), .val (.int (0 : Int32)), .val (.int (0 : Int32)), .val (.ref b53), .val (.ref b55), .val (.ref b55), .val (.int p2)] [(.ref b55)])) rfl (by rw [hml]; rfl) (Steps.refl _) (argsL := []) (rest := []) (lenOf own_pd4 rfl) rfl (by show 2 * 0 + _ ≤ _; exact Nat.le_of_eq rfl) (hb hby at_137) (fun _ _ => ⟨rfl, e59, (by decide : 2 + 0 ≤ _), (by decide : 2 + 0 ≤ _)⟩)
        dsimp only [Pt.U, Pt.locs, Pt.cells, Pt.slots] at X60 l60 y60 z60 st60 hQ60
        subst l60 y60 z60
        obtain ⟨rfl, N60q, e60⟩ := hQ60
        have N60 := Fr.app N59 N60q
        obtain ⟨fs, hr, hrun, hended, hW, hsame⟩ := X60.leave (v := some (.int (1 : Int32))) (fun h => by rw [Bd.returns] at h; cases h)
        refine ⟨_, _, pre58 _ ?_, hrun, hended, _, _, rfl, ?_, ⟨_, rfl⟩, hW, hsame.mono (by decide) (by decide)⟩
        · show Steps p.tables e below (T55.setTop (mkF m 91 #[.val (.int p0), .val (.int p1), .val (.int p2), .val (.int p3), .val (.int (1 : Int32)), .val (.ref (u 0)), .val (.int (0 : Int32)), .val (.int (0 : Int32)), .val (.ref b53), .val (.ref b55), .unset, .unset] [(.ref b55), (.ref b53), (.ref (u 0))])) _
          refine st59.trans ?_
          show Steps p.tables e below (T59.setTop (mkF m 94 #[.val (.int p0), .val (.int p1), .val (.int p2), .val (.int p3), .val (.int (1 : Int32)), .val (.ref (u 0)), .val (.int (0 : Int32)), .val (.int (0 : Int32)), .val (.ref b53), .val (.ref b55), .unset, .unset] [(.ref b55)])) _
          refine XS.astore X59.here hx rfl (hb hby at_94) rfl rfl (l' := #[.val (.int p0), .val (.int p1), .val (.int p2), .val (.int p3), .val (.int (1 : Int32)), .val (.ref (u 0)), .val (.int (0 : Int32)), .val (.int (0 : Int32)), .val (.ref b53), .val (.ref b55), .val (.ref b55), .unset]) rfl ?_
          show Steps p.tables e below (T59.setTop (mkF m 96 #[.val (.int p0), .val (.int p1), .val (.int p2), .val (.int p3), .val (.int (1 : Int32)), .val (.ref (u 0)), .val (.int (0 : Int32)), .val (.int (0 : Int32)), .val (.ref b53), .val (.ref b55), .val (.ref b55), .unset] [])) _
          refine XS.iload X59.here hx rfl (hb hby at_96) rfl ?_
          show Steps p.tables e below (T59.setTop (mkF m 98 #[.val (.int p0), .val (.int p1), .val (.int p2), .val (.int p3), .val (.int (1 : Int32)), .val (.ref (u 0)), .val (.int (0 : Int32)), .val (.int (0 : Int32)), .val (.ref b53), .val (.ref b55), .val (.ref b55), .unset] [(.int (0 : Int32))])) _
          refine XS.ifYes X59.here hx rfl (pc0 := 98) (pc' := 112) rfl (hb hby at_98) rfl ((if0 _ _).trans (teq (by decide : (0 : Int32) = (0 : Int32))).1) (by decide) (by decide) ?_
          show Steps p.tables e below (T59.setTop (mkF m 112 #[.val (.int p0), .val (.int p1), .val (.int p2), .val (.int p3), .val (.int (1 : Int32)), .val (.ref (u 0)), .val (.int (0 : Int32)), .val (.int (0 : Int32)), .val (.ref b53), .val (.ref b55), .val (.ref b55), .unset] [])) _
          refine XS.aload X59.here hx rfl (hb hby at_112) rfl rfl ?_
          show Steps p.tables e below (T59.setTop (mkF m 114 #[.val (.int p0), .val (.int p1), .val (.int p2), .val (.int p3), .val (.int (1 : Int32)), .val (.ref (u 0)), .val (.int (0 : Int32)), .val (.int (0 : Int32)), .val (.ref b53), .val (.ref b55), .val (.ref b55), .unset] [(.ref b55)])) _
          refine XS.ifnonnullYes X59.here hx rfl (pc0 := 114) (pc' := 119) rfl (hb hby at_114) rfl (by decide) (by decide) ?_
          show Steps p.tables e below (T59.setTop (mkF m 119 #[.val (.int p0), .val (.int p1), .val (.int p2), .val (.int p3), .val (.int (1 : Int32)), .val (.ref (u 0)), .val (.int (0 : Int32)), .val (.int (0 : Int32)), .val (.ref b53), .val (.ref b55), .val (.ref b55), .unset] [])) _
          refine XS.iloadN X59.here hx rfl (hb hby at_119) rfl ?_
          show Steps p.tables e below (T59.setTop (mkF m 120 #[.val (.int p0), .val (.int p1), .val (.int p2), .val (.int p3), .val (.int (1 : Int32)), .val (.ref (u 0)), .val (.int (0 : Int32)), .val (.int (0 : Int32)), .val (.ref b53), .val (.ref b55), .val (.ref b55), .unset] [(.int p1)])) _
          refine XS.istore X59.here hx rfl (hb hby at_120) rfl (l' := #[.val (.int p0), .val (.int p1), .val (.int p2), .val (.int p3), .val (.int (1 : Int32)), .val (.ref (u 0)), .val (.int (0 : Int32)), .val (.int (0 : Int32)), .val (.ref b53), .val (.ref b55), .val (.ref b55), .val (.int p1)]) rfl ?_
          show Steps p.tables e below (T59.setTop (mkF m 122 #[.val (.int p0), .val (.int p1), .val (.int p2), .val (.int p3), .val (.int (1 : Int32)), .val (.ref (u 0)), .val (.int (0 : Int32)), .val (.int (0 : Int32)), .val (.ref b53), .val (.ref b55), .val (.ref b55), .val (.int p1)] [])) _
          refine XS.iload X59.here hx rfl (hb hby at_122) rfl ?_
          show Steps p.tables e below (T59.setTop (mkF m 124 #[.val (.int p0), .val (.int p1), .val (.int p2), .val (.int p3), .val (.int (1 : Int32)), .val (.ref (u 0)), .val (.int (0 : Int32)), .val (.int (0 : Int32)), .val (.ref b53), .val (.ref b55), .val (.ref b55), .val (.int p1)] [(.int (1 : Int32))])) _
          refine XS.ifNo X59.here hx rfl (hb hby at_124) rfl ((if0 _ _).trans (feq (by decide : ¬ ((1 : Int32) = (0 : Int32)))).1) ?_
          show Steps p.tables e below (T59.setTop (mkF m 127 #[.val (.int p0), .val (.int p1), .val (.int p2), .val (.int p3), .val (.int (1 : Int32)), .val (.ref (u 0)), .val (.int (0 : Int32)), .val (.int (0 : Int32)), .val (.ref b53), .val (.ref b55), .val (.ref b55), .val (.int p1)] [])) _
          refine XS.iload X59.here hx rfl (hb hby at_127) rfl ?_
          show Steps p.tables e below (T59.setTop (mkF m 129 #[.val (.int p0), .val (.int p1), .val (.int p2), .val (.int p3), .val (.int (1 : Int32)), .val (.ref (u 0)), .val (.int (0 : Int32)), .val (.int (0 : Int32)), .val (.ref b53), .val (.ref b55), .val (.ref b55), .val (.int p1)] [(.int (0 : Int32))])) _
          refine XS.ifNo X59.here hx rfl (hb hby at_129) rfl ((if0 _ _).trans (teq (by decide : (0 : Int32) = (0 : Int32))).2) ?_
          show Steps p.tables e below (T59.setTop (mkF m 132 #[.val (.int p0), .val (.int p1), .val (.int p2), .val (.int p3), .val (.int (1 : Int32)), .val (.ref (u 0)), .val (.int (0 : Int32)), .val (.int (0 : Int32)), .val (.ref b53), .val (.ref b55), .val (.ref b55), .val (.int p1)] [])) _
          refine XS.iloadN X59.here hx rfl (hb hby at_132) rfl ?_
          show Steps p.tables e below (T59.setTop (mkF m 133 #[.val (.int p0), .val (.int p1), .val (.int p2), .val (.int p3), .val (.int (1 : Int32)), .val (.ref (u 0)), .val (.int (0 : Int32)), .val (.int (0 : Int32)), .val (.ref b53), .val (.ref b55), .val (.ref b55), .val (.int p1)] [(.int p2)])) _
          refine XS.istore X59.here hx rfl (hb hby at_133) rfl (l' := #[.val (.int p0), .val (.int p1), .val (.int p2), .val (.int p3), .val (.int (1 : Int32)), .val (.ref (u 0)), .val (.int (0 : Int32)), .val (.int (0 : Int32)), .val (.ref b53), .val (.ref b55), .val (.ref b55), .val (.int p2)]) rfl ?_
          show Steps p.tables e below (T59.setTop (mkF m 135 #[.val (.int p0), .val (.int p1), .val (.int p2), .val (.int p3), .val (.int (1 : Int32)), .val (.ref (u 0)), .val (.int (0 : Int32)), .val (.int (0 : Int32)), .val (.ref b53), .val (.ref b55), .val (.ref b55), .val (.int p2)] [])) _
          refine XS.aload X59.here hx rfl (hb hby at_135) rfl rfl ?_
          show Steps p.tables e below (T59.setTop (mkF m 137 #[.val (.int p0), .val (.int p1), .val (.int p2), .val (.int p3), .val (.int (1 : Int32)), .val (.ref (u 0)), .val (.int (0 : Int32)), .val (.int (0 : Int32)), .val (.ref b53), .val (.ref b55), .val (.ref b55), .val (.int p2)] [(.ref b55)])) _
          refine st60.trans ?_
          show Steps p.tables e below (T60.setTop (mkF m 140 #[.val (.int p0), .val (.int p1), .val (.int p2), .val (.int p3), .val (.int (1 : Int32)), .val (.ref (u 0)), .val (.int (0 : Int32)), .val (.int (0 : Int32)), .val (.ref b53), .val (.ref b55), .val (.ref b55), .val (.int p2)] [(.int p2)])) _
          refine XS.iload X60.here hx rfl (hb hby at_140) rfl ?_
          show Steps p.tables e below (T60.setTop (mkF m 142 #[.val (.int p0), .val (.int p1), .val (.int p2), .val (.int p3), .val (.int (1 : Int32)), .val (.ref (u 0)), .val (.int (0 : Int32)), .val (.int (0 : Int32)), .val (.ref b53), .val (.ref b55), .val (.ref b55), .val (.int p2)] [(.int p2), (.int p2)])) _
          refine XS.icmpNo X60.here hx rfl (hb hby at_142) rfl (teq (rfl : p2 = p2)).2 ?_
          show Steps p.tables e below (T60.setTop (mkF m 145 #[.val (.int p0), .val (.int p1), .val (.int p2), .val (.int p3), .val (.int (1 : Int32)), .val (.ref (u 0)), .val (.int (0 : Int32)), .val (.int (0 : Int32)), .val (.ref b53), .val (.ref b55), .val (.ref b55), .val (.int p2)] [])) _
          refine XS.iconst X60.here hx rfl (hb hby at_145) ?_
          show Steps p.tables e below (T60.setTop (mkF m 146 #[.val (.int p0), .val (.int p1), .val (.int p2), .val (.int p3), .val (.int (1 : Int32)), .val (.ref (u 0)), .val (.int (0 : Int32)), .val (.int (0 : Int32)), .val (.ref b53), .val (.ref b55), .val (.ref b55), .val (.int p2)] [(.int (1 : Int32))])) _
          refine XS.goto X60.here hx rfl (pc0 := 146) (pc' := 150) rfl (hb hby at_146) (by decide) (by decide) ?_
          show Steps p.tables e below (T60.setTop (mkF m 150 #[.val (.int p0), .val (.int p1), .val (.int p2), .val (.int p3), .val (.int (1 : Int32)), .val (.ref (u 0)), .val (.int (0 : Int32)), .val (.int (0 : Int32)), .val (.ref b53), .val (.ref b55), .val (.ref b55), .val (.int p2)] [(.int (1 : Int32))])) _
          exact retN X60 hx (t := .boolean) Bd.returns (by simp) (hb hby at_150) hr
        · show own_Q0 Z u p0 p1 p2 p3 h0 n0 _ T60.heap _
          rw [e60]
          exact ⟨rfl, N60, trivial⟩
      · --
        have pre62 : ∀ t, Steps p.tables e below (T47.setTop (mkF m 65 #[.val (.int p0), .val (.int p1), .val (.int p2), .val (.int p3), .val (.int (1 : Int32)), .val (.ref (u 0)), .val (.int (0 : Int32)), .val (.int (1 : Int32)), .unset, .unset, .unset, .unset] [(.int p1)])) t → Steps p.tables e below (s₁.setTop (entryFrame m #[(.int p0), (.int p1), (.int p2), (.int p3)] maxLocals)) t := fun t kt => pre50 t (by
          show Steps p.tables e below (T47.setTop (mkF m 45 #[.val (.int p0), .val (.int p1), .val (.int p2), .val (.int p3), .val (.int (1 : Int32)), .val (.ref (u 0)), .val (.int (0 : Int32)), .unset, .unset, .unset, .unset, .unset] [(.int (p3 &&& (2 : Int32)))])) _
          refine XS.ifNo X47.here hx rfl (hb hby at_45) rfl ((if0 _ _).trans (feq hc51).1) ?_
          show Steps p.tables e below (T47.setTop (mkF m 48 #[.val (.int p0), .val (.int p1), .val (.int p2), .val (.int p3), .val (.int (1 : Int32)), .val (.ref (u 0)), .val (.int (0 : Int32)), .unset, .unset, .unset, .unset, .unset] [])) _
          refine XS.iconst X47.here hx rfl (hb hby at_48) ?_
          show Steps p.tables e below (T47.setTop (mkF m 49 #[.val (.int p0), .val (.int p1), .val (.int p2), .val (.int p3), .val (.int (1 : Int32)), .val (.ref (u 0)), .val (.int (0 : Int32)), .unset, .unset, .unset, .unset, .unset] [(.int (1 : Int32))])) _
          refine XS.goto X47.here hx rfl (pc0 := 49) (pc' := 53) rfl (hb hby at_49) (by decide) (by decide) ?_
          show Steps p.tables e below (T47.setTop (mkF m 53 #[.val (.int p0), .val (.int p1), .val (.int p2), .val (.int p3), .val (.int (1 : Int32)), .val (.ref (u 0)), .val (.int (0 : Int32)), .unset, .unset, .unset, .unset, .unset] [(.int (1 : Int32))])) _
          refine XS.istore X47.here hx rfl (hb hby at_53) rfl (l' := #[.val (.int p0), .val (.int p1), .val (.int p2), .val (.int p3), .val (.int (1 : Int32)), .val (.ref (u 0)), .val (.int (0 : Int32)), .val (.int (1 : Int32)), .unset, .unset, .unset, .unset]) rfl ?_
          show Steps p.tables e below (T47.setTop (mkF m 55 #[.val (.int p0), .val (.int p1), .val (.int p2), .val (.int p3), .val (.int (1 : Int32)), .val (.ref (u 0)), .val (.int (0 : Int32)), .val (.int (1 : Int32)), .unset, .unset, .unset, .unset] [])) _
          refine XS.iload X47.here hx rfl (hb hby at_55) rfl ?_
          show Steps p.tables e below (T47.setTop (mkF m 57 #[.val (.int p0), .val (.int p1), .val (.int p2), .val (.int p3), .val (.int (1 : Int32)), .val (.ref (u 0)), .val (.int (0 : Int32)), .val (.int (1 : Int32)), .unset, .unset, .unset, .unset] [(.int (0 : Int32))])) _
          refine XS.ifYes X47.here hx rfl (pc0 := 57) (pc' := 64) rfl (hb hby at_57) rfl ((if0 _ _).trans (teq (by decide : (0 : Int32) = (0 : Int32))).1) (by decide) (by decide) ?_
          show Steps p.tables e below (T47.setTop (mkF m 64 #[.val (.int p0), .val (.int p1), .val (.int p2), .val (.int p3), .val (.int (1 : Int32)), .val (.ref (u 0)), .val (.int (0 : Int32)), .val (.int (1 : Int32)), .unset, .unset, .unset, .unset] [])) _
          refine XS.iloadN X47.here hx rfl (hb hby at_64) rfl ?_
          exact kt)
        obtain ⟨vr63, _, ⟨T63, L63, k63, n63⟩, -, X63, ⟨Lc63, hQ63, l63, y63, z63⟩, st63⟩ := Jvm.LawKit.callS X47 hx (y := (⟨"java/lang/Integer", "valueOf", "(I)Ljava/lang/Integer;"⟩ : MethodName)) hown (mvT hZ (hw _ (List.mem_of_getElem? (i := 3) rfl))) (mvT hZ (hw _ (List.mem_of_getElem? (i := 4) rfl))) (mvT hZ (hw _ (List.mem_of_getElem? (i := 5) rfl))) (mvT hZ (hw _ (List.mem_of_getElem? (i := 6) rfl))) (by decide) (backOf (W := 0) (rm1 l Z a0 hw [] u p1 B h0 n0 O ) hZ (hw _ (List.mem_of_getElem? (i := 6) rfl)) (hw _ (List.mem_of_getElem? (i := 5) rfl)) (by decide) (by decide)) (g := (mkF m 65 #[.val (.int p0), .val (.int p1), .val (.int p2), .val (.int p3), .val (.int (1 : Int32)), .val (.ref (u 0)), .val (.int (0 : Int32)), .val (.int (1 : Int32)), .unset, .unset, .unset, .unset] [(.int p1)])) rfl (by rw [hml]; rfl) (argsL := [(.int p1)]) (rest := []) (lenOf own_pd2 rfl) rfl (by show 2 * 0 + _ ≤ _; exact Nat.le_of_eq rfl) (hb hby at_65) (fun _ _ => ⟨rfl, e47, (by decide : 0 + 1 ≤ _), (by decide : 0 + 1 ≤ _)⟩)
        dsimp only [Pt.U, Pt.locs, Pt.cells, Pt.slots] at X63 l63 y63 z63 st63 hQ63
        subst l63 y63 z63
        obtain ⟨b63, rfl, N63q, E63, x63E, x63v⟩ := hQ63
        have N63 := Fr.app N0 N63q
        have O63 := O.ext E63
        have K63 := K0.ext E63
        have pre64 : ∀ t, Steps p.tables e below (T63.setTop (mkF m 91 #[.val (.int p0), .val (.int p1), .val (.int p2), .val (.int p3), .val (.int (1 : Int32)), .val (.ref (u 0)), .val (.int (0 : Int32)), .val (.int (1 : Int32)), .val (.ref b63), .val .null, .unset, .unset] [.null, (.ref b63), (.ref (u 0))])) t → Steps p.tables e below (s₁.setTop (entryFrame m #[(.int p0), (.int p1), (.int p2), (.int p3)] maxLocals)) t := fun t kt => pre62 t (by
          show Steps p.tables e below (T47.setTop (mkF m 65 #[.val (.int p0), .val (.int p1), .val (.int p2), .val (.int p3), .val (.int (1 : Int32)), .val (.ref (u 0)), .val (.int (0 : Int32)), .val (.int (1 : Int32)), .unset, .unset, .unset, .unset] [(.int p1)])) _
          refine st63 _ ?_
          show Steps p.tables e below (T63.setTop (mkF m 68 #[.val (.int p0), .val (.int p1), .val (.int p2), .val (.int p3), .val (.int (1 : Int32)), .val (.ref (u 0)), .val (.int (0 : Int32)), .val (.int (1 : Int32)), .unset, .unset, .unset, .unset] [(.ref b63)])) _
          refine XS.astore X63.here hx rfl (hb hby at_68) rfl rfl (l' := #[.val (.int p0), .val (.int p1), .val (.int p2), .val (.int p3), .val (.int (1 : Int32)), .val (.ref (u 0)), .val (.int (0 : Int32)), .val (.int (1 : Int32)), .val (.ref b63), .unset, .unset, .unset]) rfl ?_
          show Steps p.tables e below (T63.setTop (mkF m 70 #[.val (.int p0), .val (.int p1), .val (.int p2), .val (.int p3), .val (.int (1 : Int32)), .val (.ref (u 0)), .val (.int (0 : Int32)), .val (.int (1 : Int32)), .val (.ref b63), .unset, .unset, .unset] [])) _
          refine XS.iload X63.here hx rfl (hb hby at_70) rfl ?_
          show Steps p.tables e below (T63.setTop (mkF m 72 #[.val (.int p0), .val (.int p1), .val (.int p2), .val (.int p3), .val (.int (1 : Int32)), .val (.ref (u 0)), .val (.int (0 : Int32)), .val (.int (1 : Int32)), .val (.ref b63), .unset, .unset, .unset] [(.int (1 : Int32))])) _
          refine XS.ifNo X63.here hx rfl (hb hby at_72) rfl ((if0 _ _).trans (feq (by decide : ¬ ((1 : Int32) = (0 : Int32)))).1) ?_
          show Steps p.tables e below (T63.setTop (mkF m 75 #[.val (.int p0), .val (.int p1), .val (.int p2), .val (.int p3), .val (.int (1 : Int32)), .val (.ref (u 0)), .val (.int (0 : Int32)), .val (.int (1 : Int32)), .val (.ref b63), .unset, .unset, .unset] [])) _
          refine XS.aconstNull X63.here hx rfl (hb hby at_75) ?_
          show Steps p.tables e below (T63.setTop (mkF m 76 #[.val (.int p0), .val (.int p1), .val (.int p2), .val (.int p3), .val (.int (1 : Int32)), .val (.ref (u 0)), .val (.int (0 : Int32)), .val (.int (1 : Int32)), .val (.ref b63), .unset, .unset, .unset] [.null])) _
          refine XS.goto X63.here hx rfl (pc0 := 76) (pc' := 83) rfl (hb hby at_76) (by decide) (by decide) ?_
          show Steps p.tables e below (T63.setTop (mkF m 83 #[.val (.int p0), .val (.int p1), .val (.int p2), .val (.int p3), .val (.int (1 : Int32)), .val (.ref (u 0)), .val (.int (0 : Int32)), .val (.int (1 : Int32)), .val (.ref b63), .unset, .unset, .unset] [.null])) _
          refine XS.astore X63.here hx rfl (hb hby at_83) rfl rfl (l' := #[.val (.int p0), .val (.int p1), .val (.int p2), .val (.int p3), .val (.int (1 : Int32)), .val (.ref (u 0)), .val (.int (0 : Int32)), .val (.int (1 : Int32)), .val (.ref b63), .val .null, .unset, .unset]) rfl ?_
          show Steps p.tables e below (T63.setTop (mkF m 85 #[.val (.int p0), .val (.int p1), .val (.int p2), .val (.int p3), .val (.int (1 : Int32)), .val (.ref (u 0)), .val (.int (0 : Int32)), .val (.int (1 : Int32)), .val (.ref b63), .val .null, .unset, .unset] [])) _
          refine XS.aload X63.here hx rfl (hb hby at_85) rfl rfl ?_
          show Steps p.tables e below (T63.setTop (mkF m 87 #[.val (.int p0), .val (.int p1), .val (.int p2), .val (.int p3), .val (.int (1 : Int32)), .val (.ref (u 0)), .val (.int (0 : Int32)), .val (.int (1 : Int32)), .val (.ref b63), .val .null, .unset, .unset] [(.ref (u 0))])) _
          refine XS.aload X63.here hx rfl (hb hby at_87) rfl rfl ?_
          show Steps p.tables e below (T63.setTop (mkF m 89 #[.val (.int p0), .val (.int p1), .val (.int p2), .val (.int p3), .val (.int (1 : Int32)), .val (.ref (u 0)), .val (.int (0 : Int32)), .val (.int (1 : Int32)), .val (.ref b63), .val .null, .unset, .unset] [(.ref b63), (.ref (u 0))])) _
          refine XS.aload X63.here hx rfl (hb hby at_89) rfl rfl ?_
          exact kt)
        obtain ⟨cq65, kq65, q65a, q65b, q65c⟩ := isOf hZ rfl (B.2.1.ext O63.2)
        obtain ⟨vr65, _, ⟨T65, L65, k65, n65⟩, -, X65, ⟨Lc65, hQ65, l65, y65, z65⟩, st65⟩ := X63.virtualBack hx (y := (⟨"com/example/vetted_ledger/vettedledger/engine/BillingAlignment", "subscriptionDay", "(Ljava/lang/Integer;Ljava/lang/Integer;)Ljava/lang/Integer;"⟩ : MethodName)) (z := (⟨"com/example/vetted_ledger/vettedledger/engine/BillingAlignment", "subscriptionDay", "(Ljava/lang/Integer;Ljava/lang/Integer;)Ljava/lang/Integer;"⟩ : MethodName)) hown (mvT hZ (hw _ (List.mem_of_getElem? (i := 10) rfl))) (mvT hZ (hw _ (List.mem_of_getElem? (i := 11) rfl))) (notFace_of_selects (args := #[]) (mvT hZ (hw _ (List.mem_of_getElem? (i := 13) rfl)))) (mvT hZ (hw _ (List.mem_of_getElem? (i := 13) rfl))) (mvT hZ (hw _ (List.mem_of_getElem? (i := 12) rfl))) (by decide) (backOf (W := 0) (rmsd10 l Z a0 hw [] u (u 0) b63 B T63.heap n0 O63 ) hZ (hw _ (List.mem_of_getElem? (i := 14) rfl)) (hw _ (List.mem_of_getElem? (i := 1) rfl)) (by decide) (by decide)) q65a q65c (g := (mkF m 91 #[.val (.int p0), .val (.int p1), .val (.int p2), .val (.int p3), .val (.int (1 : Int32)), .val (.ref (u 0)), .val (.int (0 : Int32)), .val (.int (1 : Int32)), .val (.ref b63), .val .null, .unset, .unset] [.null, (.ref b63), (.ref (u 0))])) rfl (by rw [hml]; rfl) (Steps.refl _) (argsL := [(.ref b63), .null]) (rest := []) (lenOf own_pd3 rfl) rfl (by show 2 * 0 + _ ≤ _; exact Nat.le_of_eq rfl) (hb hby at_91) (fun _ _ => ⟨rfl, rfl, (by decide : 1 + 0 ≤ _), (by decide : 1 + 0 ≤ _)⟩)
        dsimp only [Pt.U, Pt.locs, Pt.cells, Pt.slots] at X65 l65 y65 z65 st65 hQ65
        subst l65 y65 z65
        obtain ⟨hv65, N65q, e65⟩ := hQ65
        have N65 := Fr.app N63 N65q
        obtain rfl : vr65 = some (.ref b63) := hv65.trans (by unfold own_rsd10; rw [if_pos (rfl : (u 0) = (u 0))])
        obtain ⟨cq66, kq66, q66a, q66b, q66c⟩ := isOf hZ e65 x63E
        obtain ⟨vr66, _, ⟨T66, L66, k66, n66⟩, -, X66, ⟨Lc66, hQ66, l66, y66, z66⟩, st66⟩ := X65.virtualBack hx (y := (⟨"java/lang/Integer", "intValue", "()I"⟩ : MethodName)) (z := (⟨"java/lang/Integer", "intValue", "()I"⟩ : MethodName)) hown (mvT hZ (hw _ (List.mem_of_getElem? (i := 16) rfl))) (mvT hZ (hw _ (List.mem_of_getElem? (i := 17) rfl))) (notFace_of_selects (args := #[]) (mvT hZ (hw _ (List.mem_of_getElem? (i := 19) rfl)))) (mvT hZ (hw _ (List.mem_of_getElem? (i := 19) rfl))) (mvT hZ (hw _ (List.mem_of_getElem? (i := 18) rfl))) (by decide) (backOf (W := 0) (rm3 l Z a0 hw [] u b63 p1 B T63.heap n0 O63 x63v) hZ (hw _ (List.mem_of_getElem? (i := 20) rfl)) (hw _ (List.mem_of_getElem? (i := 5) rfl)) (by decide) (by decide)) q66a q66c (g := (mkF m 137 #[.val (.int p0), .val (.int p1), .val (.int p2), .val (.int p3), .val (.int (1 : Int32)), .val (.ref (u 0)), .val (.int (0 : Int32)), .val (.int (1 : Int32)), .val (.ref b63), .val .null, .val (.ref b63), .val (.int p1)] [(.ref b63)])) rfl (by rw [hml]; rfl) (Steps.refl _) (argsL := []) (rest := []) (lenOf own_pd4 rfl) rfl (by show 2 * 0 + _ ≤ _; exact Nat.le_of_eq rfl) (hb hby at_137) (fun _ _ => ⟨rfl, e65, (by decide : 1 + 0 ≤ _), (by decide : 1 + 0 ≤ _)⟩)
        dsimp only [Pt.U, Pt.locs, Pt.cells, Pt.slots] at X66 l66 y66 z66 st66 hQ66
        subst l66 y66 z66
        obtain ⟨rfl, N66q, e66⟩ := hQ66
        have N66 := Fr.app N65 N66q
        obtain ⟨fs, hr, hrun, hended, hW, hsame⟩ := X66.leave (v := some (.int (1 : Int32))) (fun h => by rw [Bd.returns] at h; cases h)
        refine ⟨_, _, pre64 _ ?_, hrun, hended, _, _, rfl, ?_, ⟨_, rfl⟩, hW, hsame.mono (by decide) (by decide)⟩
        · show Steps p.tables e below (T63.setTop (mkF m 91 #[.val (.int p0), .val (.int p1), .val (.int p2), .val (.int p3), .val (.int (1 : Int32)), .val (.ref (u 0)), .val (.int (0 : Int32)), .val (.int (1 : Int32)), .val (.ref b63), .val .null, .unset, .unset] [.null, (.ref b63), (.ref (u 0))])) _
          refine st65.trans ?_
          show Steps p.tables e below (T65.setTop (mkF m 94 #[.val (.int p0), .val (.int p1), .val (.int p2), .val (.int p3), .val (.int (1 : Int32)), .val (.ref (u 0)), .val (.int (0 : Int32)), .val (.int (1 : Int32)), .val (.ref b63), .val .null, .unset, .unset] [(.ref b63)])) _
          refine XS.astore X65.here hx rfl (hb hby at_94) rfl rfl (l' := #[.val (.int p0), .val (.int p1), .val (.int p2), .val (.int p3), .val (.int (1 : Int32)), .val (.ref (u 0)), .val (.int (0 : Int32)), .val (.int (1 : Int32)), .val (.ref b63), .val .null, .val (.ref b63), .unset]) rfl ?_
          show Steps p.tables e below (T65.setTop (mkF m 96 #[.val (.int p0), .val (.int p1), .val (.int p2), .val (.int p3), .val (.int (1 : Int32)), .val (.ref (u 0)), .val (.int (0 : Int32)), .val (.int (1 : Int32)), .val (.ref b63), .val .null, .val (.ref b63), .unset] [])) _
          refine XS.iload X65.here hx rfl (hb hby at_96) rfl ?_
          show Steps p.tables e below (T65.setTop (mkF m 98 #[.val (.int p0), .val (.int p1), .val (.int p2), .val (.int p3), .val (.int (1 : Int32)), .val (.ref (u 0)), .val (.int (0 : Int32)), .val (.int (1 : Int32)), .val (.ref b63), .val .null, .val (.ref b63), .unset] [(.int (0 : Int32))])) _
          refine XS.ifYes X65.here hx rfl (pc0 := 98) (pc' := 112) rfl (hb hby at_98) rfl ((if0 _ _).trans (teq (by decide : (0 : Int32) = (0 : Int32))).1) (by decide) (by decide) ?_
          show Steps p.tables e below (T65.setTop (mkF m 112 #[.val (.int p0), .val (.int p1), .val (.int p2), .val (.int p3), .val (.int (1 : Int32)), .val (.ref (u 0)), .val (.int (0 : Int32)), .val (.int (1 : Int32)), .val (.ref b63), .val .null, .val (.ref b63), .unset] [])) _
          refine XS.aload X65.here hx rfl (hb hby at_112) rfl rfl ?_
          show Steps p.tables e below (T65.setTop (mkF m 114 #[.val (.int p0), .val (.int p1), .val (.int p2), .val (.int p3), .val (.int (1 : Int32)), .val (.ref (u 0)), .val (.int (0 : Int32)), .val (.int (1 : Int32)), .val (.ref b63), .val .null, .val (.ref b63), .unset] [(.ref b63)])) _
          refine XS.ifnonnullYes X65.here hx rfl (pc0 := 114) (pc' := 119) rfl (hb hby at_114) rfl (by decide) (by decide) ?_
          show Steps p.tables e below (T65.setTop (mkF m 119 #[.val (.int p0), .val (.int p1), .val (.int p2), .val (.int p3), .val (.int (1 : Int32)), .val (.ref (u 0)), .val (.int (0 : Int32)), .val (.int (1 : Int32)), .val (.ref b63), .val .null, .val (.ref b63), .unset] [])) _
          refine XS.iloadN X65.here hx rfl (hb hby at_119) rfl ?_
          show Steps p.tables e below (T65.setTop (mkF m 120 #[.val (.int p0), .val (.int p1), .val (.int p2), .val (.int p3), .val (.int (1 : Int32)), .val (.ref (u 0)), .val (.int (0 : Int32)), .val (.int (1 : Int32)), .val (.ref b63), .val .null, .val (.ref b63), .unset] [(.int p1)])) _
          refine XS.istore X65.here hx rfl (hb hby at_120) rfl (l' := #[.val (.int p0), .val (.int p1), .val (.int p2), .val (.int p3), .val (.int (1 : Int32)), .val (.ref (u 0)), .val (.int (0 : Int32)), .val (.int (1 : Int32)), .val (.ref b63), .val .null, .val (.ref b63), .val (.int p1)]) rfl ?_
          show Steps p.tables e below (T65.setTop (mkF m 122 #[.val (.int p0), .val (.int p1), .val (.int p2), .val (.int p3), .val (.int (1 : Int32)), .val (.ref (u 0)), .val (.int (0 : Int32)), .val (.int (1 : Int32)), .val (.ref b63), .val .null, .val (.ref b63), .val (.int p1)] [])) _
          refine XS.iload X65.here hx rfl (hb hby at_122) rfl ?_
          show Steps p.tables e below (T65.setTop (mkF m 124 #[.val (.int p0), .val (.int p1), .val (.int p2), .val (.int p3), .val (.int (1 : Int32)), .val (.ref (u 0)), .val (.int (0 : Int32)), .val (.int (1 : Int32)), .val (.ref b63), .val .null, .val (.ref b63), .val (.int p1)] [(.int (1 : Int32))])) _
          refine XS.ifNo X65.here hx rfl (hb hby at_124) rfl ((if0 _ _).trans (feq (by decide : ¬ ((1 : Int32) = (0 : Int32)))).1) ?_
          show Steps p.tables e below (T65.setTop (mkF m 127 #[.val (.int p0), .val (.int p1), .val (.int p2), .val (.int p3), .val (.int (1 : Int32)), .val (.ref (u 0)), .val (.int (0 : Int32)), .val (.int (1 : Int32)), .val (.ref b63), .val .null, .val (.ref b63), .val (.int p1)] [])) _
          refine XS.iload X65.here hx rfl (hb hby at_127) rfl ?_
          show Steps p.tables e below (T65.setTop (mkF m 129 #[.val (.int p0), .val (.int p1), .val (.int p2), .val (.int p3), .val (.int (1 : Int32)), .val (.ref (u 0)), .val (.int (0 : Int32)), .val (.int (1 : Int32)), .val (.ref b63), .val .null, .val (.ref b63), .val (.int p1)] [(.int (1 : Int32))])) _
          refine XS.ifYes X65.here hx rfl (pc0 := 129) (pc' := 135) rfl (hb hby at_129) rfl ((if0 _ _).trans (feq (by decide : ¬ ((1 : Int32) = (0 : Int32)))).2) (by decide) (by decide) ?_
          show Steps p.tables e below (T65.setTop (mkF m 135 #[.val (.int p0), .val (.int p1), .val (.int p2), .val (.int p3), .val (.int (1 : Int32)), .val (.ref (u 0)), .val (.int (0 : Int32)), .val (.int (1 : Int32)), .val (.ref b63), .val .null, .val (.ref b63), .val (.int p1)] [])) _
          refine XS.aload X65.here hx rfl (hb hby at_135) rfl rfl ?_
          show Steps p.tables e below (T65.setTop (mkF m 137 #[.val (.int p0), .val (.int p1), .val (.int p2), .val (.int p3), .val (.int (1 : Int32)), .val (.ref (u 0)), .val (.int (0 : Int32)), .val (.int (1 : Int32)), .val (.ref b63), .val .null, .val (.ref b63), .val (.int p1)] [(.ref b63)])) _
          refine st66.trans ?_
          show Steps p.tables e below (T66.setTop (mkF m 140 #[.val (.int p0), .val (.int p1), .val (.int p2), .val (.int p3), .val (.int (1 : Int32)), .val (.ref (u 0)), .val (.int (0 : Int32)), .val (.int (1 : Int32)), .val (.ref b63), .val .null, .val (.ref b63), .val (.int p1)] [(.int p1)])) _
          refine XS.iload X66.here hx rfl (hb hby at_140) rfl ?_
          show Steps p.tables e below (T66.setTop (mkF m 142 #[.val (.int p0), .val (.int p1), .val (.int p2), .val (.int p3), .val (.int (1 : Int32)), .val (.ref (u 0)), .val (.int (0 : Int32)), .val (.int (1 : Int32)), .val (.ref b63), .val .null, .val (.ref b63), .val (.int p1)] [(.int p1), (.int p1)])) _
          refine XS.icmpNo X66.here hx rfl (hb hby at_142) rfl (teq (rfl : p1 = p1)).2 ?_
          show Steps p.tables e below (T66.setTop (mkF m 145 #[.val (.int p0), .val (.int p1), .val (.int p2), .val (.int p3), .val (.int (1 : Int32)), .val (.ref (u 0)), .val (.int (0 : Int32)), .val (.int (1 : Int32)), .val (.ref b63), .val .null, .val (.ref b63), .val (.int p1)] [])) _
          refine XS.iconst X66.here hx rfl (hb hby at_145) ?_
          show Steps p.tables e below (T66.setTop (mkF m 146 #[.val (.int p0), .val (.int p1), .val (.int p2), .val (.int p3), .val (.int (1 : Int32)), .val (.ref (u 0)), .val (.int (0 : Int32)), .val (.int (1 : Int32)), .val (.ref b63), .val .null, .val (.ref b63), .val (.int p1)] [(.int (1 : Int32))])) _
          refine XS.goto X66.here hx rfl (pc0 := 146) (pc' := 150) rfl (hb hby at_146) (by decide) (by decide) ?_
          show Steps p.tables e below (T66.setTop (mkF m 150 #[.val (.int p0), .val (.int p1), .val (.int p2), .val (.int p3), .val (.int (1 : Int32)), .val (.ref (u 0)), .val (.int (0 : Int32)), .val (.int (1 : Int32)), .val (.ref b63), .val .null, .val (.ref b63), .val (.int p1)] [(.int (1 : Int32))])) _
          exact retN X66 hx (t := .boolean) Bd.returns (by simp) (hb hby at_150) hr
        · show own_Q0 Z u p0 p1 p2 p3 h0 n0 _ T66.heap _
          rw [e66]
          exact ⟨rfl, N66, trivial⟩
    · --
      have pre68 : ∀ t, Steps p.tables e below (T47.setTop (mkF m 45 #[.val (.int p0), .val (.int p1), .val (.int p2), .val (.int p3), .val (.int (1 : Int32)), .val (.ref (u 0)), .val (.int (1 : Int32)), .unset, .unset, .unset, .unset, .unset] [(.int (p3 &&& (2 : Int32)))])) t → Steps p.tables e below (s₁.setTop (entryFrame m #[(.int p0), (.int p1), (.int p2), (.int p3)] maxLocals)) t := fun t kt => pre48 t (by
        show Steps p.tables e below (T47.setTop (mkF m 32 #[.val (.int p0), .val (.int p1), .val (.int p2), .val (.int p3), .val (.int (1 : Int32)), .val (.ref (u 0)), .unset, .unset, .unset, .unset, .unset, .unset] [(.int (p3 &&& (1 : Int32)))])) _
        refine XS.ifNo X47.here hx rfl (hb hby at_32) rfl ((if0 _ _).trans (feq hc49).1) ?_
        show Steps p.tables e below (T47.setTop (mkF m 35 #[.val (.int p0), .val (.int p1), .val (.int p2), .val (.int p3), .val (.int (1 : Int32)), .val (.ref (u 0)), .unset, .unset, .unset, .unset, .unset, .unset] [])) _
        refine XS.iconst X47.here hx rfl (hb hby at_35) ?_
        show Steps p.tables e below (T47.setTop (mkF m 36 #[.val (.int p0), .val (.int p1), .val (.int p2), .val (.int p3), .val (.int (1 : Int32)), .val (.ref (u 0)), .unset, .unset, .unset, .unset, .unset, .unset] [(.int (1 : Int32))])) _
        refine XS.goto X47.here hx rfl (pc0 := 36) (pc' := 40) rfl (hb hby at_36) (by decide) (by decide) ?_
        show Steps p.tables e below (T47.setTop (mkF m 40 #[.val (.int p0), .val (.int p1), .val (.int p2), .val (.int p3), .val (.int (1 : Int32)), .val (.ref (u 0)), .unset, .unset, .unset, .unset, .unset, .unset] [(.int (1 : Int32))])) _
        refine XS.istore X47.here hx rfl (hb hby at_40) rfl (l' := #[.val (.int p0), .val (.int p1), .val (.int p2), .val (.int p3), .val (.int (1 : Int32)), .val (.ref (u 0)), .val (.int (1 : Int32)), .unset, .unset, .unset, .unset, .unset]) rfl ?_
        show Steps p.tables e below (T47.setTop (mkF m 42 #[.val (.int p0), .val (.int p1), .val (.int p2), .val (.int p3), .val (.int (1 : Int32)), .val (.ref (u 0)), .val (.int (1 : Int32)), .unset, .unset, .unset, .unset, .unset] [])) _
        refine XS.iloadN X47.here hx rfl (hb hby at_42) rfl ?_
        show Steps p.tables e below (T47.setTop (mkF m 43 #[.val (.int p0), .val (.int p1), .val (.int p2), .val (.int p3), .val (.int (1 : Int32)), .val (.ref (u 0)), .val (.int (1 : Int32)), .unset, .unset, .unset, .unset, .unset] [(.int p3)])) _
        refine XS.iconst X47.here hx rfl (hb hby at_43) ?_
        show Steps p.tables e below (T47.setTop (mkF m 44 #[.val (.int p0), .val (.int p1), .val (.int p2), .val (.int p3), .val (.int (1 : Int32)), .val (.ref (u 0)), .val (.int (1 : Int32)), .unset, .unset, .unset, .unset, .unset] [(.int (2 : Int32)), (.int p3)])) _
        refine XS.iand X47.here hx rfl (hb hby at_44) rfl ?_
        exact kt)
      by_cases hc69 : (p3 &&& (2 : Int32)) = (0 : Int32)
      · --
        have pre70 : ∀ t, Steps p.tables e below (T47.setTop (mkF m 80 #[.val (.int p0), .val (.int p1), .val (.int p2), .val (.int p3), .val (.int (1 : Int32)), .val (.ref (u 0)), .val (.int (1 : Int32)), .val (.int (0 : Int32)), .val .null, .unset, .unset, .unset] [(.int p2)])) t → Steps p.tables e below (s₁.setTop (entryFrame m #[(.int p0), (.int p1), (.int p2), (.int p3)] maxLocals)) t := fun t kt => pre68 t (by
          show Steps p.tables e below (T47.setTop (mkF m 45 #[.val (.int p0), .val (.int p1), .val (.int p2), .val (.int p3), .val (.int (1 : Int32)), .val (.ref (u 0)), .val (.int (1 : Int32)), .unset, .unset, .unset, .unset, .unset] [(.int (p3 &&& (2 : Int32)))])) _
          refine XS.ifYes X47.here hx rfl (pc0 := 45) (pc' := 52) rfl (hb hby at_45) rfl ((if0 _ _).trans (teq hc69).1) (by decide) (by decide) ?_
          show Steps p.tables e below (T47.setTop (mkF m 52 #[.val (.int p0), .val (.int p1), .val (.int p2), .val (.int p3), .val (.int (1 : Int32)), .val (.ref (u 0)), .val (.int (1 : Int32)), .unset, .unset, .unset, .unset, .unset] [])) _
          refine XS.iconst X47.here hx rfl (hb hby at_52) ?_
          show Steps p.tables e below (T47.setTop (mkF m 53 #[.val (.int p0), .val (.int p1), .val (.int p2), .val (.int p3), .val (.int (1 : Int32)), .val (.ref (u 0)), .val (.int (1 : Int32)), .unset, .unset, .unset, .unset, .unset] [(.int (0 : Int32))])) _
          refine XS.istore X47.here hx rfl (hb hby at_53) rfl (l' := #[.val (.int p0), .val (.int p1), .val (.int p2), .val (.int p3), .val (.int (1 : Int32)), .val (.ref (u 0)), .val (.int (1 : Int32)), .val (.int (0 : Int32)), .unset, .unset, .unset, .unset]) rfl ?_
          show Steps p.tables e below (T47.setTop (mkF m 55 #[.val (.int p0), .val (.int p1), .val (.int p2), .val (.int p3), .val (.int (1 : Int32)), .val (.ref (u 0)), .val (.int (1 : Int32)), .val (.int (0 : Int32)), .unset, .unset, .unset, .unset] [])) _
          refine XS.iload X47.here hx rfl (hb hby at_55) rfl ?_
          show Steps p.tables e below (T47.setTop (mkF m 57 #[.val (.int p0), .val (.int p1), .val (.int p2), .val (.int p3), .val (.int (1 : Int32)), .val (.ref (u 0)), .val (.int (1 : Int32)), .val (.int (0 : Int32)), .unset, .unset, .unset, .unset] [(.int (1 : Int32))])) _
          refine XS.ifNo X47.here hx rfl (hb hby at_57) rfl ((if0 _ _).trans (feq (by decide : ¬ ((1 : Int32) = (0 : Int32)))).1) ?_
          show Steps p.tables e below (T47.setTop (mkF m 60 #[.val (.int p0), .val (.int p1), .val (.int p2), .val (.int p3), .val (.int (1 : Int32)), .val (.ref (u 0)), .val (.int (1 : Int32)), .val (.int (0 : Int32)), .unset, .unset, .unset, .unset] [])) _
          refine XS.aconstNull X47.here hx rfl (hb hby at_60) ?_
          show Steps p.tables e below (T47.setTop (mkF m 61 #[.val (.int p0), .val (.int p1), .val (.int p2), .val (.int p3), .val (.int (1 : Int32)), .val (.ref (u 0)), .val (.int (1 : Int32)), .val (.int (0 : Int32)), .unset, .unset, .unset, .unset] [.null])) _
          refine XS.goto X47.here hx rfl (pc0 := 61) (pc' := 68) rfl (hb hby at_61) (by decide) (by decide) ?_
          show Steps p.tables e below (T47.setTop (mkF m 68 #[.val (.int p0), .val (.int p1), .val (.int p2), .val (.int p3), .val (.int (1 : Int32)), .val (.ref (u 0)), .val (.int (1 : Int32)), .val (.int (0 : Int32)), .unset, .unset, .unset, .unset] [.null])) _
          refine XS.astore X47.here hx rfl (hb hby at_68) rfl rfl (l' := #[.val (.int p0), .val (.int p1), .val (.int p2), .val (.int p3), .val (.int (1 : Int32)), .val (.ref (u 0)), .val (.int (1 : Int32)), .val (.int (0 : Int32)), .val .null, .unset, .unset, .unset]) rfl ?_
          show Steps p.tables e below (T47.setTop (mkF m 70 #[.val (.int p0), .val (.int p1), .val (.int p2), .val (.int p3), .val (.int (1 : Int32)), .val (.ref (u 0)), .val (.int (1 : Int32)), .val (.int (0 : Int32)), .val .null, .unset, .unset, .unset] [])) _
          refine XS.iload X47.here hx rfl (hb hby at_70) rfl ?_
          show Steps p.tables e below (T47.setTop (mkF m 72 #[.val (.int p0), .val (.int p1), .val (.int p2), .val (.int p3), .val (.int (1 : Int32)), .val (.ref (u 0)), .val (.int (1 : Int32)), .val (.int (0 : Int32)), .val .null, .unset, .unset, .unset] [(.int (0 : Int32))])) _
          refine XS.ifYes X47.here hx rfl (pc0 := 72) (pc' := 79) rfl (hb hby at_72) rfl ((if0 _ _).trans (teq (by decide : (0 : Int32) = (0 : Int32))).1) (by decide) (by decide) ?_
          show Steps p.tables e below (T47.setTop (mkF m 79 #[.val (.int p0), .val (.int p1), .val (.int p2), .val (.int p3), .val (.int (1 : Int32)), .val (.ref (u 0)), .val (.int (1 : Int32)), .val (.int (0 : Int32)), .val .null, .unset, .unset, .unset] [])) _
          refine XS.iloadN X47.here hx rfl (hb hby at_79) rfl ?_
          exact kt)
        obtain ⟨vr71, _, ⟨T71, L71, k71, n71⟩, -, X71, ⟨Lc71, hQ71, l71, y71, z71⟩, st71⟩ := Jvm.LawKit.callS X47 hx (y := (⟨"java/lang/Integer", "valueOf", "(I)Ljava/lang/Integer;"⟩ : MethodName)) hown (mvT hZ (hw _ (List.mem_of_getElem? (i := 3) rfl))) (mvT hZ (hw _ (List.mem_of_getElem? (i := 4) rfl))) (mvT hZ (hw _ (List.mem_of_getElem? (i := 5) rfl))) (mvT hZ (hw _ (List.mem_of_getElem? (i := 6) rfl))) (by decide) (backOf (W := 0) (rm1 l Z a0 hw [] u p2 B h0 n0 O ) hZ (hw _ (List.mem_of_getElem? (i := 6) rfl)) (hw _ (List.mem_of_getElem? (i := 5) rfl)) (by decide) (by decide)) (g := (mkF m 80 #[.val (.int p0), .val (.int p1), .val (.int p2), .val (.int p3), .val (.int (1 : Int32)), .val (.ref (u 0)), .val (.int (1 : Int32)), .val (.int (0 : Int32)), .val .null, .unset, .unset, .unset] [(.int p2)])) rfl (by rw [hml]; rfl) (argsL := [(.int p2)]) (rest := []) (lenOf own_pd2 rfl) rfl (by show 2 * 0 + _ ≤ _; exact Nat.le_of_eq rfl) (hb hby at_80) (fun _ _ => ⟨rfl, e47, (by decide : 0 + 1 ≤ _), (by decide : 0 + 1 ≤ _)⟩)
        dsimp only [Pt.U, Pt.locs, Pt.cells, Pt.slots] at X71 l71 y71 z71 st71 hQ71
        subst l71 y71 z71
        obtain ⟨b71, rfl, N71q, E71, x71E, x71v⟩ := hQ71
        have N71 := Fr.app N0 N71q
        have O71 := O.ext E71
        have K71 := K0.ext E71
        have pre72 : ∀ t, Steps p.tables e below (T71.setTop (mkF m 91 #[.val (.int p0), .val (.int p1), .val (.int p2), .val (.int p3), .val (.int (1 : Int32)), .val (.ref (u 0)), .val (.int (1 : Int32)), .val (.int (0 : Int32)), .val .null, .val (.ref b71), .unset, .unset] [(.ref b71), .null, (.ref (u 0))])) t → Steps p.tables e below (s₁.setTop (entryFrame m #[(.int p0), (.int p1), (.int p2), (.int p3)] maxLocals)) t := fun t kt => pre70 t (by
          show Steps p.tables e below (T47.setTop (mkF m 80 #[.val (.int p0), .val (.int p1), .val (.int p2), .val (.int p3), .val (.int (1 : Int32)), .val (.ref (u 0)), .val (.int (1 : Int32)), .val (.int (0 : Int32)), .val .null, .unset, .unset, .unset] [(.int p2)])) _
          refine st71 _ ?_
          show Steps p.tables e below (T71.setTop (mkF m 83 #[.val (.int p0), .val (.int p1), .val (.int p2), .val (.int p3), .val (.int (1 : Int32)), .val (.ref (u 0)), .val (.int (1 : Int32)), .val (.int (0 : Int32)), .val .null, .unset, .unset, .unset] [(.ref b71)])) _
          refine XS.astore X71.here hx rfl (hb hby at_83) rfl rfl (l' := #[.val (.int p0), .val (.int p1), .val (.int p2), .val (.int p3), .val (.int (1 : Int32)), .val (.ref (u 0)), .val (.int (1 : Int32)), .val (.int (0 : Int32)), .val .null, .val (.ref b71), .unset, .unset]) rfl ?_
          show Steps p.tables e below (T71.setTop (mkF m 85 #[.val (.int p0), .val (.int p1), .val (.int p2), .val (.int p3), .val (.int (1 : Int32)), .val (.ref (u 0)), .val (.int (1 : Int32)), .val (.int (0 : Int32)), .val .null, .val (.ref b71), .unset, .unset] [])) _
          refine XS.aload X71.here hx rfl (hb hby at_85) rfl rfl ?_
          show Steps p.tables e below (T71.setTop (mkF m 87 #[.val (.int p0), .val (.int p1), .val (.int p2), .val (.int p3), .val (.int (1 : Int32)), .val (.ref (u 0)), .val (.int (1 : Int32)), .val (.int (0 : Int32)), .val .null, .val (.ref b71), .unset, .unset] [(.ref (u 0))])) _
          refine XS.aload X71.here hx rfl (hb hby at_87) rfl rfl ?_
          show Steps p.tables e below (T71.setTop (mkF m 89 #[.val (.int p0), .val (.int p1), .val (.int p2), .val (.int p3), .val (.int (1 : Int32)), .val (.ref (u 0)), .val (.int (1 : Int32)), .val (.int (0 : Int32)), .val .null, .val (.ref b71), .unset, .unset] [.null, (.ref (u 0))])) _
          refine XS.aload X71.here hx rfl (hb hby at_89) rfl rfl ?_
          exact kt)
        obtain ⟨cq73, kq73, q73a, q73b, q73c⟩ := isOf hZ rfl (B.2.1.ext O71.2)
        obtain ⟨vr73, _, ⟨T73, L73, k73, n73⟩, -, X73, ⟨Lc73, hQ73, l73, y73, z73⟩, st73⟩ := X71.virtualBack hx (y := (⟨"com/example/vetted_ledger/vettedledger/engine/BillingAlignment", "subscriptionDay", "(Ljava/lang/Integer;Ljava/lang/Integer;)Ljava/lang/Integer;"⟩ : MethodName)) (z := (⟨"com/example/vetted_ledger/vettedledger/engine/BillingAlignment", "subscriptionDay", "(Ljava/lang/Integer;Ljava/lang/Integer;)Ljava/lang/Integer;"⟩ : MethodName)) hown (mvT hZ (hw _ (List.mem_of_getElem? (i := 10) rfl))) (mvT hZ (hw _ (List.mem_of_getElem? (i := 11) rfl))) (notFace_of_selects (args := #[]) (mvT hZ (hw _ (List.mem_of_getElem? (i := 13) rfl)))) (mvT hZ (hw _ (List.mem_of_getElem? (i := 13) rfl))) (mvT hZ (hw _ (List.mem_of_getElem? (i := 12) rfl))) (by decide) (backOf (W := 0) (rmsd01 l Z a0 hw [] u (u 0) b71 B T71.heap n0 O71 ) hZ (hw _ (List.mem_of_getElem? (i := 14) rfl)) (hw _ (List.mem_of_getElem? (i := 1) rfl)) (by decide) (by decide)) q73a q73c (g := (mkF m 91 #[.val (.int p0), .val (.int p1), .val (.int p2), .val (.int p3), .val (.int (1 : Int32)), .val (.ref (u 0)), .val (.int (1 : Int32)), .val (.int (0 : Int32)), .val .null, .val (.ref b71), .unset, .unset] [(.ref b71), .null, (.ref (u 0))])) rfl (by rw [hml]; rfl) (Steps.refl _) (argsL := [.null, (.ref b71)]) (rest := []) (lenOf own_pd3 rfl) rfl (by show 2 * 0 + _ ≤ _; exact Nat.le_of_eq rfl) (hb hby at_91) (fun _ _ => ⟨rfl, rfl, (by decide : 1 + 0 ≤ _), (by decide : 1 + 0 ≤ _)⟩)
        dsimp only [Pt.U, Pt.locs, Pt.cells, Pt.slots] at X73 l73 y73 z73 st73 hQ73
        subst l73 y73 z73
        obtain ⟨hv73, N73q, e73⟩ := hQ73
        have N73 := Fr.app N71 N73q
        obtain rfl : vr73 = some .null := hv73.trans (by unfold own_rsd01; rw [if_pos (rfl : (u 0) = (u 0))])
        obtain ⟨fs, hr, hrun, hended, hW, hsame⟩ := X73.leave (v := some (.int (1 : Int32))) (fun h => by rw [Bd.returns] at h; cases h)
        refine ⟨_, _, pre72 _ ?_, hrun, hended, _, _, rfl, ?_, ⟨_, rfl⟩, hW, hsame.mono (by decide) (by decide)⟩
        · show Steps p.tables e below (T71.setTop (mkF m 91 #[.val (.int p0), .val (.int p1), .val (.int p2), .val (.int p3), .val (.int (1 : Int32)), .val (.ref (u 0)), .val (.int (1 : Int32)), .val (.int (0 : Int32)), .val .null, .val (.ref b71), .unset, .unset] [(.ref b71), .null, (.ref (u 0))])) _
          refine st73.trans ?_
          show Steps p.tables e below (T73.setTop (mkF m 94 #[.val (.int p0), .val (.int p1), .val (.int p2), .val (.int p3), .val (.int (1 : Int32)), .val (.ref (u 0)), .val (.int (1 : Int32)), .val (.int (0 : Int32)), .val .null, .val (.ref b71), .unset, .unset] [.null])) _
          refine XS.astore X73.here hx rfl (hb hby at_94) rfl rfl (l' := #[.val (.int p0), .val (.int p1), .val (.int p2), .val (.int p3), .val (.int (1 : Int32)), .val (.ref (u 0)), .val (.int (1 : Int32)), .val (.int (0 : Int32)), .val .null, .val (.ref b71), .val .null, .unset]) rfl ?_
          show Steps p.tables e below (T73.setTop (mkF m 96 #[.val (.int p0), .val (.int p1), .val (.int p2), .val (.int p3), .val (.int (1 : Int32)), .val (.ref (u 0)), .val (.int (1 : Int32)), .val (.int (0 : Int32)), .val .null, .val (.ref b71), .val .null, .unset] [])) _
          refine XS.iload X73.here hx rfl (hb hby at_96) rfl ?_
          show Steps p.tables e below (T73.setTop (mkF m 98 #[.val (.int p0), .val (.int p1), .val (.int p2), .val (.int p3), .val (.int (1 : Int32)), .val (.ref (u 0)), .val (.int (1 : Int32)), .val (.int (0 : Int32)), .val .null, .val (.ref b71), .val .null, .unset] [(.int (1 : Int32))])) _
          refine XS.ifNo X73.here hx rfl (hb hby at_98) rfl ((if0 _ _).trans (feq (by decide : ¬ ((1 : Int32) = (0 : Int32)))).1) ?_
          show Steps p.tables e below (T73.setTop (mkF m 101 #[.val (.int p0), .val (.int p1), .val (.int p2), .val (.int p3), .val (.int (1 : Int32)), .val (.ref (u 0)), .val (.int (1 : Int32)), .val (.int (0 : Int32)), .val .null, .val (.ref b71), .val .null, .unset] [])) _
          refine XS.aload X73.here hx rfl (hb hby at_101) rfl rfl ?_
          show Steps p.tables e below (T73.setTop (mkF m 103 #[.val (.int p0), .val (.int p1), .val (.int p2), .val (.int p3), .val (.int (1 : Int32)), .val (.ref (u 0)), .val (.int (1 : Int32)), .val (.int (0 : Int32)), .val .null, .val (.ref b71), .val .null, .unset] [.null])) _
          refine XS.ifnonnullNo X73.here hx rfl (hb hby at_103) rfl ?_
          show Steps p.tables e below (T73.setTop (mkF m 106 #[.val (.int p0), .val (.int p1), .val (.int p2), .val (.int p3), .val (.int (1 : Int32)), .val (.ref (u 0)), .val (.int (1 : Int32)), .val (.int (0 : Int32)), .val .null, .val (.ref b71), .val .null, .unset] [])) _
          refine XS.iconst X73.here hx rfl (hb hby at_106) ?_
          show Steps p.tables e below (T73.setTop (mkF m 107 #[.val (.int p0), .val (.int p1), .val (.int p2), .val (.int p3), .val (.int (1 : Int32)), .val (.ref (u 0)), .val (.int (1 : Int32)), .val (.int (0 : Int32)), .val .null, .val (.ref b71), .val .null, .unset] [(.int (1 : Int32))])) _
          refine XS.goto X73.here hx rfl (pc0 := 107) (pc' := 111) rfl (hb hby at_107) (by decide) (by decide) ?_
          show Steps p.tables e below (T73.setTop (mkF m 111 #[.val (.int p0), .val (.int p1), .val (.int p2), .val (.int p3), .val (.int (1 : Int32)), .val (.ref (u 0)), .val (.int (1 : Int32)), .val (.int (0 : Int32)), .val .null, .val (.ref b71), .val .null, .unset] [(.int (1 : Int32))])) _
          exact retN X73 hx (t := .boolean) Bd.returns (by simp) (hb hby at_111) hr
        · show own_Q0 Z u p0 p1 p2 p3 h0 n0 _ T73.heap _
          rw [e73]
          exact ⟨rfl, N73, trivial⟩
      · --
        have pre75 : ∀ t, Steps p.tables e below (T47.setTop (mkF m 91 #[.val (.int p0), .val (.int p1), .val (.int p2), .val (.int p3), .val (.int (1 : Int32)), .val (.ref (u 0)), .val (.int (1 : Int32)), .val (.int (1 : Int32)), .val .null, .val .null, .unset, .unset] [.null, .null, (.ref (u 0))])) t → Steps p.tables e below (s₁.setTop (entryFrame m #[(.int p0), (.int p1), (.int p2), (.int p3)] maxLocals)) t := fun t kt => pre68 t (by
          show Steps p.tables e below (T47.setTop (mkF m 45 #[.val (.int p0), .val (.int p1), .val (.int p2), .val (.int p3), .val (.int (1 : Int32)), .val (.ref (u 0)), .val (.int (1 : Int32)), .unset, .unset, .unset, .unset, .unset] [(.int (p3 &&& (2 : Int32)))])) _
          refine XS.ifNo X47.here hx rfl (hb hby at_45) rfl ((if0 _ _).trans (feq hc69).1) ?_
          show Steps p.tables e below (T47.setTop (mkF m 48 #[.val (.int p0), .val (.int p1), .val (.int p2), .val (.int p3), .val (.int (1 : Int32)), .val (.ref (u 0)), .val (.int (1 : Int32)), .unset, .unset, .unset, .unset, .unset] [])) _
          refine XS.iconst X47.here hx rfl (hb hby at_48) ?_
          show Steps p.tables e below (T47.setTop (mkF m 49 #[.val (.int p0), .val (.int p1), .val (.int p2), .val (.int p3), .val (.int (1 : Int32)), .val (.ref (u 0)), .val (.int (1 : Int32)), .unset, .unset, .unset, .unset, .unset] [(.int (1 : Int32))])) _
          refine XS.goto X47.here hx rfl (pc0 := 49) (pc' := 53) rfl (hb hby at_49) (by decide) (by decide) ?_
          show Steps p.tables e below (T47.setTop (mkF m 53 #[.val (.int p0), .val (.int p1), .val (.int p2), .val (.int p3), .val (.int (1 : Int32)), .val (.ref (u 0)), .val (.int (1 : Int32)), .unset, .unset, .unset, .unset, .unset] [(.int (1 : Int32))])) _
          refine XS.istore X47.here hx rfl (hb hby at_53) rfl (l' := #[.val (.int p0), .val (.int p1), .val (.int p2), .val (.int p3), .val (.int (1 : Int32)), .val (.ref (u 0)), .val (.int (1 : Int32)), .val (.int (1 : Int32)), .unset, .unset, .unset, .unset]) rfl ?_
          show Steps p.tables e below (T47.setTop (mkF m 55 #[.val (.int p0), .val (.int p1), .val (.int p2), .val (.int p3), .val (.int (1 : Int32)), .val (.ref (u 0)), .val (.int (1 : Int32)), .val (.int (1 : Int32)), .unset, .unset, .unset, .unset] [])) _
          refine XS.iload X47.here hx rfl (hb hby at_55) rfl ?_
          show Steps p.tables e below (T47.setTop (mkF m 57 #[.val (.int p0), .val (.int p1), .val (.int p2), .val (.int p3), .val (.int (1 : Int32)), .val (.ref (u 0)), .val (.int (1 : Int32)), .val (.int (1 : Int32)), .unset, .unset, .unset, .unset] [(.int (1 : Int32))])) _
          refine XS.ifNo X47.here hx rfl (hb hby at_57) rfl ((if0 _ _).trans (feq (by decide : ¬ ((1 : Int32) = (0 : Int32)))).1) ?_
          show Steps p.tables e below (T47.setTop (mkF m 60 #[.val (.int p0), .val (.int p1), .val (.int p2), .val (.int p3), .val (.int (1 : Int32)), .val (.ref (u 0)), .val (.int (1 : Int32)), .val (.int (1 : Int32)), .unset, .unset, .unset, .unset] [])) _
          refine XS.aconstNull X47.here hx rfl (hb hby at_60) ?_
          show Steps p.tables e below (T47.setTop (mkF m 61 #[.val (.int p0), .val (.int p1), .val (.int p2), .val (.int p3), .val (.int (1 : Int32)), .val (.ref (u 0)), .val (.int (1 : Int32)), .val (.int (1 : Int32)), .unset, .unset, .unset, .unset] [.null])) _
          refine XS.goto X47.here hx rfl (pc0 := 61) (pc' := 68) rfl (hb hby at_61) (by decide) (by decide) ?_
          show Steps p.tables e below (T47.setTop (mkF m 68 #[.val (.int p0), .val (.int p1), .val (.int p2), .val (.int p3), .val (.int (1 : Int32)), .val (.ref (u 0)), .val (.int (1 : Int32)), .val (.int (1 : Int32)), .unset, .unset, .unset, .unset] [.null])) _
          refine XS.astore X47.here hx rfl (hb hby at_68) rfl rfl (l' := #[.val (.int p0), .val (.int p1), .val (.int p2), .val (.int p3), .val (.int (1 : Int32)), .val (.ref (u 0)), .val (.int (1 : Int32)), .val (.int (1 : Int32)), .val .null, .unset, .unset, .unset]) rfl ?_
          show Steps p.tables e below (T47.setTop (mkF m 70 #[.val (.int p0), .val (.int p1), .val (.int p2), .val (.int p3), .val (.int (1 : Int32)), .val (.ref (u 0)), .val (.int (1 : Int32)), .val (.int (1 : Int32)), .val .null, .unset, .unset, .unset] [])) _
          refine XS.iload X47.here hx rfl (hb hby at_70) rfl ?_
          show Steps p.tables e below (T47.setTop (mkF m 72 #[.val (.int p0), .val (.int p1), .val (.int p2), .val (.int p3), .val (.int (1 : Int32)), .val (.ref (u 0)), .val (.int (1 : Int32)), .val (.int (1 : Int32)), .val .null, .unset, .unset, .unset] [(.int (1 : Int32))])) _
          refine XS.ifNo X47.here hx rfl (hb hby at_72) rfl ((if0 _ _).trans (feq (by decide : ¬ ((1 : Int32) = (0 : Int32)))).1) ?_
          show Steps p.tables e below (T47.setTop (mkF m 75 #[.val (.int p0), .val (.int p1), .val (.int p2), .val (.int p3), .val (.int (1 : Int32)), .val (.ref (u 0)), .val (.int (1 : Int32)), .val (.int (1 : Int32)), .val .null, .unset, .unset, .unset] [])) _
          refine XS.aconstNull X47.here hx rfl (hb hby at_75) ?_
          show Steps p.tables e below (T47.setTop (mkF m 76 #[.val (.int p0), .val (.int p1), .val (.int p2), .val (.int p3), .val (.int (1 : Int32)), .val (.ref (u 0)), .val (.int (1 : Int32)), .val (.int (1 : Int32)), .val .null, .unset, .unset, .unset] [.null])) _
          refine XS.goto X47.here hx rfl (pc0 := 76) (pc' := 83) rfl (hb hby at_76) (by decide) (by decide) ?_
          show Steps p.tables e below (T47.setTop (mkF m 83 #[.val (.int p0), .val (.int p1), .val (.int p2), .val (.int p3), .val (.int (1 : Int32)), .val (.ref (u 0)), .val (.int (1 : Int32)), .val (.int (1 : Int32)), .val .null, .unset, .unset, .unset] [.null])) _
          refine XS.astore X47.here hx rfl (hb hby at_83) rfl rfl (l' := #[.val (.int p0), .val (.int p1), .val (.int p2), .val (.int p3), .val (.int (1 : Int32)), .val (.ref (u 0)), .val (.int (1 : Int32)), .val (.int (1 : Int32)), .val .null, .val .null, .unset, .unset]) rfl ?_
          show Steps p.tables e below (T47.setTop (mkF m 85 #[.val (.int p0), .val (.int p1), .val (.int p2), .val (.int p3), .val (.int (1 : Int32)), .val (.ref (u 0)), .val (.int (1 : Int32)), .val (.int (1 : Int32)), .val .null, .val .null, .unset, .unset] [])) _
          refine XS.aload X47.here hx rfl (hb hby at_85) rfl rfl ?_
          show Steps p.tables e below (T47.setTop (mkF m 87 #[.val (.int p0), .val (.int p1), .val (.int p2), .val (.int p3), .val (.int (1 : Int32)), .val (.ref (u 0)), .val (.int (1 : Int32)), .val (.int (1 : Int32)), .val .null, .val .null, .unset, .unset] [(.ref (u 0))])) _
          refine XS.aload X47.here hx rfl (hb hby at_87) rfl rfl ?_
          show Steps p.tables e below (T47.setTop (mkF m 89 #[.val (.int p0), .val (.int p1), .val (.int p2), .val (.int p3), .val (.int (1 : Int32)), .val (.ref (u 0)), .val (.int (1 : Int32)), .val (.int (1 : Int32)), .val .null, .val .null, .unset, .unset] [.null, (.ref (u 0))])) _
          refine XS.aload X47.here hx rfl (hb hby at_89) rfl rfl ?_
          exact kt)
        obtain ⟨cq76, kq76, q76a, q76b, q76c⟩ := isOf hZ e47 (B.2.1.ext O.2)
        obtain ⟨vr76, _, ⟨T76, L76, k76, n76⟩, -, X76, ⟨Lc76, hQ76, l76, y76, z76⟩, st76⟩ := X47.virtualBack hx (y := (⟨"com/example/vetted_ledger/vettedledger/engine/BillingAlignment", "subscriptionDay", "(Ljava/lang/Integer;Ljava/lang/Integer;)Ljava/lang/Integer;"⟩ : MethodName)) (z := (⟨"com/example/vetted_ledger/vettedledger/engine/BillingAlignment", "subscriptionDay", "(Ljava/lang/Integer;Ljava/lang/Integer;)Ljava/lang/Integer;"⟩ : MethodName)) hown (mvT hZ (hw _ (List.mem_of_getElem? (i := 10) rfl))) (mvT hZ (hw _ (List.mem_of_getElem? (i := 11) rfl))) (notFace_of_selects (args := #[]) (mvT hZ (hw _ (List.mem_of_getElem? (i := 13) rfl)))) (mvT hZ (hw _ (List.mem_of_getElem? (i := 13) rfl))) (mvT hZ (hw _ (List.mem_of_getElem? (i := 12) rfl))) (by decide) (backOf (W := 0) (rmsd00 l Z a0 hw [] u (u 0) B h0 n0 O ) hZ (hw _ (List.mem_of_getElem? (i := 14) rfl)) (hw _ (List.mem_of_getElem? (i := 1) rfl)) (by decide) (by decide)) q76a q76c (g := (mkF m 91 #[.val (.int p0), .val (.int p1), .val (.int p2), .val (.int p3), .val (.int (1 : Int32)), .val (.ref (u 0)), .val (.int (1 : Int32)), .val (.int (1 : Int32)), .val .null, .val .null, .unset, .unset] [.null, .null, (.ref (u 0))])) rfl (by rw [hml]; rfl) (Steps.refl _) (argsL := [.null, .null]) (rest := []) (lenOf own_pd3 rfl) rfl (by show 2 * 0 + _ ≤ _; exact Nat.le_of_eq rfl) (hb hby at_91) (fun _ _ => ⟨rfl, e47, (by decide : 0 + 0 ≤ _), (by decide : 0 + 0 ≤ _)⟩)
        dsimp only [Pt.U, Pt.locs, Pt.cells, Pt.slots] at X76 l76 y76 z76 st76 hQ76
        subst l76 y76 z76
        obtain ⟨hv76, N76q, e76⟩ := hQ76
        have N76 := Fr.app N0 N76q
        obtain rfl : vr76 = some .null := hv76.trans (by unfold own_rsd00; rw [if_pos (rfl : (u 0) = (u 0))])
        obtain ⟨fs, hr, hrun, hended, hW, hsame⟩ := X76.leave (v := some (.int (1 : Int32))) (fun h => by rw [Bd.returns] at h; cases h)
        refine ⟨_, _, pre75 _ ?_, hrun, hended, _, _, rfl, ?_, ⟨_, rfl⟩, hW, hsame.mono (by decide) (by decide)⟩
        · show Steps p.tables e below (T47.setTop (mkF m 91 #[.val (.int p0), .val (.int p1), .val (.int p2), .val (.int p3), .val (.int (1 : Int32)), .val (.ref (u 0)), .val (.int (1 : Int32)), .val (.int (1 : Int32)), .val .null, .val .null, .unset, .unset] [.null, .null, (.ref (u 0))])) _
          refine st76.trans ?_
          show Steps p.tables e below (T76.setTop (mkF m 94 #[.val (.int p0), .val (.int p1), .val (.int p2), .val (.int p3), .val (.int (1 : Int32)), .val (.ref (u 0)), .val (.int (1 : Int32)), .val (.int (1 : Int32)), .val .null, .val .null, .unset, .unset] [.null])) _
          refine XS.astore X76.here hx rfl (hb hby at_94) rfl rfl (l' := #[.val (.int p0), .val (.int p1), .val (.int p2), .val (.int p3), .val (.int (1 : Int32)), .val (.ref (u 0)), .val (.int (1 : Int32)), .val (.int (1 : Int32)), .val .null, .val .null, .val .null, .unset]) rfl ?_
          show Steps p.tables e below (T76.setTop (mkF m 96 #[.val (.int p0), .val (.int p1), .val (.int p2), .val (.int p3), .val (.int (1 : Int32)), .val (.ref (u 0)), .val (.int (1 : Int32)), .val (.int (1 : Int32)), .val .null, .val .null, .val .null, .unset] [])) _
          refine XS.iload X76.here hx rfl (hb hby at_96) rfl ?_
          show Steps p.tables e below (T76.setTop (mkF m 98 #[.val (.int p0), .val (.int p1), .val (.int p2), .val (.int p3), .val (.int (1 : Int32)), .val (.ref (u 0)), .val (.int (1 : Int32)), .val (.int (1 : Int32)), .val .null, .val .null, .val .null, .unset] [(.int (1 : Int32))])) _
          refine XS.ifNo X76.here hx rfl (hb hby at_98) rfl ((if0 _ _).trans (feq (by decide : ¬ ((1 : Int32) = (0 : Int32)))).1) ?_
          show Steps p.tables e below (T76.setTop (mkF m 101 #[.val (.int p0), .val (.int p1), .val (.int p2), .val (.int p3), .val (.int (1 : Int32)), .val (.ref (u 0)), .val (.int (1 : Int32)), .val (.int (1 : Int32)), .val .null, .val .null, .val .null, .unset] [])) _
          refine XS.aload X76.here hx rfl (hb hby at_101) rfl rfl ?_
          show Steps p.tables e below (T76.setTop (mkF m 103 #[.val (.int p0), .val (.int p1), .val (.int p2), .val (.int p3), .val (.int (1 : Int32)), .val (.ref (u 0)), .val (.int (1 : Int32)), .val (.int (1 : Int32)), .val .null, .val .null, .val .null, .unset] [.null])) _
          refine XS.ifnonnullNo X76.here hx rfl (hb hby at_103) rfl ?_
          show Steps p.tables e below (T76.setTop (mkF m 106 #[.val (.int p0), .val (.int p1), .val (.int p2), .val (.int p3), .val (.int (1 : Int32)), .val (.ref (u 0)), .val (.int (1 : Int32)), .val (.int (1 : Int32)), .val .null, .val .null, .val .null, .unset] [])) _
          refine XS.iconst X76.here hx rfl (hb hby at_106) ?_
          show Steps p.tables e below (T76.setTop (mkF m 107 #[.val (.int p0), .val (.int p1), .val (.int p2), .val (.int p3), .val (.int (1 : Int32)), .val (.ref (u 0)), .val (.int (1 : Int32)), .val (.int (1 : Int32)), .val .null, .val .null, .val .null, .unset] [(.int (1 : Int32))])) _
          refine XS.goto X76.here hx rfl (pc0 := 107) (pc' := 111) rfl (hb hby at_107) (by decide) (by decide) ?_
          show Steps p.tables e below (T76.setTop (mkF m 111 #[.val (.int p0), .val (.int p1), .val (.int p2), .val (.int p3), .val (.int (1 : Int32)), .val (.ref (u 0)), .val (.int (1 : Int32)), .val (.int (1 : Int32)), .val .null, .val .null, .val .null, .unset] [(.int (1 : Int32))])) _
          exact retN X76 hx (t := .boolean) Bd.returns (by simp) (hb hby at_111) hr
        · show own_Q0 Z u p0 p1 p2 p3 h0 n0 _ T76.heap _
          rw [e76]
          exact ⟨rfl, N76, trivial⟩
  · --
    obtain ⟨T78, X78, e78, st78⟩ := getS2 X0 hx hZ hown (host := "") (Or.inl (hw _ (List.mem_of_getElem? (i := 23) rfl))) Via.refl e0 (B.2.2.1.ext O.2) (g := (mkF m 24 #[.val (.int p0), .val (.int p1), .val (.int p2), .val (.int p3), .val (.int (0 : Int32)), .unset, .unset, .unset, .unset, .unset, .unset, .unset] [])) rfl (hb hby at_24)
    have pre79 : ∀ t, Steps p.tables e below (T78.setTop (mkF m 32 #[.val (.int p0), .val (.int p1), .val (.int p2), .val (.int p3), .val (.int (0 : Int32)), .val (.ref (u 1)), .unset, .unset, .unset, .unset, .unset, .unset] [(.int (p3 &&& (1 : Int32)))])) t → Steps p.tables e below (s₁.setTop (entryFrame m #[(.int p0), (.int p1), (.int p2), (.int p3)] maxLocals)) t := fun t kt => pre45 t (by
      show Steps p.tables e below (s₁.setTop (mkF m 3 #[.val (.int p0), .val (.int p1), .val (.int p2), .val (.int p3), .unset, .unset, .unset, .unset, .unset, .unset, .unset, .unset] [(.int (p0 &&& (1 : Int32)))])) _
      refine XS.ifYes X0.here hx rfl (pc0 := 3) (pc' := 10) rfl (hb hby at_3) rfl ((if0 _ _).trans (feq hc46).2) (by decide) (by decide) ?_
      show Steps p.tables e below (s₁.setTop (mkF m 10 #[.val (.int p0), .val (.int p1), .val (.int p2), .val (.int p3), .unset, .unset, .unset, .unset, .unset, .unset, .unset, .unset] [])) _
      refine XS.iconst X0.here hx rfl (hb hby at_10) ?_
      show Steps p.tables e below (s₁.setTop (mkF m 11 #[.val (.int p0), .val (.int p1), .val (.int p2), .val (.int p3), .unset, .unset, .unset, .unset, .unset, .unset, .unset, .unset] [(.int (0 : Int32))])) _
      refine XS.istore X0.here hx rfl (hb hby at_11) rfl (l' := #[.val (.int p0), .val (.int p1), .val (.int p2), .val (.int p3), .val (.int (0 : Int32)), .unset, .unset, .unset, .unset, .unset, .unset, .unset]) rfl ?_
      show Steps p.tables e below (s₁.setTop (mkF m 13 #[.val (.int p0), .val (.int p1), .val (.int p2), .val (.int p3), .val (.int (0 : Int32)), .unset, .unset, .unset, .unset, .unset, .unset, .unset] [])) _
      refine XS.iload X0.here hx rfl (hb hby at_13) rfl ?_
      show Steps p.tables e below (s₁.setTop (mkF m 15 #[.val (.int p0), .val (.int p1), .val (.int p2), .val (.int p3), .val (.int (0 : Int32)), .unset, .unset, .unset, .unset, .unset, .unset, .unset] [(.int (0 : Int32))])) _
      refine XS.ifYes X0.here hx rfl (pc0 := 15) (pc' := 24) rfl (hb hby at_15) rfl ((if0 _ _).trans (teq (by decide : (0 : Int32) = (0 : Int32))).1) (by decide) (by decide) ?_
      show Steps p.tables e below (s₁.setTop (mkF m 24 #[.val (.int p0), .val (.int p1), .val (.int p2), .val (.int p3), .val (.int (0 : Int32)), .unset, .unset, .unset, .unset, .unset, .unset, .unset] [])) _
      refine st78 _ ?_
      show Steps p.tables e below (T78.setTop (mkF m 27 #[.val (.int p0), .val (.int p1), .val (.int p2), .val (.int p3), .val (.int (0 : Int32)), .unset, .unset, .unset, .unset, .unset, .unset, .unset] [(.ref (u 1))])) _
      refine XS.astore X78.here hx rfl (hb hby at_27) rfl rfl (l' := #[.val (.int p0), .val (.int p1), .val (.int p2), .val (.int p3), .val (.int (0 : Int32)), .val (.ref (u 1)), .unset, .unset, .unset, .unset, .unset, .unset]) rfl ?_
      show Steps p.tables e below (T78.setTop (mkF m 29 #[.val (.int p0), .val (.int p1), .val (.int p2), .val (.int p3), .val (.int (0 : Int32)), .val (.ref (u 1)), .unset, .unset, .unset, .unset, .unset, .unset] [])) _
      refine XS.iloadN X78.here hx rfl (hb hby at_29) rfl ?_
      show Steps p.tables e below (T78.setTop (mkF m 30 #[.val (.int p0), .val (.int p1), .val (.int p2), .val (.int p3), .val (.int (0 : Int32)), .val (.ref (u 1)), .unset, .unset, .unset, .unset, .unset, .unset] [(.int p3)])) _
      refine XS.iconst X78.here hx rfl (hb hby at_30) ?_
      show Steps p.tables e below (T78.setTop (mkF m 31 #[.val (.int p0), .val (.int p1), .val (.int p2), .val (.int p3), .val (.int (0 : Int32)), .val (.ref (u 1)), .unset, .unset, .unset, .unset, .unset, .unset] [(.int (1 : Int32)), (.int p3)])) _
      refine XS.iand X78.here hx rfl (hb hby at_31) rfl ?_
      exact kt)
    by_cases hc80 : (p3 &&& (1 : Int32)) = (0 : Int32)
    · --
      have pre81 : ∀ t, Steps p.tables e below (T78.setTop (mkF m 45 #[.val (.int p0), .val (.int p1), .val (.int p2), .val (.int p3), .val (.int (0 : Int32)), .val (.ref (u 1)), .val (.int (0 : Int32)), .unset, .unset, .unset, .unset, .unset] [(.int (p3 &&& (2 : Int32)))])) t → Steps p.tables e below (s₁.setTop (entryFrame m #[(.int p0), (.int p1), (.int p2), (.int p3)] maxLocals)) t := fun t kt => pre79 t (by
        show Steps p.tables e below (T78.setTop (mkF m 32 #[.val (.int p0), .val (.int p1), .val (.int p2), .val (.int p3), .val (.int (0 : Int32)), .val (.ref (u 1)), .unset, .unset, .unset, .unset, .unset, .unset] [(.int (p3 &&& (1 : Int32)))])) _
        refine XS.ifYes X78.here hx rfl (pc0 := 32) (pc' := 39) rfl (hb hby at_32) rfl ((if0 _ _).trans (teq hc80).1) (by decide) (by decide) ?_
        show Steps p.tables e below (T78.setTop (mkF m 39 #[.val (.int p0), .val (.int p1), .val (.int p2), .val (.int p3), .val (.int (0 : Int32)), .val (.ref (u 1)), .unset, .unset, .unset, .unset, .unset, .unset] [])) _
        refine XS.iconst X78.here hx rfl (hb hby at_39) ?_
        show Steps p.tables e below (T78.setTop (mkF m 40 #[.val (.int p0), .val (.int p1), .val (.int p2), .val (.int p3), .val (.int (0 : Int32)), .val (.ref (u 1)), .unset, .unset, .unset, .unset, .unset, .unset] [(.int (0 : Int32))])) _
        refine XS.istore X78.here hx rfl (hb hby at_40) rfl (l' := #[.val (.int p0), .val (.int p1), .val (.int p2), .val (.int p3), .val (.int (0 : Int32)), .val (.ref (u 1)), .val (.int (0 : Int32)), .unset, .unset, .unset, .unset, .unset]) rfl ?_
        show Steps p.tables e below (T78.setTop (mkF m 42 #[.val (.int p0), .val (.int p1), .val (.int p2), .val (.int p3), .val (.int (0 : Int32)), .val (.ref (u 1)), .val (.int (0 : Int32)), .unset, .unset, .unset, .unset, .unset] [])) _
        refine XS.iloadN X78.here hx rfl (hb hby at_42) rfl ?_
        show Steps p.tables e below (T78.setTop (mkF m 43 #[.val (.int p0), .val (.int p1), .val (.int p2), .val (.int p3), .val (.int (0 : Int32)), .val (.ref (u 1)), .val (.int (0 : Int32)), .unset, .unset, .unset, .unset, .unset] [(.int p3)])) _
        refine XS.iconst X78.here hx rfl (hb hby at_43) ?_
        show Steps p.tables e below (T78.setTop (mkF m 44 #[.val (.int p0), .val (.int p1), .val (.int p2), .val (.int p3), .val (.int (0 : Int32)), .val (.ref (u 1)), .val (.int (0 : Int32)), .unset, .unset, .unset, .unset, .unset] [(.int (2 : Int32)), (.int p3)])) _
        refine XS.iand X78.here hx rfl (hb hby at_44) rfl ?_
        exact kt)
      by_cases hc82 : (p3 &&& (2 : Int32)) = (0 : Int32)
      · --
        have pre83 : ∀ t, Steps p.tables e below (T78.setTop (mkF m 65 #[.val (.int p0), .val (.int p1), .val (.int p2), .val (.int p3), .val (.int (0 : Int32)), .val (.ref (u 1)), .val (.int (0 : Int32)), .val (.int (0 : Int32)), .unset, .unset, .unset, .unset] [(.int p1)])) t → Steps p.tables e below (s₁.setTop (entryFrame m #[(.int p0), (.int p1), (.int p2), (.int p3)] maxLocals)) t := fun t kt => pre81 t (by
          show Steps p.tables e below (T78.setTop (mkF m 45 #[.val (.int p0), .val (.int p1), .val (.int p2), .val (.int p3), .val (.int (0 : Int32)), .val (.ref (u 1)), .val (.int (0 : Int32)), .unset, .unset, .unset, .unset, .unset] [(.int (p3 &&& (2 : Int32)))])) _
          refine XS.ifYes X78.here hx rfl (pc0 := 45) (pc' := 52) rfl (hb hby at_45) rfl ((if0 _ _).trans (teq hc82).1) (by decide) (by decide) ?_
          show Steps p.tables e below (T78.setTop (mkF m 52 #[.val (.int p0), .val (.int p1), .val (.int p2), .val (.int p3), .val (.int (0 : Int32)), .val (.ref (u 1)), .val (.int (0 : Int32)), .unset, .unset, .unset, .unset, .unset] [])) _
          refine XS.iconst X78.here hx rfl (hb hby at_52) ?_
          show Steps p.tables e below (T78.setTop (mkF m 53 #[.val (.int p0), .val (.int p1), .val (.int p2), .val (.int p3), .val (.int (0 : Int32)), .val (.ref (u 1)), .val (.int (0 : Int32)), .unset, .unset, .unset, .unset, .unset] [(.int (0 : Int32))])) _
          refine XS.istore X78.here hx rfl (hb hby at_53) rfl (l' := #[.val (.int p0), .val (.int p1), .val (.int p2), .val (.int p3), .val (.int (0 : Int32)), .val (.ref (u 1)), .val (.int (0 : Int32)), .val (.int (0 : Int32)), .unset, .unset, .unset, .unset]) rfl ?_
          show Steps p.tables e below (T78.setTop (mkF m 55 #[.val (.int p0), .val (.int p1), .val (.int p2), .val (.int p3), .val (.int (0 : Int32)), .val (.ref (u 1)), .val (.int (0 : Int32)), .val (.int (0 : Int32)), .unset, .unset, .unset, .unset] [])) _
          refine XS.iload X78.here hx rfl (hb hby at_55) rfl ?_
          show Steps p.tables e below (T78.setTop (mkF m 57 #[.val (.int p0), .val (.int p1), .val (.int p2), .val (.int p3), .val (.int (0 : Int32)), .val (.ref (u 1)), .val (.int (0 : Int32)), .val (.int (0 : Int32)), .unset, .unset, .unset, .unset] [(.int (0 : Int32))])) _
          refine XS.ifYes X78.here hx rfl (pc0 := 57) (pc' := 64) rfl (hb hby at_57) rfl ((if0 _ _).trans (teq (by decide : (0 : Int32) = (0 : Int32))).1) (by decide) (by decide) ?_
          show Steps p.tables e below (T78.setTop (mkF m 64 #[.val (.int p0), .val (.int p1), .val (.int p2), .val (.int p3), .val (.int (0 : Int32)), .val (.ref (u 1)), .val (.int (0 : Int32)), .val (.int (0 : Int32)), .unset, .unset, .unset, .unset] [])) _
          refine XS.iloadN X78.here hx rfl (hb hby at_64) rfl ?_
          exact kt)
        obtain ⟨vr84, _, ⟨T84, L84, k84, n84⟩, -, X84, ⟨Lc84, hQ84, l84, y84, z84⟩, st84⟩ := Jvm.LawKit.callS X78 hx (y := (⟨"java/lang/Integer", "valueOf", "(I)Ljava/lang/Integer;"⟩ : MethodName)) hown (mvT hZ (hw _ (List.mem_of_getElem? (i := 3) rfl))) (mvT hZ (hw _ (List.mem_of_getElem? (i := 4) rfl))) (mvT hZ (hw _ (List.mem_of_getElem? (i := 5) rfl))) (mvT hZ (hw _ (List.mem_of_getElem? (i := 6) rfl))) (by decide) (backOf (W := 0) (rm1 l Z a0 hw [] u p1 B h0 n0 O ) hZ (hw _ (List.mem_of_getElem? (i := 6) rfl)) (hw _ (List.mem_of_getElem? (i := 5) rfl)) (by decide) (by decide)) (g := (mkF m 65 #[.val (.int p0), .val (.int p1), .val (.int p2), .val (.int p3), .val (.int (0 : Int32)), .val (.ref (u 1)), .val (.int (0 : Int32)), .val (.int (0 : Int32)), .unset, .unset, .unset, .unset] [(.int p1)])) rfl (by rw [hml]; rfl) (argsL := [(.int p1)]) (rest := []) (lenOf own_pd2 rfl) rfl (by show 2 * 0 + _ ≤ _; exact Nat.le_of_eq rfl) (hb hby at_65) (fun _ _ => ⟨rfl, e78, (by decide : 0 + 1 ≤ _), (by decide : 0 + 1 ≤ _)⟩)
        dsimp only [Pt.U, Pt.locs, Pt.cells, Pt.slots] at X84 l84 y84 z84 st84 hQ84
        subst l84 y84 z84
        obtain ⟨b84, rfl, N84q, E84, x84E, x84v⟩ := hQ84
        have N84 := Fr.app N0 N84q
        have O84 := O.ext E84
        have K84 := K0.ext E84
        have pre85 : ∀ t, Steps p.tables e below (T84.setTop (mkF m 80 #[.val (.int p0), .val (.int p1), .val (.int p2), .val (.int p3), .val (.int (0 : Int32)), .val (.ref (u 1)), .val (.int (0 : Int32)), .val (.int (0 : Int32)), .val (.ref b84), .unset, .unset, .unset] [(.int p2)])) t → Steps p.tables e below (s₁.setTop (entryFrame m #[(.int p0), (.int p1), (.int p2), (.int p3)] maxLocals)) t := fun t kt => pre83 t (by
          show Steps p.tables e below (T78.setTop (mkF m 65 #[.val (.int p0), .val (.int p1), .val (.int p2), .val (.int p3), .val (.int (0 : Int32)), .val (.ref (u 1)), .val (.int (0 : Int32)), .val (.int (0 : Int32)), .unset, .unset, .unset, .unset] [(.int p1)])) _
          refine st84 _ ?_
          show Steps p.tables e below (T84.setTop (mkF m 68 #[.val (.int p0), .val (.int p1), .val (.int p2), .val (.int p3), .val (.int (0 : Int32)), .val (.ref (u 1)), .val (.int (0 : Int32)), .val (.int (0 : Int32)), .unset, .unset, .unset, .unset] [(.ref b84)])) _
          refine XS.astore X84.here hx rfl (hb hby at_68) rfl rfl (l' := #[.val (.int p0), .val (.int p1), .val (.int p2), .val (.int p3), .val (.int (0 : Int32)), .val (.ref (u 1)), .val (.int (0 : Int32)), .val (.int (0 : Int32)), .val (.ref b84), .unset, .unset, .unset]) rfl ?_
          show Steps p.tables e below (T84.setTop (mkF m 70 #[.val (.int p0), .val (.int p1), .val (.int p2), .val (.int p3), .val (.int (0 : Int32)), .val (.ref (u 1)), .val (.int (0 : Int32)), .val (.int (0 : Int32)), .val (.ref b84), .unset, .unset, .unset] [])) _
          refine XS.iload X84.here hx rfl (hb hby at_70) rfl ?_
          show Steps p.tables e below (T84.setTop (mkF m 72 #[.val (.int p0), .val (.int p1), .val (.int p2), .val (.int p3), .val (.int (0 : Int32)), .val (.ref (u 1)), .val (.int (0 : Int32)), .val (.int (0 : Int32)), .val (.ref b84), .unset, .unset, .unset] [(.int (0 : Int32))])) _
          refine XS.ifYes X84.here hx rfl (pc0 := 72) (pc' := 79) rfl (hb hby at_72) rfl ((if0 _ _).trans (teq (by decide : (0 : Int32) = (0 : Int32))).1) (by decide) (by decide) ?_
          show Steps p.tables e below (T84.setTop (mkF m 79 #[.val (.int p0), .val (.int p1), .val (.int p2), .val (.int p3), .val (.int (0 : Int32)), .val (.ref (u 1)), .val (.int (0 : Int32)), .val (.int (0 : Int32)), .val (.ref b84), .unset, .unset, .unset] [])) _
          refine XS.iloadN X84.here hx rfl (hb hby at_79) rfl ?_
          exact kt)
        obtain ⟨vr86, _, ⟨T86, L86, k86, n86⟩, -, X86, ⟨Lc86, hQ86, l86, y86, z86⟩, st86⟩ := Jvm.LawKit.callS X84 hx (y := (⟨"java/lang/Integer", "valueOf", "(I)Ljava/lang/Integer;"⟩ : MethodName)) hown (mvT hZ (hw _ (List.mem_of_getElem? (i := 3) rfl))) (mvT hZ (hw _ (List.mem_of_getElem? (i := 4) rfl))) (mvT hZ (hw _ (List.mem_of_getElem? (i := 5) rfl))) (mvT hZ (hw _ (List.mem_of_getElem? (i := 6) rfl))) (by decide) (backOf (W := 0) (rm1 l Z a0 hw [] u p2 B T84.heap n0 O84 ) hZ (hw _ (List.mem_of_getElem? (i := 6) rfl)) (hw _ (List.mem_of_getElem? (i := 5) rfl)) (by decide) (by decide)) (g := (mkF m 80 #[.val (.int p0), .val (.int p1), .val (.int p2), .val (.int p3), .val (.int (0 : Int32)), .val (.ref (u 1)), .val (.int (0 : Int32)), .val (.int (0 : Int32)), .val (.ref b84), .unset, .unset, .unset] [(.int p2)])) rfl (by rw [hml]; rfl) (argsL := [(.int p2)]) (rest := []) (lenOf own_pd2 rfl) rfl (by show 2 * 0 + _ ≤ _; exact Nat.le_of_eq rfl) (hb hby at_80) (fun _ _ => ⟨rfl, rfl, (by decide : 1 + 1 ≤ _), (by decide : 1 + 1 ≤ _)⟩)
        dsimp only [Pt.U, Pt.locs, Pt.cells, Pt.slots] at X86 l86 y86 z86 st86 hQ86
        subst l86 y86 z86
        obtain ⟨b86, rfl, N86q, E86, x86E, x86v⟩ := hQ86
        have N86 := Fr.app N84 N86q
        have O86 := O84.ext E86
        have K86 := K84.ext E86
        have f87 := x84E.ext E86
        have f88 := x84v.ext E86
        have pre89 : ∀ t, Steps p.tables e below (T86.setTop (mkF m 91 #[.val (.int p0), .val (.int p1), .val (.int p2), .val (.int p3), .val (.int (0 : Int32)), .val (.ref (u 1)), .val (.int (0 : Int32)), .val (.int (0 : Int32)), .val (.ref b84), .val (.ref b86), .unset, .unset] [(.ref b86), (.ref b84), (.ref (u 1))])) t → Steps p.tables e below (s₁.setTop (entryFrame m #[(.int p0), (.int p1), (.int p2), (.int p3)] maxLocals)) t := fun t kt => pre85 t (by
          show Steps p.tables e below (T84.setTop (mkF m 80 #[.val (.int p0), .val (.int p1), .val (.int p2), .val (.int p3), .val (.int (0 : Int32)), .val (.ref (u 1)), .val (.int (0 : Int32)), .val (.int (0 : Int32)), .val (.ref b84), .unset, .unset, .unset] [(.int p2)])) _
          refine st86 _ ?_
          show Steps p.tables e below (T86.setTop (mkF m 83 #[.val (.int p0), .val (.int p1), .val (.int p2), .val (.int p3), .val (.int (0 : Int32)), .val (.ref (u 1)), .val (.int (0 : Int32)), .val (.int (0 : Int32)), .val (.ref b84), .unset, .unset, .unset] [(.ref b86)])) _
          refine XS.astore X86.here hx rfl (hb hby at_83) rfl rfl (l' := #[.val (.int p0), .val (.int p1), .val (.int p2), .val (.int p3), .val (.int (0 : Int32)), .val (.ref (u 1)), .val (.int (0 : Int32)), .val (.int (0 : Int32)), .val (.ref b84), .val (.ref b86), .unset, .unset]) rfl ?_
          show Steps p.tables e below (T86.setTop (mkF m 85 #[.val (.int p0), .val (.int p1), .val (.int p2), .val (.int p3), .val (.int (0 : Int32)), .val (.ref (u 1)), .val (.int (0 : Int32)), .val (.int (0 : Int32)), .val (.ref b84), .val (.ref b86), .unset, .unset] [])) _
          refine XS.aload X86.here hx rfl (hb hby at_85) rfl rfl ?_
          show Steps p.tables e below (T86.setTop (mkF m 87 #[.val (.int p0), .val (.int p1), .val (.int p2), .val (.int p3), .val (.int (0 : Int32)), .val (.ref (u 1)), .val (.int (0 : Int32)), .val (.int (0 : Int32)), .val (.ref b84), .val (.ref b86), .unset, .unset] [(.ref (u 1))])) _
          refine XS.aload X86.here hx rfl (hb hby at_87) rfl rfl ?_
          show Steps p.tables e below (T86.setTop (mkF m 89 #[.val (.int p0), .val (.int p1), .val (.int p2), .val (.int p3), .val (.int (0 : Int32)), .val (.ref (u 1)), .val (.int (0 : Int32)), .val (.int (0 : Int32)), .val (.ref b84), .val (.ref b86), .unset, .unset] [(.ref b84), (.ref (u 1))])) _
          refine XS.aload X86.here hx rfl (hb hby at_89) rfl rfl ?_
          exact kt)
        obtain ⟨cq90, kq90, q90a, q90b, q90c⟩ := isOf hZ rfl (B.2.2.2.1.ext O86.2)
        obtain ⟨vr90, _, ⟨T90, L90, k90, n90⟩, -, X90, ⟨Lc90, hQ90, l90, y90, z90⟩, st90⟩ := X86.virtualBack hx (y := (⟨"com/example/vetted_ledger/vettedledger/engine/BillingAlignment", "subscriptionDay", "(Ljava/lang/Integer;Ljava/lang/Integer;)Ljava/lang/Integer;"⟩ : MethodName)) (z := (⟨"com/example/vetted_ledger/vettedledger/engine/BillingAlignment", "subscriptionDay", "(Ljava/lang/Integer;Ljava/lang/Integer;)Ljava/lang/Integer;"⟩ : MethodName)) hown (mvT hZ (hw _ (List.mem_of_getElem? (i := 10) rfl))) (mvT hZ (hw _ (List.mem_of_getElem? (i := 11) rfl))) (notFace_of_selects (args := #[]) (mvT hZ (hw _ (List.mem_of_getElem? (i := 13) rfl)))) (mvT hZ (hw _ (List.mem_of_getElem? (i := 13) rfl))) (mvT hZ (hw _ (List.mem_of_getElem? (i := 12) rfl))) (by decide) (backOf (W := 0) (rmsd11 l Z a0 hw [] u (u 1) b84 b86 B T86.heap n0 O86 ) hZ (hw _ (List.mem_of_getElem? (i := 14) rfl)) (hw _ (List.mem_of_getElem? (i := 1) rfl)) (by decide) (by decide)) q90a q90c (g := (mkF m 91 #[.val (.int p0), .val (.int p1), .val (.int p2), .val (.int p3), .val (.int (0 : Int32)), .val (.ref (u 1)), .val (.int (0 : Int32)), .val (.int (0 : Int32)), .val (.ref b84), .val (.ref b86), .unset, .unset] [(.ref b86), (.ref b84), (.ref (u 1))])) rfl (by rw [hml]; rfl) (Steps.refl _) (argsL := [(.ref b84), (.ref b86)]) (rest := []) (lenOf own_pd3 rfl) rfl (by show 2 * 0 + _ ≤ _; exact Nat.le_of_eq rfl) (hb hby at_91) (fun _ _ => ⟨rfl, rfl, (by decide : 2 + 0 ≤ _), (by decide : 2 + 0 ≤ _)⟩)
        dsimp only [Pt.U, Pt.locs, Pt.cells, Pt.slots] at X90 l90 y90 z90 st90 hQ90
        subst l90 y90 z90
        obtain ⟨hv90, N90q, e90⟩ := hQ90
        have N90 := Fr.app N86 N90q
        obtain rfl : vr90 = some (.ref b84) := hv90.trans (by unfold own_rsd11; rw [if_neg ((Fld.ne B.2.2.2.2.2.1 B.2.2.2.2.1 (by decide)) : ¬ ((u 1) = (u 0)))])
        obtain ⟨cq91, kq91, q91a, q91b, q91c⟩ := isOf hZ e90 f87
        obtain ⟨vr91, _, ⟨T91, L91, k91, n91⟩, -, X91, ⟨Lc91, hQ91, l91, y91, z91⟩, st91⟩ := X90.virtualBack hx (y := (⟨"java/lang/Integer", "intValue", "()I"⟩ : MethodName)) (z := (⟨"java/lang/Integer", "intValue", "()I"⟩ : MethodName)) hown (mvT hZ (hw _ (List.mem_of_getElem? (i := 16) rfl))) (mvT hZ (hw _ (List.mem_of_getElem? (i := 17) rfl))) (notFace_of_selects (args := #[]) (mvT hZ (hw _ (List.mem_of_getElem? (i := 19) rfl)))) (mvT hZ (hw _ (List.mem_of_getElem? (i := 19) rfl))) (mvT hZ (hw _ (List.mem_of_getElem? (i := 18) rfl))) (by decide) (backOf (W := 0) (rm3 l Z a0 hw [] u b84 p1 B T86.heap n0 O86 f88) hZ (hw _ (List.mem_of_getElem? (i := 20) rfl)) (hw _ (List.mem_of_getElem? (i := 5) rfl)) (by decide) (by decide)) q91a q91c (g := (mkF m 137 #[.val (.int p0), .val (.int p1), .val (.int p2), .val (.int p3), .val (.int (0 : Int32)), .val (.ref (u 1)), .val (.int (0 : Int32)), .val (.int (0 : Int32)), .val (.ref b84), .val (.ref b86), .val (.ref b84), .val (.int p1)] [(.ref b84)])) rfl (by rw [hml]; rfl) (Steps.refl _) (argsL := []) (rest := []) (lenOf own_pd4 rfl) rfl (by show 2 * 0 + _ ≤ _; exact Nat.le_of_eq rfl) (hb hby at_137) (fun _ _ => ⟨rfl, e90, (by decide : 2 + 0 ≤ _), (by decide : 2 + 0 ≤ _)⟩)
        dsimp only [Pt.U, Pt.locs, Pt.cells, Pt.slots] at X91 l91 y91 z91 st91 hQ91
        subst l91 y91 z91
        obtain ⟨rfl, N91q, e91⟩ := hQ91
        have N91 := Fr.app N90 N91q
        obtain ⟨fs, hr, hrun, hended, hW, hsame⟩ := X91.leave (v := some (.int (1 : Int32))) (fun h => by rw [Bd.returns] at h; cases h)
        refine ⟨_, _, pre89 _ ?_, hrun, hended, _, _, rfl, ?_, ⟨_, rfl⟩, hW, hsame.mono (by decide) (by decide)⟩
        · show Steps p.tables e below (T86.setTop (mkF m 91 #[.val (.int p0), .val (.int p1), .val (.int p2), .val (.int p3), .val (.int (0 : Int32)), .val (.ref (u 1)), .val (.int (0 : Int32)), .val (.int (0 : Int32)), .val (.ref b84), .val (.ref b86), .unset, .unset] [(.ref b86), (.ref b84), (.ref (u 1))])) _
          refine st90.trans ?_
          show Steps p.tables e below (T90.setTop (mkF m 94 #[.val (.int p0), .val (.int p1), .val (.int p2), .val (.int p3), .val (.int (0 : Int32)), .val (.ref (u 1)), .val (.int (0 : Int32)), .val (.int (0 : Int32)), .val (.ref b84), .val (.ref b86), .unset, .unset] [(.ref b84)])) _
          refine XS.astore X90.here hx rfl (hb hby at_94) rfl rfl (l' := #[.val (.int p0), .val (.int p1), .val (.int p2), .val (.int p3), .val (.int (0 : Int32)), .val (.ref (u 1)), .val (.int (0 : Int32)), .val (.int (0 : Int32)), .val (.ref b84), .val (.ref b86), .val (.ref b84), .unset]) rfl ?_
          show Steps p.tables e below (T90.setTop (mkF m 96 #[.val (.int p0), .val (.int p1), .val (.int p2), .val (.int p3), .val (.int (0 : Int32)), .val (.ref (u 1)), .val (.int (0 : Int32)), .val (.int (0 : Int32)), .val (.ref b84), .val (.ref b86), .val (.ref b84), .unset] [])) _
          refine XS.iload X90.here hx rfl (hb hby at_96) rfl ?_
          show Steps p.tables e below (T90.setTop (mkF m 98 #[.val (.int p0), .val (.int p1), .val (.int p2), .val (.int p3), .val (.int (0 : Int32)), .val (.ref (u 1)), .val (.int (0 : Int32)), .val (.int (0 : Int32)), .val (.ref b84), .val (.ref b86), .val (.ref b84), .unset] [(.int (0 : Int32))])) _
          refine XS.ifYes X90.here hx rfl (pc0 := 98) (pc' := 112) rfl (hb hby at_98) rfl ((if0 _ _).trans (teq (by decide : (0 : Int32) = (0 : Int32))).1) (by decide) (by decide) ?_
          show Steps p.tables e below (T90.setTop (mkF m 112 #[.val (.int p0), .val (.int p1), .val (.int p2), .val (.int p3), .val (.int (0 : Int32)), .val (.ref (u 1)), .val (.int (0 : Int32)), .val (.int (0 : Int32)), .val (.ref b84), .val (.ref b86), .val (.ref b84), .unset] [])) _
          refine XS.aload X90.here hx rfl (hb hby at_112) rfl rfl ?_
          show Steps p.tables e below (T90.setTop (mkF m 114 #[.val (.int p0), .val (.int p1), .val (.int p2), .val (.int p3), .val (.int (0 : Int32)), .val (.ref (u 1)), .val (.int (0 : Int32)), .val (.int (0 : Int32)), .val (.ref b84), .val (.ref b86), .val (.ref b84), .unset] [(.ref b84)])) _
          refine XS.ifnonnullYes X90.here hx rfl (pc0 := 114) (pc' := 119) rfl (hb hby at_114) rfl (by decide) (by decide) ?_
          show Steps p.tables e below (T90.setTop (mkF m 119 #[.val (.int p0), .val (.int p1), .val (.int p2), .val (.int p3), .val (.int (0 : Int32)), .val (.ref (u 1)), .val (.int (0 : Int32)), .val (.int (0 : Int32)), .val (.ref b84), .val (.ref b86), .val (.ref b84), .unset] [])) _
          refine XS.iloadN X90.here hx rfl (hb hby at_119) rfl ?_
          show Steps p.tables e below (T90.setTop (mkF m 120 #[.val (.int p0), .val (.int p1), .val (.int p2), .val (.int p3), .val (.int (0 : Int32)), .val (.ref (u 1)), .val (.int (0 : Int32)), .val (.int (0 : Int32)), .val (.ref b84), .val (.ref b86), .val (.ref b84), .unset] [(.int p1)])) _
          refine XS.istore X90.here hx rfl (hb hby at_120) rfl (l' := #[.val (.int p0), .val (.int p1), .val (.int p2), .val (.int p3), .val (.int (0 : Int32)), .val (.ref (u 1)), .val (.int (0 : Int32)), .val (.int (0 : Int32)), .val (.ref b84), .val (.ref b86), .val (.ref b84), .val (.int p1)]) rfl ?_
          show Steps p.tables e below (T90.setTop (mkF m 122 #[.val (.int p0), .val (.int p1), .val (.int p2), .val (.int p3), .val (.int (0 : Int32)), .val (.ref (u 1)), .val (.int (0 : Int32)), .val (.int (0 : Int32)), .val (.ref b84), .val (.ref b86), .val (.ref b84), .val (.int p1)] [])) _
          refine XS.iload X90.here hx rfl (hb hby at_122) rfl ?_
          show Steps p.tables e below (T90.setTop (mkF m 124 #[.val (.int p0), .val (.int p1), .val (.int p2), .val (.int p3), .val (.int (0 : Int32)), .val (.ref (u 1)), .val (.int (0 : Int32)), .val (.int (0 : Int32)), .val (.ref b84), .val (.ref b86), .val (.ref b84), .val (.int p1)] [(.int (0 : Int32))])) _
          refine XS.ifYes X90.here hx rfl (pc0 := 124) (pc' := 135) rfl (hb hby at_124) rfl ((if0 _ _).trans (teq (by decide : (0 : Int32) = (0 : Int32))).1) (by decide) (by decide) ?_
          show Steps p.tables e below (T90.setTop (mkF m 135 #[.val (.int p0), .val (.int p1), .val (.int p2), .val (.int p3), .val (.int (0 : Int32)), .val (.ref (u 1)), .val (.int (0 : Int32)), .val (.int (0 : Int32)), .val (.ref b84), .val (.ref b86), .val (.ref b84), .val (.int p1)] [])) _
          refine XS.aload X90.here hx rfl (hb hby at_135) rfl rfl ?_
          show Steps p.tables e below (T90.setTop (mkF m 137 #[.val (.int p0), .val (.int p1), .val (.int p2), .val (.int p3), .val (.int (0 : Int32)), .val (.ref (u 1)), .val (.int (0 : Int32)), .val (.int (0 : Int32)), .val (.ref b84), .val (.ref b86), .val (.ref b84), .val (.int p1)] [(.ref b84)])) _
          refine st91.trans ?_
          show Steps p.tables e below (T91.setTop (mkF m 140 #[.val (.int p0), .val (.int p1), .val (.int p2), .val (.int p3), .val (.int (0 : Int32)), .val (.ref (u 1)), .val (.int (0 : Int32)), .val (.int (0 : Int32)), .val (.ref b84), .val (.ref b86), .val (.ref b84), .val (.int p1)] [(.int p1)])) _
          refine XS.iload X91.here hx rfl (hb hby at_140) rfl ?_
          show Steps p.tables e below (T91.setTop (mkF m 142 #[.val (.int p0), .val (.int p1), .val (.int p2), .val (.int p3), .val (.int (0 : Int32)), .val (.ref (u 1)), .val (.int (0 : Int32)), .val (.int (0 : Int32)), .val (.ref b84), .val (.ref b86), .val (.ref b84), .val (.int p1)] [(.int p1), (.int p1)])) _
          refine XS.icmpNo X91.here hx rfl (hb hby at_142) rfl (teq (rfl : p1 = p1)).2 ?_
          show Steps p.tables e below (T91.setTop (mkF m 145 #[.val (.int p0), .val (.int p1), .val (.int p2), .val (.int p3), .val (.int (0 : Int32)), .val (.ref (u 1)), .val (.int (0 : Int32)), .val (.int (0 : Int32)), .val (.ref b84), .val (.ref b86), .val (.ref b84), .val (.int p1)] [])) _
          refine XS.iconst X91.here hx rfl (hb hby at_145) ?_
          show Steps p.tables e below (T91.setTop (mkF m 146 #[.val (.int p0), .val (.int p1), .val (.int p2), .val (.int p3), .val (.int (0 : Int32)), .val (.ref (u 1)), .val (.int (0 : Int32)), .val (.int (0 : Int32)), .val (.ref b84), .val (.ref b86), .val (.ref b84), .val (.int p1)] [(.int (1 : Int32))])) _
          refine XS.goto X91.here hx rfl (pc0 := 146) (pc' := 150) rfl (hb hby at_146) (by decide) (by decide) ?_
          show Steps p.tables e below (T91.setTop (mkF m 150 #[.val (.int p0), .val (.int p1), .val (.int p2), .val (.int p3), .val (.int (0 : Int32)), .val (.ref (u 1)), .val (.int (0 : Int32)), .val (.int (0 : Int32)), .val (.ref b84), .val (.ref b86), .val (.ref b84), .val (.int p1)] [(.int (1 : Int32))])) _
          exact retN X91 hx (t := .boolean) Bd.returns (by simp) (hb hby at_150) hr
        · show own_Q0 Z u p0 p1 p2 p3 h0 n0 _ T91.heap _
          rw [e91]
          exact ⟨rfl, N91, trivial⟩
      · --
        have pre93 : ∀ t, Steps p.tables e below (T78.setTop (mkF m 65 #[.val (.int p0), .val (.int p1), .val (.int p2), .val (.int p3), .val (.int (0 : Int32)), .val (.ref (u 1)), .val (.int (0 : Int32)), .val (.int (1 : Int32)), .unset, .unset, .unset, .unset] [(.int p1)])) t → Steps p.tables e below (s₁.setTop (entryFrame m #[(.int p0), (.int p1), (.int p2), (.int p3)] maxLocals)) t := fun t kt => pre81 t (by
          show Steps p.tables e below (T78.setTop (mkF m 45 #[.val (.int p0), .val (.int p1), .val (.int p2), .val (.int p3), .val (.int (0 : Int32)), .val (.ref (u 1)), .val (.int (0 : Int32)), .unset, .unset, .unset, .unset, .unset] [(.int (p3 &&& (2 : Int32)))])) _
          refine XS.ifNo X78.here hx rfl (hb hby at_45) rfl ((if0 _ _).trans (feq hc82).1) ?_
          show Steps p.tables e below (T78.setTop (mkF m 48 #[.val (.int p0), .val (.int p1), .val (.int p2), .val (.int p3), .val (.int (0 : Int32)), .val (.ref (u 1)), .val (.int (0 : Int32)), .unset, .unset, .unset, .unset, .unset] [])) _
          refine XS.iconst X78.here hx rfl (hb hby at_48) ?_
          show Steps p.tables e below (T78.setTop (mkF m 49 #[.val (.int p0), .val (.int p1), .val (.int p2), .val (.int p3), .val (.int (0 : Int32)), .val (.ref (u 1)), .val (.int (0 : Int32)), .unset, .unset, .unset, .unset, .unset] [(.int (1 : Int32))])) _
          refine XS.goto X78.here hx rfl (pc0 := 49) (pc' := 53) rfl (hb hby at_49) (by decide) (by decide) ?_
          show Steps p.tables e below (T78.setTop (mkF m 53 #[.val (.int p0), .val (.int p1), .val (.int p2), .val (.int p3), .val (.int (0 : Int32)), .val (.ref (u 1)), .val (.int (0 : Int32)), .unset, .unset, .unset, .unset, .unset] [(.int (1 : Int32))])) _
          refine XS.istore X78.here hx rfl (hb hby at_53) rfl (l' := #[.val (.int p0), .val (.int p1), .val (.int p2), .val (.int p3), .val (.int (0 : Int32)), .val (.ref (u 1)), .val (.int (0 : Int32)), .val (.int (1 : Int32)), .unset, .unset, .unset, .unset]) rfl ?_
          show Steps p.tables e below (T78.setTop (mkF m 55 #[.val (.int p0), .val (.int p1), .val (.int p2), .val (.int p3), .val (.int (0 : Int32)), .val (.ref (u 1)), .val (.int (0 : Int32)), .val (.int (1 : Int32)), .unset, .unset, .unset, .unset] [])) _
          refine XS.iload X78.here hx rfl (hb hby at_55) rfl ?_
          show Steps p.tables e below (T78.setTop (mkF m 57 #[.val (.int p0), .val (.int p1), .val (.int p2), .val (.int p3), .val (.int (0 : Int32)), .val (.ref (u 1)), .val (.int (0 : Int32)), .val (.int (1 : Int32)), .unset, .unset, .unset, .unset] [(.int (0 : Int32))])) _
          refine XS.ifYes X78.here hx rfl (pc0 := 57) (pc' := 64) rfl (hb hby at_57) rfl ((if0 _ _).trans (teq (by decide : (0 : Int32) = (0 : Int32))).1) (by decide) (by decide) ?_
          show Steps p.tables e below (T78.setTop (mkF m 64 #[.val (.int p0), .val (.int p1), .val (.int p2), .val (.int p3), .val (.int (0 : Int32)), .val (.ref (u 1)), .val (.int (0 : Int32)), .val (.int (1 : Int32)), .unset, .unset, .unset, .unset] [])) _
          refine XS.iloadN X78.here hx rfl (hb hby at_64) rfl ?_
          exact kt)
        obtain ⟨vr94, _, ⟨T94, L94, k94, n94⟩, -, X94, ⟨Lc94, hQ94, l94, y94, z94⟩, st94⟩ := Jvm.LawKit.callS X78 hx (y := (⟨"java/lang/Integer", "valueOf", "(I)Ljava/lang/Integer;"⟩ : MethodName)) hown (mvT hZ (hw _ (List.mem_of_getElem? (i := 3) rfl))) (mvT hZ (hw _ (List.mem_of_getElem? (i := 4) rfl))) (mvT hZ (hw _ (List.mem_of_getElem? (i := 5) rfl))) (mvT hZ (hw _ (List.mem_of_getElem? (i := 6) rfl))) (by decide) (backOf (W := 0) (rm1 l Z a0 hw [] u p1 B h0 n0 O ) hZ (hw _ (List.mem_of_getElem? (i := 6) rfl)) (hw _ (List.mem_of_getElem? (i := 5) rfl)) (by decide) (by decide)) (g := (mkF m 65 #[.val (.int p0), .val (.int p1), .val (.int p2), .val (.int p3), .val (.int (0 : Int32)), .val (.ref (u 1)), .val (.int (0 : Int32)), .val (.int (1 : Int32)), .unset, .unset, .unset, .unset] [(.int p1)])) rfl (by rw [hml]; rfl) (argsL := [(.int p1)]) (rest := []) (lenOf own_pd2 rfl) rfl (by show 2 * 0 + _ ≤ _; exact Nat.le_of_eq rfl) (hb hby at_65) (fun _ _ => ⟨rfl, e78, (by decide : 0 + 1 ≤ _), (by decide : 0 + 1 ≤ _)⟩)
        dsimp only [Pt.U, Pt.locs, Pt.cells, Pt.slots] at X94 l94 y94 z94 st94 hQ94
        subst l94 y94 z94
        obtain ⟨b94, rfl, N94q, E94, x94E, x94v⟩ := hQ94
        have N94 := Fr.app N0 N94q
        have O94 := O.ext E94
        have K94 := K0.ext E94
        have pre95 : ∀ t, Steps p.tables e below (T94.setTop (mkF m 91 #[.val (.int p0), .val (.int p1), .val (.int p2), .val (.int p3), .val (.int (0 : Int32)), .val (.ref (u 1)), .val (.int (0 : Int32)), .val (.int (1 : Int32)), .val (.ref b94), .val .null, .unset, .unset] [.null, (.ref b94), (.ref (u 1))])) t → Steps p.tables e below (s₁.setTop (entryFrame m #[(.int p0), (.int p1), (.int p2), (.int p3)] maxLocals)) t := fun t kt => pre93 t (by
          show Steps p.tables e below (T78.setTop (mkF m 65 #[.val (.int p0), .val (.int p1), .val (.int p2), .val (.int p3), .val (.int (0 : Int32)), .val (.ref (u 1)), .val (.int (0 : Int32)), .val (.int (1 : Int32)), .unset, .unset, .unset, .unset] [(.int p1)])) _
          refine st94 _ ?_
          show Steps p.tables e below (T94.setTop (mkF m 68 #[.val (.int p0), .val (.int p1), .val (.int p2), .val (.int p3), .val (.int (0 : Int32)), .val (.ref (u 1)), .val (.int (0 : Int32)), .val (.int (1 : Int32)), .unset, .unset, .unset, .unset] [(.ref b94)])) _
          refine XS.astore X94.here hx rfl (hb hby at_68) rfl rfl (l' := #[.val (.int p0), .val (.int p1), .val (.int p2), .val (.int p3), .val (.int (0 : Int32)), .val (.ref (u 1)), .val (.int (0 : Int32)), .val (.int (1 : Int32)), .val (.ref b94), .unset, .unset, .unset]) rfl ?_
          show Steps p.tables e below (T94.setTop (mkF m 70 #[.val (.int p0), .val (.int p1), .val (.int p2), .val (.int p3), .val (.int (0 : Int32)), .val (.ref (u 1)), .val (.int (0 : Int32)), .val (.int (1 : Int32)), .val (.ref b94), .unset, .unset, .unset] [])) _
          refine XS.iload X94.here hx rfl (hb hby at_70) rfl ?_
          show Steps p.tables e below (T94.setTop (mkF m 72 #[.val (.int p0), .val (.int p1), .val (.int p2), .val (.int p3), .val (.int (0 : Int32)), .val (.ref (u 1)), .val (.int (0 : Int32)), .val (.int (1 : Int32)), .val (.ref b94), .unset, .unset, .unset] [(.int (1 : Int32))])) _
          refine XS.ifNo X94.here hx rfl (hb hby at_72) rfl ((if0 _ _).trans (feq (by decide : ¬ ((1 : Int32) = (0 : Int32)))).1) ?_
          show Steps p.tables e below (T94.setTop (mkF m 75 #[.val (.int p0), .val (.int p1), .val (.int p2), .val (.int p3), .val (.int (0 : Int32)), .val (.ref (u 1)), .val (.int (0 : Int32)), .val (.int (1 : Int32)), .val (.ref b94), .unset, .unset, .unset] [])) _
          refine XS.aconstNull X94.here hx rfl (hb hby at_75) ?_
          show Steps p.tables e below (T94.setTop (mkF m 76 #[.val (.int p0), .val (.int p1), .val (.int p2), .val (.int p3), .val (.int (0 : Int32)), .val (.ref (u 1)), .val (.int (0 : Int32)), .val (.int (1 : Int32)), .val (.ref b94), .unset, .unset, .unset] [.null])) _
          refine XS.goto X94.here hx rfl (pc0 := 76) (pc' := 83) rfl (hb hby at_76) (by decide) (by decide) ?_
          show Steps p.tables e below (T94.setTop (mkF m 83 #[.val (.int p0), .val (.int p1), .val (.int p2), .val (.int p3), .val (.int (0 : Int32)), .val (.ref (u 1)), .val (.int (0 : Int32)), .val (.int (1 : Int32)), .val (.ref b94), .unset, .unset, .unset] [.null])) _
          refine XS.astore X94.here hx rfl (hb hby at_83) rfl rfl (l' := #[.val (.int p0), .val (.int p1), .val (.int p2), .val (.int p3), .val (.int (0 : Int32)), .val (.ref (u 1)), .val (.int (0 : Int32)), .val (.int (1 : Int32)), .val (.ref b94), .val .null, .unset, .unset]) rfl ?_
          show Steps p.tables e below (T94.setTop (mkF m 85 #[.val (.int p0), .val (.int p1), .val (.int p2), .val (.int p3), .val (.int (0 : Int32)), .val (.ref (u 1)), .val (.int (0 : Int32)), .val (.int (1 : Int32)), .val (.ref b94), .val .null, .unset, .unset] [])) _
          refine XS.aload X94.here hx rfl (hb hby at_85) rfl rfl ?_
          show Steps p.tables e below (T94.setTop (mkF m 87 #[.val (.int p0), .val (.int p1), .val (.int p2), .val (.int p3), .val (.int (0 : Int32)), .val (.ref (u 1)), .val (.int (0 : Int32)), .val (.int (1 : Int32)), .val (.ref b94), .val .null, .unset, .unset] [(.ref (u 1))])) _
          refine XS.aload X94.here hx rfl (hb hby at_87) rfl rfl ?_
          show Steps p.tables e below (T94.setTop (mkF m 89 #[.val (.int p0), .val (.int p1), .val (.int p2), .val (.int p3), .val (.int (0 : Int32)), .val (.ref (u 1)), .val (.int (0 : Int32)), .val (.int (1 : Int32)), .val (.ref b94), .val .null, .unset, .unset] [(.ref b94), (.ref (u 1))])) _
          refine XS.aload X94.here hx rfl (hb hby at_89) rfl rfl ?_
          exact kt)
        obtain ⟨cq96, kq96, q96a, q96b, q96c⟩ := isOf hZ rfl (B.2.2.2.1.ext O94.2)
        obtain ⟨vr96, _, ⟨T96, L96, k96, n96⟩, -, X96, ⟨Lc96, hQ96, l96, y96, z96⟩, st96⟩ := X94.virtualBack hx (y := (⟨"com/example/vetted_ledger/vettedledger/engine/BillingAlignment", "subscriptionDay", "(Ljava/lang/Integer;Ljava/lang/Integer;)Ljava/lang/Integer;"⟩ : MethodName)) (z := (⟨"com/example/vetted_ledger/vettedledger/engine/BillingAlignment", "subscriptionDay", "(Ljava/lang/Integer;Ljava/lang/Integer;)Ljava/lang/Integer;"⟩ : MethodName)) hown (mvT hZ (hw _ (List.mem_of_getElem? (i := 10) rfl))) (mvT hZ (hw _ (List.mem_of_getElem? (i := 11) rfl))) (notFace_of_selects (args := #[]) (mvT hZ (hw _ (List.mem_of_getElem? (i := 13) rfl)))) (mvT hZ (hw _ (List.mem_of_getElem? (i := 13) rfl))) (mvT hZ (hw _ (List.mem_of_getElem? (i := 12) rfl))) (by decide) (backOf (W := 0) (rmsd10 l Z a0 hw [] u (u 1) b94 B T94.heap n0 O94 ) hZ (hw _ (List.mem_of_getElem? (i := 14) rfl)) (hw _ (List.mem_of_getElem? (i := 1) rfl)) (by decide) (by decide)) q96a q96c (g := (mkF m 91 #[.val (.int p0), .val (.int p1), .val (.int p2), .val (.int p3), .val (.int (0 : Int32)), .val (.ref (u 1)), .val (.int (0 : Int32)), .val (.int (1 : Int32)), .val (.ref b94), .val .null, .unset, .unset] [.null, (.ref b94), (.ref (u 1))])) rfl (by rw [hml]; rfl) (Steps.refl _) (argsL := [(.ref b94), .null]) (rest := []) (lenOf own_pd3 rfl) rfl (by show 2 * 0 + _ ≤ _; exact Nat.le_of_eq rfl) (hb hby at_91) (fun _ _ => ⟨rfl, rfl, (by decide : 1 + 0 ≤ _), (by decide : 1 + 0 ≤ _)⟩)
        dsimp only [Pt.U, Pt.locs, Pt.cells, Pt.slots] at X96 l96 y96 z96 st96 hQ96
        subst l96 y96 z96
        obtain ⟨hv96, N96q, e96⟩ := hQ96
        have N96 := Fr.app N94 N96q
        obtain rfl : vr96 = some (.ref b94) := hv96.trans (by unfold own_rsd10; rw [if_neg ((Fld.ne B.2.2.2.2.2.1 B.2.2.2.2.1 (by decide)) : ¬ ((u 1) = (u 0)))])
        obtain ⟨cq97, kq97, q97a, q97b, q97c⟩ := isOf hZ e96 x94E
        obtain ⟨vr97, _, ⟨T97, L97, k97, n97⟩, -, X97, ⟨Lc97, hQ97, l97, y97, z97⟩, st97⟩ := X96.virtualBack hx (y := (⟨"java/lang/Integer", "intValue", "()I"⟩ : MethodName)) (z := (⟨"java/lang/Integer", "intValue", "()I"⟩ : MethodName)) hown (mvT hZ (hw _ (List.mem_of_getElem? (i := 16) rfl))) (mvT hZ (hw _ (List.mem_of_getElem? (i := 17) rfl))) (notFace_of_selects (args := #[]) (mvT hZ (hw _ (List.mem_of_getElem? (i := 19) rfl)))) (mvT hZ (hw _ (List.mem_of_getElem? (i := 19) rfl))) (mvT hZ (hw _ (List.mem_of_getElem? (i := 18) rfl))) (by decide) (backOf (W := 0) (rm3 l Z a0 hw [] u b94 p1 B T94.heap n0 O94 x94v) hZ (hw _ (List.mem_of_getElem? (i := 20) rfl)) (hw _ (List.mem_of_getElem? (i := 5) rfl)) (by decide) (by decide)) q97a q97c (g := (mkF m 137 #[.val (.int p0), .val (.int p1), .val (.int p2), .val (.int p3), .val (.int (0 : Int32)), .val (.ref (u 1)), .val (.int (0 : Int32)), .val (.int (1 : Int32)), .val (.ref b94), .val .null, .val (.ref b94), .val (.int p1)] [(.ref b94)])) rfl (by rw [hml]; rfl) (Steps.refl _) (argsL := []) (rest := []) (lenOf own_pd4 rfl) rfl (by show 2 * 0 + _ ≤ _; exact Nat.le_of_eq rfl) (hb hby at_137) (fun _ _ => ⟨rfl, e96, (by decide : 1 + 0 ≤ _), (by decide : 1 + 0 ≤ _)⟩)
        dsimp only [Pt.U, Pt.locs, Pt.cells, Pt.slots] at X97 l97 y97 z97 st97 hQ97
        subst l97 y97 z97
        obtain ⟨rfl, N97q, e97⟩ := hQ97
        have N97 := Fr.app N96 N97q
        obtain ⟨fs, hr, hrun, hended, hW, hsame⟩ := X97.leave (v := some (.int (1 : Int32))) (fun h => by rw [Bd.returns] at h; cases h)
        refine ⟨_, _, pre95 _ ?_, hrun, hended, _, _, rfl, ?_, ⟨_, rfl⟩, hW, hsame.mono (by decide) (by decide)⟩
        · show Steps p.tables e below (T94.setTop (mkF m 91 #[.val (.int p0), .val (.int p1), .val (.int p2), .val (.int p3), .val (.int (0 : Int32)), .val (.ref (u 1)), .val (.int (0 : Int32)), .val (.int (1 : Int32)), .val (.ref b94), .val .null, .unset, .unset] [.null, (.ref b94), (.ref (u 1))])) _
          refine st96.trans ?_
          show Steps p.tables e below (T96.setTop (mkF m 94 #[.val (.int p0), .val (.int p1), .val (.int p2), .val (.int p3), .val (.int (0 : Int32)), .val (.ref (u 1)), .val (.int (0 : Int32)), .val (.int (1 : Int32)), .val (.ref b94), .val .null, .unset, .unset] [(.ref b94)])) _
          refine XS.astore X96.here hx rfl (hb hby at_94) rfl rfl (l' := #[.val (.int p0), .val (.int p1), .val (.int p2), .val (.int p3), .val (.int (0 : Int32)), .val (.ref (u 1)), .val (.int (0 : Int32)), .val (.int (1 : Int32)), .val (.ref b94), .val .null, .val (.ref b94), .unset]) rfl ?_
          show Steps p.tables e below (T96.setTop (mkF m 96 #[.val (.int p0), .val (.int p1), .val (.int p2), .val (.int p3), .val (.int (0 : Int32)), .val (.ref (u 1)), .val (.int (0 : Int32)), .val (.int (1 : Int32)), .val (.ref b94), .val .null, .val (.ref b94), .unset] [])) _
          refine XS.iload X96.here hx rfl (hb hby at_96) rfl ?_
          show Steps p.tables e below (T96.setTop (mkF m 98 #[.val (.int p0), .val (.int p1), .val (.int p2), .val (.int p3), .val (.int (0 : Int32)), .val (.ref (u 1)), .val (.int (0 : Int32)), .val (.int (1 : Int32)), .val (.ref b94), .val .null, .val (.ref b94), .unset] [(.int (0 : Int32))])) _
          refine XS.ifYes X96.here hx rfl (pc0 := 98) (pc' := 112) rfl (hb hby at_98) rfl ((if0 _ _).trans (teq (by decide : (0 : Int32) = (0 : Int32))).1) (by decide) (by decide) ?_
          show Steps p.tables e below (T96.setTop (mkF m 112 #[.val (.int p0), .val (.int p1), .val (.int p2), .val (.int p3), .val (.int (0 : Int32)), .val (.ref (u 1)), .val (.int (0 : Int32)), .val (.int (1 : Int32)), .val (.ref b94), .val .null, .val (.ref b94), .unset] [])) _
          refine XS.aload X96.here hx rfl (hb hby at_112) rfl rfl ?_
          show Steps p.tables e below (T96.setTop (mkF m 114 #[.val (.int p0), .val (.int p1), .val (.int p2), .val (.int p3), .val (.int (0 : Int32)), .val (.ref (u 1)), .val (.int (0 : Int32)), .val (.int (1 : Int32)), .val (.ref b94), .val .null, .val (.ref b94), .unset] [(.ref b94)])) _
          refine XS.ifnonnullYes X96.here hx rfl (pc0 := 114) (pc' := 119) rfl (hb hby at_114) rfl (by decide) (by decide) ?_
          show Steps p.tables e below (T96.setTop (mkF m 119 #[.val (.int p0), .val (.int p1), .val (.int p2), .val (.int p3), .val (.int (0 : Int32)), .val (.ref (u 1)), .val (.int (0 : Int32)), .val (.int (1 : Int32)), .val (.ref b94), .val .null, .val (.ref b94), .unset] [])) _
          refine XS.iloadN X96.here hx rfl (hb hby at_119) rfl ?_
          show Steps p.tables e below (T96.setTop (mkF m 120 #[.val (.int p0), .val (.int p1), .val (.int p2), .val (.int p3), .val (.int (0 : Int32)), .val (.ref (u 1)), .val (.int (0 : Int32)), .val (.int (1 : Int32)), .val (.ref b94), .val .null, .val (.ref b94), .unset] [(.int p1)])) _
          refine XS.istore X96.here hx rfl (hb hby at_120) rfl (l' := #[.val (.int p0), .val (.int p1), .val (.int p2), .val (.int p3), .val (.int (0 : Int32)), .val (.ref (u 1)), .val (.int (0 : Int32)), .val (.int (1 : Int32)), .val (.ref b94), .val .null, .val (.ref b94), .val (.int p1)]) rfl ?_
          show Steps p.tables e below (T96.setTop (mkF m 122 #[.val (.int p0), .val (.int p1), .val (.int p2), .val (.int p3), .val (.int (0 : Int32)), .val (.ref (u 1)), .val (.int (0 : Int32)), .val (.int (1 : Int32)), .val (.ref b94), .val .null, .val (.ref b94), .val (.int p1)] [])) _
          refine XS.iload X96.here hx rfl (hb hby at_122) rfl ?_
          show Steps p.tables e below (T96.setTop (mkF m 124 #[.val (.int p0), .val (.int p1), .val (.int p2), .val (.int p3), .val (.int (0 : Int32)), .val (.ref (u 1)), .val (.int (0 : Int32)), .val (.int (1 : Int32)), .val (.ref b94), .val .null, .val (.ref b94), .val (.int p1)] [(.int (0 : Int32))])) _
          refine XS.ifYes X96.here hx rfl (pc0 := 124) (pc' := 135) rfl (hb hby at_124) rfl ((if0 _ _).trans (teq (by decide : (0 : Int32) = (0 : Int32))).1) (by decide) (by decide) ?_
          show Steps p.tables e below (T96.setTop (mkF m 135 #[.val (.int p0), .val (.int p1), .val (.int p2), .val (.int p3), .val (.int (0 : Int32)), .val (.ref (u 1)), .val (.int (0 : Int32)), .val (.int (1 : Int32)), .val (.ref b94), .val .null, .val (.ref b94), .val (.int p1)] [])) _
          refine XS.aload X96.here hx rfl (hb hby at_135) rfl rfl ?_
          show Steps p.tables e below (T96.setTop (mkF m 137 #[.val (.int p0), .val (.int p1), .val (.int p2), .val (.int p3), .val (.int (0 : Int32)), .val (.ref (u 1)), .val (.int (0 : Int32)), .val (.int (1 : Int32)), .val (.ref b94), .val .null, .val (.ref b94), .val (.int p1)] [(.ref b94)])) _
          refine st97.trans ?_
          show Steps p.tables e below (T97.setTop (mkF m 140 #[.val (.int p0), .val (.int p1), .val (.int p2), .val (.int p3), .val (.int (0 : Int32)), .val (.ref (u 1)), .val (.int (0 : Int32)), .val (.int (1 : Int32)), .val (.ref b94), .val .null, .val (.ref b94), .val (.int p1)] [(.int p1)])) _
          refine XS.iload X97.here hx rfl (hb hby at_140) rfl ?_
          show Steps p.tables e below (T97.setTop (mkF m 142 #[.val (.int p0), .val (.int p1), .val (.int p2), .val (.int p3), .val (.int (0 : Int32)), .val (.ref (u 1)), .val (.int (0 : Int32)), .val (.int (1 : Int32)), .val (.ref b94), .val .null, .val (.ref b94), .val (.int p1)] [(.int p1), (.int p1)])) _
          refine XS.icmpNo X97.here hx rfl (hb hby at_142) rfl (teq (rfl : p1 = p1)).2 ?_
          show Steps p.tables e below (T97.setTop (mkF m 145 #[.val (.int p0), .val (.int p1), .val (.int p2), .val (.int p3), .val (.int (0 : Int32)), .val (.ref (u 1)), .val (.int (0 : Int32)), .val (.int (1 : Int32)), .val (.ref b94), .val .null, .val (.ref b94), .val (.int p1)] [])) _
          refine XS.iconst X97.here hx rfl (hb hby at_145) ?_
          show Steps p.tables e below (T97.setTop (mkF m 146 #[.val (.int p0), .val (.int p1), .val (.int p2), .val (.int p3), .val (.int (0 : Int32)), .val (.ref (u 1)), .val (.int (0 : Int32)), .val (.int (1 : Int32)), .val (.ref b94), .val .null, .val (.ref b94), .val (.int p1)] [(.int (1 : Int32))])) _
          refine XS.goto X97.here hx rfl (pc0 := 146) (pc' := 150) rfl (hb hby at_146) (by decide) (by decide) ?_
          show Steps p.tables e below (T97.setTop (mkF m 150 #[.val (.int p0), .val (.int p1), .val (.int p2), .val (.int p3), .val (.int (0 : Int32)), .val (.ref (u 1)), .val (.int (0 : Int32)), .val (.int (1 : Int32)), .val (.ref b94), .val .null, .val (.ref b94), .val (.int p1)] [(.int (1 : Int32))])) _
          exact retN X97 hx (t := .boolean) Bd.returns (by simp) (hb hby at_150) hr
        · show own_Q0 Z u p0 p1 p2 p3 h0 n0 _ T97.heap _
          rw [e97]
          exact ⟨rfl, N97, trivial⟩
    · --
      have pre99 : ∀ t, Steps p.tables e below (T78.setTop (mkF m 45 #[.val (.int p0), .val (.int p1), .val (.int p2), .val (.int p3), .val (.int (0 : Int32)), .val (.ref (u 1)), .val (.int (1 : Int32)), .unset, .unset, .unset, .unset, .unset] [(.int (p3 &&& (2 : Int32)))])) t → Steps p.tables e below (s₁.setTop (entryFrame m #[(.int p0), (.int p1), (.int p2), (.int p3)] maxLocals)) t := fun t kt => pre79 t (by
        show Steps p.tables e below (T78.setTop (mkF m 32 #[.val (.int p0), .val (.int p1), .val (.int p2), .val (.int p3), .val (.int (0 : Int32)), .val (.ref (u 1)), .unset, .unset, .unset, .unset, .unset, .unset] [(.int (p3 &&& (1 : Int32)))])) _
        refine XS.ifNo X78.here hx rfl (hb hby at_32) rfl ((if0 _ _).trans (feq hc80).1) ?_
        show Steps p.tables e below (T78.setTop (mkF m 35 #[.val (.int p0), .val (.int p1), .val (.int p2), .val (.int p3), .val (.int (0 : Int32)), .val (.ref (u 1)), .unset, .unset, .unset, .unset, .unset, .unset] [])) _
        refine XS.iconst X78.here hx rfl (hb hby at_35) ?_
        show Steps p.tables e below (T78.setTop (mkF m 36 #[.val (.int p0), .val (.int p1), .val (.int p2), .val (.int p3), .val (.int (0 : Int32)), .val (.ref (u 1)), .unset, .unset, .unset, .unset, .unset, .unset] [(.int (1 : Int32))])) _
        refine XS.goto X78.here hx rfl (pc0 := 36) (pc' := 40) rfl (hb hby at_36) (by decide) (by decide) ?_
        show Steps p.tables e below (T78.setTop (mkF m 40 #[.val (.int p0), .val (.int p1), .val (.int p2), .val (.int p3), .val (.int (0 : Int32)), .val (.ref (u 1)), .unset, .unset, .unset, .unset, .unset, .unset] [(.int (1 : Int32))])) _
        refine XS.istore X78.here hx rfl (hb hby at_40) rfl (l' := #[.val (.int p0), .val (.int p1), .val (.int p2), .val (.int p3), .val (.int (0 : Int32)), .val (.ref (u 1)), .val (.int (1 : Int32)), .unset, .unset, .unset, .unset, .unset]) rfl ?_
        show Steps p.tables e below (T78.setTop (mkF m 42 #[.val (.int p0), .val (.int p1), .val (.int p2), .val (.int p3), .val (.int (0 : Int32)), .val (.ref (u 1)), .val (.int (1 : Int32)), .unset, .unset, .unset, .unset, .unset] [])) _
        refine XS.iloadN X78.here hx rfl (hb hby at_42) rfl ?_
        show Steps p.tables e below (T78.setTop (mkF m 43 #[.val (.int p0), .val (.int p1), .val (.int p2), .val (.int p3), .val (.int (0 : Int32)), .val (.ref (u 1)), .val (.int (1 : Int32)), .unset, .unset, .unset, .unset, .unset] [(.int p3)])) _
        refine XS.iconst X78.here hx rfl (hb hby at_43) ?_
        show Steps p.tables e below (T78.setTop (mkF m 44 #[.val (.int p0), .val (.int p1), .val (.int p2), .val (.int p3), .val (.int (0 : Int32)), .val (.ref (u 1)), .val (.int (1 : Int32)), .unset, .unset, .unset, .unset, .unset] [(.int (2 : Int32)), (.int p3)])) _
        refine XS.iand X78.here hx rfl (hb hby at_44) rfl ?_
        exact kt)
      by_cases hc100 : (p3 &&& (2 : Int32)) = (0 : Int32)
      · --
        have pre101 : ∀ t, Steps p.tables e below (T78.setTop (mkF m 80 #[.val (.int p0), .val (.int p1), .val (.int p2), .val (.int p3), .val (.int (0 : Int32)), .val (.ref (u 1)), .val (.int (1 : Int32)), .val (.int (0 : Int32)), .val .null, .unset, .unset, .unset] [(.int p2)])) t → Steps p.tables e below (s₁.setTop (entryFrame m #[(.int p0), (.int p1), (.int p2), (.int p3)] maxLocals)) t := fun t kt => pre99 t (by
          show Steps p.tables e below (T78.setTop (mkF m 45 #[.val (.int p0), .val (.int p1), .val (.int p2), .val (.int p3), .val (.int (0 : Int32)), .val (.ref (u 1)), .val (.int (1 : Int32)), .unset, .unset, .unset, .unset, .unset] [(.int (p3 &&& (2 : Int32)))])) _
          refine XS.ifYes X78.here hx rfl (pc0 := 45) (pc' := 52) rfl (hb hby at_45) rfl ((if0 _ _).trans (teq hc100).1) (by decide) (by decide) ?_
          show Steps p.tables e below (T78.setTop (mkF m 52 #[.val (.int p0), .val (.int p1), .val (.int p2), .val (.int p3), .val (.int (0 : Int32)), .val (.ref (u 1)), .val (.int (1 : Int32)), .unset, .unset, .unset, .unset, .unset] [])) _
          refine XS.iconst X78.here hx rfl (hb hby at_52) ?_
          show Steps p.tables e below (T78.setTop (mkF m 53 #[.val (.int p0), .val (.int p1), .val (.int p2), .val (.int p3), .val (.int (0 : Int32)), .val (.ref (u 1)), .val (.int (1 : Int32)), .unset, .unset, .unset, .unset, .unset] [(.int (0 : Int32))])) _
          refine XS.istore X78.here hx rfl (hb hby at_53) rfl (l' := #[.val (.int p0), .val (.int p1), .val (.int p2), .val (.int p3), .val (.int (0 : Int32)), .val (.ref (u 1)), .val (.int (1 : Int32)), .val (.int (0 : Int32)), .unset, .unset, .unset, .unset]) rfl ?_
          show Steps p.tables e below (T78.setTop (mkF m 55 #[.val (.int p0), .val (.int p1), .val (.int p2), .val (.int p3), .val (.int (0 : Int32)), .val (.ref (u 1)), .val (.int (1 : Int32)), .val (.int (0 : Int32)), .unset, .unset, .unset, .unset] [])) _
          refine XS.iload X78.here hx rfl (hb hby at_55) rfl ?_
          show Steps p.tables e below (T78.setTop (mkF m 57 #[.val (.int p0), .val (.int p1), .val (.int p2), .val (.int p3), .val (.int (0 : Int32)), .val (.ref (u 1)), .val (.int (1 : Int32)), .val (.int (0 : Int32)), .unset, .unset, .unset, .unset] [(.int (1 : Int32))])) _
          refine XS.ifNo X78.here hx rfl (hb hby at_57) rfl ((if0 _ _).trans (feq (by decide : ¬ ((1 : Int32) = (0 : Int32)))).1) ?_
          show Steps p.tables e below (T78.setTop (mkF m 60 #[.val (.int p0), .val (.int p1), .val (.int p2), .val (.int p3), .val (.int (0 : Int32)), .val (.ref (u 1)), .val (.int (1 : Int32)), .val (.int (0 : Int32)), .unset, .unset, .unset, .unset] [])) _
          refine XS.aconstNull X78.here hx rfl (hb hby at_60) ?_
          show Steps p.tables e below (T78.setTop (mkF m 61 #[.val (.int p0), .val (.int p1), .val (.int p2), .val (.int p3), .val (.int (0 : Int32)), .val (.ref (u 1)), .val (.int (1 : Int32)), .val (.int (0 : Int32)), .unset, .unset, .unset, .unset] [.null])) _
          refine XS.goto X78.here hx rfl (pc0 := 61) (pc' := 68) rfl (hb hby at_61) (by decide) (by decide) ?_
          show Steps p.tables e below (T78.setTop (mkF m 68 #[.val (.int p0), .val (.int p1), .val (.int p2), .val (.int p3), .val (.int (0 : Int32)), .val (.ref (u 1)), .val (.int (1 : Int32)), .val (.int (0 : Int32)), .unset, .unset, .unset, .unset] [.null])) _
          refine XS.astore X78.here hx rfl (hb hby at_68) rfl rfl (l' := #[.val (.int p0), .val (.int p1), .val (.int p2), .val (.int p3), .val (.int (0 : Int32)), .val (.ref (u 1)), .val (.int (1 : Int32)), .val (.int (0 : Int32)), .val .null, .unset, .unset, .unset]) rfl ?_
          show Steps p.tables e below (T78.setTop (mkF m 70 #[.val (.int p0), .val (.int p1), .val (.int p2), .val (.int p3), .val (.int (0 : Int32)), .val (.ref (u 1)), .val (.int (1 : Int32)), .val (.int (0 : Int32)), .val .null, .unset, .unset, .unset] [])) _
          refine XS.iload X78.here hx rfl (hb hby at_70) rfl ?_
          show Steps p.tables e below (T78.setTop (mkF m 72 #[.val (.int p0), .val (.int p1), .val (.int p2), .val (.int p3), .val (.int (0 : Int32)), .val (.ref (u 1)), .val (.int (1 : Int32)), .val (.int (0 : Int32)), .val .null, .unset, .unset, .unset] [(.int (0 : Int32))])) _
          refine XS.ifYes X78.here hx rfl (pc0 := 72) (pc' := 79) rfl (hb hby at_72) rfl ((if0 _ _).trans (teq (by decide : (0 : Int32) = (0 : Int32))).1) (by decide) (by decide) ?_
          show Steps p.tables e below (T78.setTop (mkF m 79 #[.val (.int p0), .val (.int p1), .val (.int p2), .val (.int p3), .val (.int (0 : Int32)), .val (.ref (u 1)), .val (.int (1 : Int32)), .val (.int (0 : Int32)), .val .null, .unset, .unset, .unset] [])) _
          refine XS.iloadN X78.here hx rfl (hb hby at_79) rfl ?_
          exact kt)
        obtain ⟨vr102, _, ⟨T102, L102, k102, n102⟩, -, X102, ⟨Lc102, hQ102, l102, y102, z102⟩, st102⟩ := Jvm.LawKit.callS X78 hx (y := (⟨"java/lang/Integer", "valueOf", "(I)Ljava/lang/Integer;"⟩ : MethodName)) hown (mvT hZ (hw _ (List.mem_of_getElem? (i := 3) rfl))) (mvT hZ (hw _ (List.mem_of_getElem? (i := 4) rfl))) (mvT hZ (hw _ (List.mem_of_getElem? (i := 5) rfl))) (mvT hZ (hw _ (List.mem_of_getElem? (i := 6) rfl))) (by decide) (backOf (W := 0) (rm1 l Z a0 hw [] u p2 B h0 n0 O ) hZ (hw _ (List.mem_of_getElem? (i := 6) rfl)) (hw _ (List.mem_of_getElem? (i := 5) rfl)) (by decide) (by decide)) (g := (mkF m 80 #[.val (.int p0), .val (.int p1), .val (.int p2), .val (.int p3), .val (.int (0 : Int32)), .val (.ref (u 1)), .val (.int (1 : Int32)), .val (.int (0 : Int32)), .val .null, .unset, .unset, .unset] [(.int p2)])) rfl (by rw [hml]; rfl) (argsL := [(.int p2)]) (rest := []) (lenOf own_pd2 rfl) rfl (by show 2 * 0 + _ ≤ _; exact Nat.le_of_eq rfl) (hb hby at_80) (fun _ _ => ⟨rfl, e78, (by decide : 0 + 1 ≤ _), (by decide : 0 + 1 ≤ _)⟩)
        dsimp only [Pt.U, Pt.locs, Pt.cells, Pt.slots] at X102 l102 y102 z102 st102 hQ102
        subst l102 y102 z102
        obtain ⟨b102, rfl, N102q, E102, x102E, x102v⟩ := hQ102
        have N102 := Fr.app N0 N102q
        have O102 := O.ext E102
        have K102 := K0.ext E102
        have pre103 : ∀ t, Steps p.tables e below (T102.setTop (mkF m 91 #[.val (.int p0), .val (.int p1), .val (.int p2), .val (.int p3), .val (.int (0 : Int32)), .val (.ref (u 1)), .val (.int (1 : Int32)), .val (.int (0 : Int32)), .val .null, .val (.ref b102), .unset, .unset] [(.ref b102), .null, (.ref (u 1))])) t → Steps p.tables e below (s₁.setTop (entryFrame m #[(.int p0), (.int p1), (.int p2), (.int p3)] maxLocals)) t := fun t kt => pre101 t (by
          show Steps p.tables e below (T78.setTop (mkF m 80 #[.val (.int p0), .val (.int p1), .val (.int p2), .val (.int p3), .val (.int (0 : Int32)), .val (.ref (u 1)), .val (.int (1 : Int32)), .val (.int (0 : Int32)), .val .null, .unset, .unset, .unset] [(.int p2)])) _
          refine st102 _ ?_
          show Steps p.tables e below (T102.setTop (mkF m 83 #[.val (.int p0), .val (.int p1), .val (.int p2), .val (.int p3), .val (.int (0 : Int32)), .val (.ref (u 1)), .val (.int (1 : Int32)), .val (.int (0 : Int32)), .val .null, .unset, .unset, .unset] [(.ref b102)])) _
          refine XS.astore X102.here hx rfl (hb hby at_83) rfl rfl (l' := #[.val (.int p0), .val (.int p1), .val (.int p2), .val (.int p3), .val (.int (0 : Int32)), .val (.ref (u 1)), .val (.int (1 : Int32)), .val (.int (0 : Int32)), .val .null, .val (.ref b102), .unset, .unset]) rfl ?_
          show Steps p.tables e below (T102.setTop (mkF m 85 #[.val (.int p0), .val (.int p1), .val (.int p2), .val (.int p3), .val (.int (0 : Int32)), .val (.ref (u 1)), .val (.int (1 : Int32)), .val (.int (0 : Int32)), .val .null, .val (.ref b102), .unset, .unset] [])) _
          refine XS.aload X102.here hx rfl (hb hby at_85) rfl rfl ?_
          show Steps p.tables e below (T102.setTop (mkF m 87 #[.val (.int p0), .val (.int p1), .val (.int p2), .val (.int p3), .val (.int (0 : Int32)), .val (.ref (u 1)), .val (.int (1 : Int32)), .val (.int (0 : Int32)), .val .null, .val (.ref b102), .unset, .unset] [(.ref (u 1))])) _
          refine XS.aload X102.here hx rfl (hb hby at_87) rfl rfl ?_
          show Steps p.tables e below (T102.setTop (mkF m 89 #[.val (.int p0), .val (.int p1), .val (.int p2), .val (.int p3), .val (.int (0 : Int32)), .val (.ref (u 1)), .val (.int (1 : Int32)), .val (.int (0 : Int32)), .val .null, .val (.ref b102), .unset, .unset] [.null, (.ref (u 1))])) _
          refine XS.aload X102.here hx rfl (hb hby at_89) rfl rfl ?_
          exact kt)
        obtain ⟨cq104, kq104, q104a, q104b, q104c⟩ := isOf hZ rfl (B.2.2.2.1.ext O102.2)
        obtain ⟨vr104, _, ⟨T104, L104, k104, n104⟩, -, X104, ⟨Lc104, hQ104, l104, y104, z104⟩, st104⟩ := X102.virtualBack hx (y := (⟨"com/example/vetted_ledger/vettedledger/engine/BillingAlignment", "subscriptionDay", "(Ljava/lang/Integer;Ljava/lang/Integer;)Ljava/lang/Integer;"⟩ : MethodName)) (z := (⟨"com/example/vetted_ledger/vettedledger/engine/BillingAlignment", "subscriptionDay", "(Ljava/lang/Integer;Ljava/lang/Integer;)Ljava/lang/Integer;"⟩ : MethodName)) hown (mvT hZ (hw _ (List.mem_of_getElem? (i := 10) rfl))) (mvT hZ (hw _ (List.mem_of_getElem? (i := 11) rfl))) (notFace_of_selects (args := #[]) (mvT hZ (hw _ (List.mem_of_getElem? (i := 13) rfl)))) (mvT hZ (hw _ (List.mem_of_getElem? (i := 13) rfl))) (mvT hZ (hw _ (List.mem_of_getElem? (i := 12) rfl))) (by decide) (backOf (W := 0) (rmsd01 l Z a0 hw [] u (u 1) b102 B T102.heap n0 O102 ) hZ (hw _ (List.mem_of_getElem? (i := 14) rfl)) (hw _ (List.mem_of_getElem? (i := 1) rfl)) (by decide) (by decide)) q104a q104c (g := (mkF m 91 #[.val (.int p0), .val (.int p1), .val (.int p2), .val (.int p3), .val (.int (0 : Int32)), .val (.ref (u 1)), .val (.int (1 : Int32)), .val (.int (0 : Int32)), .val .null, .val (.ref b102), .unset, .unset] [(.ref b102), .null, (.ref (u 1))])) rfl (by rw [hml]; rfl) (Steps.refl _) (argsL := [.null, (.ref b102)]) (rest := []) (lenOf own_pd3 rfl) rfl (by show 2 * 0 + _ ≤ _; exact Nat.le_of_eq rfl) (hb hby at_91) (fun _ _ => ⟨rfl, rfl, (by decide : 1 + 0 ≤ _), (by decide : 1 + 0 ≤ _)⟩)
        dsimp only [Pt.U, Pt.locs, Pt.cells, Pt.slots] at X104 l104 y104 z104 st104 hQ104
        subst l104 y104 z104
        obtain ⟨hv104, N104q, e104⟩ := hQ104
        have N104 := Fr.app N102 N104q
        obtain rfl : vr104 = some .null := hv104.trans (by unfold own_rsd01; rw [if_neg ((Fld.ne B.2.2.2.2.2.1 B.2.2.2.2.1 (by decide)) : ¬ ((u 1) = (u 0)))])
        obtain ⟨fs, hr, hrun, hended, hW, hsame⟩ := X104.leave (v := some (.int (1 : Int32))) (fun h => by rw [Bd.returns] at h; cases h)
        refine ⟨_, _, pre103 _ ?_, hrun, hended, _, _, rfl, ?_, ⟨_, rfl⟩, hW, hsame.mono (by decide) (by decide)⟩
        · show Steps p.tables e below (T102.setTop (mkF m 91 #[.val (.int p0), .val (.int p1), .val (.int p2), .val (.int p3), .val (.int (0 : Int32)), .val (.ref (u 1)), .val (.int (1 : Int32)), .val (.int (0 : Int32)), .val .null, .val (.ref b102), .unset, .unset] [(.ref b102), .null, (.ref (u 1))])) _
          refine st104.trans ?_
          show Steps p.tables e below (T104.setTop (mkF m 94 #[.val (.int p0), .val (.int p1), .val (.int p2), .val (.int p3), .val (.int (0 : Int32)), .val (.ref (u 1)), .val (.int (1 : Int32)), .val (.int (0 : Int32)), .val .null, .val (.ref b102), .unset, .unset] [.null])) _
          refine XS.astore X104.here hx rfl (hb hby at_94) rfl rfl (l' := #[.val (.int p0), .val (.int p1), .val (.int p2), .val (.int p3), .val (.int (0 : Int32)), .val (.ref (u 1)), .val (.int (1 : Int32)), .val (.int (0 : Int32)), .val .null, .val (.ref b102), .val .null, .unset]) rfl ?_
          show Steps p.tables e below (T104.setTop (mkF m 96 #[.val (.int p0), .val (.int p1), .val (.int p2), .val (.int p3), .val (.int (0 : Int32)), .val (.ref (u 1)), .val (.int (1 : Int32)), .val (.int (0 : Int32)), .val .null, .val (.ref b102), .val .null, .unset] [])) _
          refine XS.iload X104.here hx rfl (hb hby at_96) rfl ?_
          show Steps p.tables e below (T104.setTop (mkF m 98 #[.val (.int p0), .val (.int p1), .val (.int p2), .val (.int p3), .val (.int (0 : Int32)), .val (.ref (u 1)), .val (.int (1 : Int32)), .val (.int (0 : Int32)), .val .null, .val (.ref b102), .val .null, .unset] [(.int (1 : Int32))])) _
          refine XS.ifNo X104.here hx rfl (hb hby at_98) rfl ((if0 _ _).trans (feq (by decide : ¬ ((1 : Int32) = (0 : Int32)))).1) ?_
          show Steps p.tables e below (T104.setTop (mkF m 101 #[.val (.int p0), .val (.int p1), .val (.int p2), .val (.int p3), .val (.int (0 : Int32)), .val (.ref (u 1)), .val (.int (1 : Int32)), .val (.int (0 : Int32)), .val .null, .val (.ref b102), .val .null, .unset] [])) _
          refine XS.aload X104.here hx rfl (hb hby at_101) rfl rfl ?_
          show Steps p.tables e below (T104.setTop (mkF m 103 #[.val (.int p0), .val (.int p1), .val (.int p2), .val (.int p3), .val (.int (0 : Int32)), .val (.ref (u 1)), .val (.int (1 : Int32)), .val (.int (0 : Int32)), .val .null, .val (.ref b102), .val .null, .unset] [.null])) _
          refine XS.ifnonnullNo X104.here hx rfl (hb hby at_103) rfl ?_
          show Steps p.tables e below (T104.setTop (mkF m 106 #[.val (.int p0), .val (.int p1), .val (.int p2), .val (.int p3), .val (.int (0 : Int32)), .val (.ref (u 1)), .val (.int (1 : Int32)), .val (.int (0 : Int32)), .val .null, .val (.ref b102), .val .null, .unset] [])) _
          refine XS.iconst X104.here hx rfl (hb hby at_106) ?_
          show Steps p.tables e below (T104.setTop (mkF m 107 #[.val (.int p0), .val (.int p1), .val (.int p2), .val (.int p3), .val (.int (0 : Int32)), .val (.ref (u 1)), .val (.int (1 : Int32)), .val (.int (0 : Int32)), .val .null, .val (.ref b102), .val .null, .unset] [(.int (1 : Int32))])) _
          refine XS.goto X104.here hx rfl (pc0 := 107) (pc' := 111) rfl (hb hby at_107) (by decide) (by decide) ?_
          show Steps p.tables e below (T104.setTop (mkF m 111 #[.val (.int p0), .val (.int p1), .val (.int p2), .val (.int p3), .val (.int (0 : Int32)), .val (.ref (u 1)), .val (.int (1 : Int32)), .val (.int (0 : Int32)), .val .null, .val (.ref b102), .val .null, .unset] [(.int (1 : Int32))])) _
          exact retN X104 hx (t := .boolean) Bd.returns (by simp) (hb hby at_111) hr
        · show own_Q0 Z u p0 p1 p2 p3 h0 n0 _ T104.heap _
          rw [e104]
          exact ⟨rfl, N104, trivial⟩
      · --
        have pre106 : ∀ t, Steps p.tables e below (T78.setTop (mkF m 91 #[.val (.int p0), .val (.int p1), .val (.int p2), .val (.int p3), .val (.int (0 : Int32)), .val (.ref (u 1)), .val (.int (1 : Int32)), .val (.int (1 : Int32)), .val .null, .val .null, .unset, .unset] [.null, .null, (.ref (u 1))])) t → Steps p.tables e below (s₁.setTop (entryFrame m #[(.int p0), (.int p1), (.int p2), (.int p3)] maxLocals)) t := fun t kt => pre99 t (by
          show Steps p.tables e below (T78.setTop (mkF m 45 #[.val (.int p0), .val (.int p1), .val (.int p2), .val (.int p3), .val (.int (0 : Int32)), .val (.ref (u 1)), .val (.int (1 : Int32)), .unset, .unset, .unset, .unset, .unset] [(.int (p3 &&& (2 : Int32)))])) _
          refine XS.ifNo X78.here hx rfl (hb hby at_45) rfl ((if0 _ _).trans (feq hc100).1) ?_
          show Steps p.tables e below (T78.setTop (mkF m 48 #[.val (.int p0), .val (.int p1), .val (.int p2), .val (.int p3), .val (.int (0 : Int32)), .val (.ref (u 1)), .val (.int (1 : Int32)), .unset, .unset, .unset, .unset, .unset] [])) _
          refine XS.iconst X78.here hx rfl (hb hby at_48) ?_
          show Steps p.tables e below (T78.setTop (mkF m 49 #[.val (.int p0), .val (.int p1), .val (.int p2), .val (.int p3), .val (.int (0 : Int32)), .val (.ref (u 1)), .val (.int (1 : Int32)), .unset, .unset, .unset, .unset, .unset] [(.int (1 : Int32))])) _
          refine XS.goto X78.here hx rfl (pc0 := 49) (pc' := 53) rfl (hb hby at_49) (by decide) (by decide) ?_
          show Steps p.tables e below (T78.setTop (mkF m 53 #[.val (.int p0), .val (.int p1), .val (.int p2), .val (.int p3), .val (.int (0 : Int32)), .val (.ref (u 1)), .val (.int (1 : Int32)), .unset, .unset, .unset, .unset, .unset] [(.int (1 : Int32))])) _
          refine XS.istore X78.here hx rfl (hb hby at_53) rfl (l' := #[.val (.int p0), .val (.int p1), .val (.int p2), .val (.int p3), .val (.int (0 : Int32)), .val (.ref (u 1)), .val (.int (1 : Int32)), .val (.int (1 : Int32)), .unset, .unset, .unset, .unset]) rfl ?_
          show Steps p.tables e below (T78.setTop (mkF m 55 #[.val (.int p0), .val (.int p1), .val (.int p2), .val (.int p3), .val (.int (0 : Int32)), .val (.ref (u 1)), .val (.int (1 : Int32)), .val (.int (1 : Int32)), .unset, .unset, .unset, .unset] [])) _
          refine XS.iload X78.here hx rfl (hb hby at_55) rfl ?_
          show Steps p.tables e below (T78.setTop (mkF m 57 #[.val (.int p0), .val (.int p1), .val (.int p2), .val (.int p3), .val (.int (0 : Int32)), .val (.ref (u 1)), .val (.int (1 : Int32)), .val (.int (1 : Int32)), .unset, .unset, .unset, .unset] [(.int (1 : Int32))])) _
          refine XS.ifNo X78.here hx rfl (hb hby at_57) rfl ((if0 _ _).trans (feq (by decide : ¬ ((1 : Int32) = (0 : Int32)))).1) ?_
          show Steps p.tables e below (T78.setTop (mkF m 60 #[.val (.int p0), .val (.int p1), .val (.int p2), .val (.int p3), .val (.int (0 : Int32)), .val (.ref (u 1)), .val (.int (1 : Int32)), .val (.int (1 : Int32)), .unset, .unset, .unset, .unset] [])) _
          refine XS.aconstNull X78.here hx rfl (hb hby at_60) ?_
          show Steps p.tables e below (T78.setTop (mkF m 61 #[.val (.int p0), .val (.int p1), .val (.int p2), .val (.int p3), .val (.int (0 : Int32)), .val (.ref (u 1)), .val (.int (1 : Int32)), .val (.int (1 : Int32)), .unset, .unset, .unset, .unset] [.null])) _
          refine XS.goto X78.here hx rfl (pc0 := 61) (pc' := 68) rfl (hb hby at_61) (by decide) (by decide) ?_
          show Steps p.tables e below (T78.setTop (mkF m 68 #[.val (.int p0), .val (.int p1), .val (.int p2), .val (.int p3), .val (.int (0 : Int32)), .val (.ref (u 1)), .val (.int (1 : Int32)), .val (.int (1 : Int32)), .unset, .unset, .unset, .unset] [.null])) _
          refine XS.astore X78.here hx rfl (hb hby at_68) rfl rfl (l' := #[.val (.int p0), .val (.int p1), .val (.int p2), .val (.int p3), .val (.int (0 : Int32)), .val (.ref (u 1)), .val (.int (1 : Int32)), .val (.int (1 : Int32)), .val .null, .unset, .unset, .unset]) rfl ?_
          show Steps p.tables e below (T78.setTop (mkF m 70 #[.val (.int p0), .val (.int p1), .val (.int p2), .val (.int p3), .val (.int (0 : Int32)), .val (.ref (u 1)), .val (.int (1 : Int32)), .val (.int (1 : Int32)), .val .null, .unset, .unset, .unset] [])) _
          refine XS.iload X78.here hx rfl (hb hby at_70) rfl ?_
          show Steps p.tables e below (T78.setTop (mkF m 72 #[.val (.int p0), .val (.int p1), .val (.int p2), .val (.int p3), .val (.int (0 : Int32)), .val (.ref (u 1)), .val (.int (1 : Int32)), .val (.int (1 : Int32)), .val .null, .unset, .unset, .unset] [(.int (1 : Int32))])) _
          refine XS.ifNo X78.here hx rfl (hb hby at_72) rfl ((if0 _ _).trans (feq (by decide : ¬ ((1 : Int32) = (0 : Int32)))).1) ?_
          show Steps p.tables e below (T78.setTop (mkF m 75 #[.val (.int p0), .val (.int p1), .val (.int p2), .val (.int p3), .val (.int (0 : Int32)), .val (.ref (u 1)), .val (.int (1 : Int32)), .val (.int (1 : Int32)), .val .null, .unset, .unset, .unset] [])) _
          refine XS.aconstNull X78.here hx rfl (hb hby at_75) ?_
          show Steps p.tables e below (T78.setTop (mkF m 76 #[.val (.int p0), .val (.int p1), .val (.int p2), .val (.int p3), .val (.int (0 : Int32)), .val (.ref (u 1)), .val (.int (1 : Int32)), .val (.int (1 : Int32)), .val .null, .unset, .unset, .unset] [.null])) _
          refine XS.goto X78.here hx rfl (pc0 := 76) (pc' := 83) rfl (hb hby at_76) (by decide) (by decide) ?_
          show Steps p.tables e below (T78.setTop (mkF m 83 #[.val (.int p0), .val (.int p1), .val (.int p2), .val (.int p3), .val (.int (0 : Int32)), .val (.ref (u 1)), .val (.int (1 : Int32)), .val (.int (1 : Int32)), .val .null, .unset, .unset, .unset] [.null])) _
          refine XS.astore X78.here hx rfl (hb hby at_83) rfl rfl (l' := #[.val (.int p0), .val (.int p1), .val (.int p2), .val (.int p3), .val (.int (0 : Int32)), .val (.ref (u 1)), .val (.int (1 : Int32)), .val (.int (1 : Int32)), .val .null, .val .null, .unset, .unset]) rfl ?_
          show Steps p.tables e below (T78.setTop (mkF m 85 #[.val (.int p0), .val (.int p1), .val (.int p2), .val (.int p3), .val (.int (0 : Int32)), .val (.ref (u 1)), .val (.int (1 : Int32)), .val (.int (1 : Int32)), .val .null, .val .null, .unset, .unset] [])) _
          refine XS.aload X78.here hx rfl (hb hby at_85) rfl rfl ?_
          show Steps p.tables e below (T78.setTop (mkF m 87 #[.val (.int p0), .val (.int p1), .val (.int p2), .val (.int p3), .val (.int (0 : Int32)), .val (.ref (u 1)), .val (.int (1 : Int32)), .val (.int (1 : Int32)), .val .null, .val .null, .unset, .unset] [(.ref (u 1))])) _
          refine XS.aload X78.here hx rfl (hb hby at_87) rfl rfl ?_
          show Steps p.tables e below (T78.setTop (mkF m 89 #[.val (.int p0), .val (.int p1), .val (.int p2), .val (.int p3), .val (.int (0 : Int32)), .val (.ref (u 1)), .val (.int (1 : Int32)), .val (.int (1 : Int32)), .val .null, .val .null, .unset, .unset] [.null, (.ref (u 1))])) _
          refine XS.aload X78.here hx rfl (hb hby at_89) rfl rfl ?_
          exact kt)
        obtain ⟨cq107, kq107, q107a, q107b, q107c⟩ := isOf hZ e78 (B.2.2.2.1.ext O.2)
        obtain ⟨vr107, _, ⟨T107, L107, k107, n107⟩, -, X107, ⟨Lc107, hQ107, l107, y107, z107⟩, st107⟩ := X78.virtualBack hx (y := (⟨"com/example/vetted_ledger/vettedledger/engine/BillingAlignment", "subscriptionDay", "(Ljava/lang/Integer;Ljava/lang/Integer;)Ljava/lang/Integer;"⟩ : MethodName)) (z := (⟨"com/example/vetted_ledger/vettedledger/engine/BillingAlignment", "subscriptionDay", "(Ljava/lang/Integer;Ljava/lang/Integer;)Ljava/lang/Integer;"⟩ : MethodName)) hown (mvT hZ (hw _ (List.mem_of_getElem? (i := 10) rfl))) (mvT hZ (hw _ (List.mem_of_getElem? (i := 11) rfl))) (notFace_of_selects (args := #[]) (mvT hZ (hw _ (List.mem_of_getElem? (i := 13) rfl)))) (mvT hZ (hw _ (List.mem_of_getElem? (i := 13) rfl))) (mvT hZ (hw _ (List.mem_of_getElem? (i := 12) rfl))) (by decide) (backOf (W := 0) (rmsd00 l Z a0 hw [] u (u 1) B h0 n0 O ) hZ (hw _ (List.mem_of_getElem? (i := 14) rfl)) (hw _ (List.mem_of_getElem? (i := 1) rfl)) (by decide) (by decide)) q107a q107c (g := (mkF m 91 #[.val (.int p0), .val (.int p1), .val (.int p2), .val (.int p3), .val (.int (0 : Int32)), .val (.ref (u 1)), .val (.int (1 : Int32)), .val (.int (1 : Int32)), .val .null, .val .null, .unset, .unset] [.null, .null, (.ref (u 1))])) rfl (by rw [hml]; rfl) (Steps.refl _) (argsL := [.null, .null]) (rest := []) (lenOf own_pd3 rfl) rfl (by show 2 * 0 + _ ≤ _; exact Nat.le_of_eq rfl) (hb hby at_91) (fun _ _ => ⟨rfl, e78, (by decide : 0 + 0 ≤ _), (by decide : 0 + 0 ≤ _)⟩)
        dsimp only [Pt.U, Pt.locs, Pt.cells, Pt.slots] at X107 l107 y107 z107 st107 hQ107
        subst l107 y107 z107
        obtain ⟨hv107, N107q, e107⟩ := hQ107
        have N107 := Fr.app N0 N107q
        obtain rfl : vr107 = some .null := hv107.trans (by unfold own_rsd00; rw [if_neg ((Fld.ne B.2.2.2.2.2.1 B.2.2.2.2.1 (by decide)) : ¬ ((u 1) = (u 0)))])
        obtain ⟨fs, hr, hrun, hended, hW, hsame⟩ := X107.leave (v := some (.int (1 : Int32))) (fun h => by rw [Bd.returns] at h; cases h)
        refine ⟨_, _, pre106 _ ?_, hrun, hended, _, _, rfl, ?_, ⟨_, rfl⟩, hW, hsame.mono (by decide) (by decide)⟩
        · show Steps p.tables e below (T78.setTop (mkF m 91 #[.val (.int p0), .val (.int p1), .val (.int p2), .val (.int p3), .val (.int (0 : Int32)), .val (.ref (u 1)), .val (.int (1 : Int32)), .val (.int (1 : Int32)), .val .null, .val .null, .unset, .unset] [.null, .null, (.ref (u 1))])) _
          refine st107.trans ?_
          show Steps p.tables e below (T107.setTop (mkF m 94 #[.val (.int p0), .val (.int p1), .val (.int p2), .val (.int p3), .val (.int (0 : Int32)), .val (.ref (u 1)), .val (.int (1 : Int32)), .val (.int (1 : Int32)), .val .null, .val .null, .unset, .unset] [.null])) _
          refine XS.astore X107.here hx rfl (hb hby at_94) rfl rfl (l' := #[.val (.int p0), .val (.int p1), .val (.int p2), .val (.int p3), .val (.int (0 : Int32)), .val (.ref (u 1)), .val (.int (1 : Int32)), .val (.int (1 : Int32)), .val .null, .val .null, .val .null, .unset]) rfl ?_
          show Steps p.tables e below (T107.setTop (mkF m 96 #[.val (.int p0), .val (.int p1), .val (.int p2), .val (.int p3), .val (.int (0 : Int32)), .val (.ref (u 1)), .val (.int (1 : Int32)), .val (.int (1 : Int32)), .val .null, .val .null, .val .null, .unset] [])) _
          refine XS.iload X107.here hx rfl (hb hby at_96) rfl ?_
          show Steps p.tables e below (T107.setTop (mkF m 98 #[.val (.int p0), .val (.int p1), .val (.int p2), .val (.int p3), .val (.int (0 : Int32)), .val (.ref (u 1)), .val (.int (1 : Int32)), .val (.int (1 : Int32)), .val .null, .val .null, .val .null, .unset] [(.int (1 : Int32))])) _
          refine XS.ifNo X107.here hx rfl (hb hby at_98) rfl ((if0 _ _).trans (feq (by decide : ¬ ((1 : Int32) = (0 : Int32)))).1) ?_
          show Steps p.tables e below (T107.setTop (mkF m 101 #[.val (.int p0), .val (.int p1), .val (.int p2), .val (.int p3), .val (.int (0 : Int32)), .val (.ref (u 1)), .val (.int (1 : Int32)), .val (.int (1 : Int32)), .val .null, .val .null, .val .null, .unset] [])) _
          refine XS.aload X107.here hx rfl (hb hby at_101) rfl rfl ?_
          show Steps p.tables e below (T107.setTop (mkF m 103 #[.val (.int p0), .val (.int p1), .val (.int p2), .val (.int p3), .val (.int (0 : Int32)), .val (.ref (u 1)), .val (.int (1 : Int32)), .val (.int (1 : Int32)), .val .null, .val .null, .val .null, .unset] [.null])) _
          refine XS.ifnonnullNo X107.here hx rfl (hb hby at_103) rfl ?_
          show Steps p.tables e below (T107.setTop (mkF m 106 #[.val (.int p0), .val (.int p1), .val (.int p2), .val (.int p3), .val (.int (0 : Int32)), .val (.ref (u 1)), .val (.int (1 : Int32)), .val (.int (1 : Int32)), .val .null, .val .null, .val .null, .unset] [])) _
          refine XS.iconst X107.here hx rfl (hb hby at_106) ?_
          show Steps p.tables e below (T107.setTop (mkF m 107 #[.val (.int p0), .val (.int p1), .val (.int p2), .val (.int p3), .val (.int (0 : Int32)), .val (.ref (u 1)), .val (.int (1 : Int32)), .val (.int (1 : Int32)), .val .null, .val .null, .val .null, .unset] [(.int (1 : Int32))])) _
          refine XS.goto X107.here hx rfl (pc0 := 107) (pc' := 111) rfl (hb hby at_107) (by decide) (by decide) ?_
          show Steps p.tables e below (T107.setTop (mkF m 111 #[.val (.int p0), .val (.int p1), .val (.int p2), .val (.int p3), .val (.int (0 : Int32)), .val (.ref (u 1)), .val (.int (1 : Int32)), .val (.int (1 : Int32)), .val .null, .val .null, .val .null, .unset] [(.int (1 : Int32))])) _
          exact retN X107 hx (t := .boolean) Bd.returns (by simp) (hb hby at_111) hr
        · show own_Q0 Z u p0 p1 p2 p3 h0 n0 _ T107.heap _
          rw [e107]
          exact ⟨rfl, N107, trivial⟩
set_option maxRecDepth 65536 in
set_option maxHeartbeats 40000000 in
theorem comes_1 {Post : Tables → Env → Array Value → State → Outcome → State → Prop} (hpost : ∀ tb e args s v u, (limb_1_1.after args s (.returned v) u = true ∧ limb_1_2.after args s (.returned v) u = true ∧ True) → FrameEnd s (.returned v) u (Jvm.fieldLocs frame_1_writes args s ++ Jvm.arrayLocs frame_1_arrays args s ++ Jvm.staticLocs frame_1_statics s) 16 128 → Post tb e args s (.returned v) u) :
    ArmFor flags0 classFile x code maxLocals ret World_1 tables_1 room_1 Calls_1 rest_1 Pre_1 Post := by
  intro l hfl _ _ p e ha hc hk s m args below hf hA hF happ hP
  obtain ⟨hcalls, hrest, hpre⟩ := hP
  obtain ⟨-, -, -, hnamed, -, -, -, hat⟩ := (Spec.applies_iff hf).mp happ
  obtain ⟨hg, hn⟩ := and_e (Cond.before_iff.mp (show (Jvm.Cond.and given_1 narrow_1).before args s = true from hpre))
  obtain ⟨g0, gr0⟩ := and_e hg
  obtain ⟨g1, gr1⟩ := and_e gr0
  obtain ⟨g2, gr2⟩ := and_e gr1
  obtain ⟨g3, gr3⟩ := and_e gr2
  have g4 := gr3
  obtain ⟨w0, w1, w2, w3, rfl⟩ : ∃ w0 w1 w2 w3 : Value, args = #[w0, w1, w2, w3] := by
    have hs : args.size = 4 := by simpa [Cond.value, given_1] using g0
    obtain ⟨L⟩ := args
    match L, hs with
    | [w0, w1, w2, w3], _ => exact ⟨w0, w1, w2, w3, rfl⟩
  have hw := fun d (hd : d ∈ tables_1) => atoms_spec (ws := Jvm.Cond.code x code maxLocals ret :: tables_1) hat d (List.mem_cons_of_mem _ hd)
  have hfit : Fit s := fun {y c} hc i hi => by
    obtain ⟨ha, rfl⟩ := Array.getElem?_eq_some_iff.mp hc
    have q := List.all_eq_true.mp ((Array.all_eq_true_iff_forall_mem.mp hF) _ (Array.getElem_mem ha)) i (List.mem_range.mpr hi)
    simpa [Array.getElem?_eq_getElem hi] using q
  obtain ⟨hsets, hown0⟩ := atoms_of _ (rest_1_c_eq ▸ (show rest_1_c.before _ s = true from hrest))
  obtain ⟨i0, ei0⟩ := is_v g1
  obtain rfl : w0 = (.int i0) := Option.some.inj ei0
  obtain ⟨i1, ei1⟩ := is_v g2
  obtain rfl : w1 = (.int i1) := Option.some.inj ei1
  obtain ⟨i2, ei2⟩ := is_v g3
  obtain rfl : w2 = (.int i2) := Option.some.inj ei2
  obtain ⟨i3, ei3⟩ := is_v g4
  obtain rfl : w3 = (.int i3) := Option.some.inj ei3
  obtain ⟨b0, hn0⟩ := and_e hn
  obtain ⟨b1, hn1⟩ := and_e hn0
  obtain ⟨b2, hn2⟩ := and_e hn1
  have b3 := hn2
  obtain ⟨x0, v0⟩ := exa_v b0
  obtain ⟨x1, v1⟩ := exa_v b1
  obtain ⟨x2, v2⟩ := arr_v (Cond.before_iff.mp (hsets _ (List.mem_of_getElem? (i := 4) rfl)))
  obtain ⟨c2, A2⟩ := Arr.start v2 (Cond.before_iff.mp (hsets _ (List.mem_of_getElem? (i := 4) rfl)))
  obtain ⟨l2, m2⟩ := own_len v2 A2.1 (Cond.before_iff.mp (hsets _ (List.mem_of_getElem? (i := 6) rfl)))
  have B : own_Base s (fun i => ([x0, x1, x2] : List Addr).getD i 0) := ⟨Sta.start v0 (Or.inr ⟨(hw _ (List.mem_of_getElem? (i := 1) rfl)), (hw _ (List.mem_of_getElem? (i := 2) rfl))⟩),
    Exa.start v0 b0,
    Sta.start v1 (Or.inr ⟨(hw _ (List.mem_of_getElem? (i := 1) rfl)), (hw _ (List.mem_of_getElem? (i := 24) rfl))⟩),
    Exa.start v1 b1,
    own_fld v0 b3 rfl,
    own_fld v1 b2 rfl,
    Sta.start (own_eqv (Cond.before_iff.mp (hsets _ (List.mem_of_getElem? (i := 3) rfl))) rfl) (Or.inr ⟨(hw _ (List.mem_of_getElem? (i := 8) rfl)), (hsets _ (List.mem_of_getElem? (i := 0) rfl))⟩),
    Sta.start v2 (Or.inr ⟨(hw _ (List.mem_of_getElem? (i := 8) rfl)), (hsets _ (List.mem_of_getElem? (i := 2) rfl))⟩),
    ⟨c2, Bxs.start (fun _ => v2) A2 l2 m2 (by decide) (Cond.before_iff.mp (hsets _ (List.mem_of_getElem? (i := 7) rfl))) own_cacheval⟩⟩
  obtain ⟨n, o, h1, h2, h3, _, L, rfl, ⟨rfl, N, -⟩, hq⟩ := rm0 l s _ hw tables_1 (fun i => ([x0, x1, x2] : List Addr).getD i 0) i0 i1 i2 i3 B s.heap s.heap.size (Old.start s)  p e ha hc hk s m _ below hf ((Spec.applies_iff_loose hf).mp happ).1 ⟨rfl, State.Warmed39.refl s, rfl⟩ trivial
  refine ⟨n, _, h1, h2, h3, hpost _ _ _ _ _ _ ⟨Cond.after_iff.mpr rfl, Cond.after_iff.mpr (eq_i res_at (Term.int_eval (1)) rfl), trivial⟩ ⟨hq.1, hq.2.1, (hq.2.2.sift fun y hy => Or.inr (N y hy)).mono (by decide) (by decide)⟩⟩
theorem main_1_1 : Claimed_1_1 := comes_1 fun _ _ _ _ _ _ h hF => ⟨h.1, hF⟩
theorem main_1_2 : Claimed_1_2 := comes_1 fun _ _ _ _ _ _ h hF => ⟨h.2.1, hF⟩
end Jvm.Pilot.@@N@@
namespace Jvm.Pilot.@@N@@
open Jvm Jvm.ClassFile Sem Op Lib Jvm.Free Jvm.Stand Jvm.Pilot.@@N@@.Jvm.D
/-! MADE BY PROGRAM (witnessworld.py) out of the Statement's table words and the real class files: 17 classes; the members and pool entries that the words name. The judged class is class 1, her method 1. -/
namespace start1
open Jvm.ClassFile
def u (s : String) : CpInfo := .utf8 (stringToUtf16 s)
/-- a pool by its gaps: so many unusable entries, then the entry; so many at the end -/
def gap : Nat → List CpInfo → List CpInfo
  | 0, r => r
  | n + 1, r => .unusable :: gap n r
def poolList (es : List (Nat × CpInfo)) (last : Nat) : List CpInfo := es.foldr (fun e r => gap e.1 (e.2 :: r)) (gap last [])
def pool (es : List (Nat × CpInfo)) (last : Nat) : Array CpInfo := ⟨poolList es last⟩
def fileOf (pool : Array CpInfo) (this : Nat) (attrs : Array Attribute := #[]) (ms : Array MethodInfo := #[]) (fl : Nat := 33) (sup : Nat := 0) (ifs : Array Nat := #[]) (fds : Array FieldInfo := #[]) : ClassFile where
  minorVersion := 0
  majorVersion := 65
  constantPool := pool
  accessFlags := fl
  thisClass := this
  superClass := sup
  interfaces := ifs
  fields := fds
  methods := ms
  attributes := attrs
def plain (name : String) (sup : Option ClassId) : Class where
  name := name
  kind := .ordinary
  loader := none
  accessFlags := 33
  super := sup
  interfaces := #[]
  cf := none
  fields := #[]
  methods := #[]
  instanceTypes := #[]
  staticTypes := #[]
  resolved := #[]
  callSites := []
  init := .initialized
  statics := none
  mirror := none

def pool0 : Array CpInfo := pool [(5, u "<init>"), (0, u "()V"), (1, .class_ 10), (1, u "java/lang/Object")] 113

def k0c0 : Code := { maxStack := 0, maxLocals := 1, code := object_method_1_code, exceptionTable := #[], attributes := #[] }
def k0m0 : Method := { name := "<init>", desc := "()V", sig := { parameters := [], returnType := none }, accessFlags := 1, code := some k0c0 }
/-- java/lang/Object -/
def k0 : Class := { plain "java/lang/Object" none with
  accessFlags := 33
  interfaces := #[]
  cf := some (fileOf pool0 8 #[] #[{ accessFlags := 1, nameIndex := 5, descriptorIndex := 6, attributes := #[] }] 33 0 #[] #[])
  fields := #[]
  methods := #[k0m0]
  instanceTypes := #[]
  staticTypes := #[]
  resolved := Array.replicate 124 none
  statics := none }

def pool1 : Array CpInfo := pool [(2, .class_ 4), (1, u "java/lang/Object"), (0, u "<init>"), (0, u "()V"), (0, .fieldref 8 9), (0, .class_ 10), (0, .nameAndType 11 12), (0, u "com/example/vetted_ledger/vettedledger/engine/BillingAlignment"), (0, u "ACCOUNT"), (0, u "Lcom/example/vetted_ledger/vettedledger/engine/BillingAlignment;"), (0, .fieldref 8 14), (0, .nameAndType 15 12), (0, u "SUBSCRIPTION"), (0, .methodref 17 18), (0, .class_ 19), (0, .nameAndType 20 21), (0, u "java/lang/Integer"), (0, u "valueOf"), (0, u "(I)Ljava/lang/Integer;"), (0, .methodref 8 23), (0, .nameAndType 24 25), (0, u "subscriptionDay"), (0, u "(Ljava/lang/Integer;Ljava/lang/Integer;)Ljava/lang/Integer;"), (0, .methodref 17 27), (0, .nameAndType 28 29), (0, u "intValue"), (0, u "()I"), (0, .class_ 31), (0, u "com/example/vetted_ledger/vettedledger/engine/BillingAlignmentSubscriptionDayPinLaw"), (2, u "law"), (0, u "(IIII)Z")] 3

def k1m0 : Method := { name := "<init>", desc := "()V", sig := { parameters := [], returnType := none }, accessFlags := 1, code := none }
def k1c1 : Code := { maxStack := 3, maxLocals := 12, code := code, exceptionTable := #[], attributes := #[] }
def k1m1 : Method := { name := "law", desc := "(IIII)Z", sig := { parameters := [.int, .int, .int, .int], returnType := some .boolean }, accessFlags := 9, code := some k1c1 }
/-- com/example/vetted_ledger/vettedledger/engine/BillingAlignmentSubscriptionDayPinLaw -/
def k1 : Class := { plain "com/example/vetted_ledger/vettedledger/engine/BillingAlignmentSubscriptionDayPinLaw" (some 0) with
  accessFlags := 49
  interfaces := #[]
  cf := some (fileOf pool1 30 #[] #[{ accessFlags := 1, nameIndex := 5, descriptorIndex := 6, attributes := #[] }, { accessFlags := 9, nameIndex := 34, descriptorIndex := 35, attributes := #[] }] 49 2 #[] #[])
  fields := #[]
  methods := #[k1m0, k1m1]
  instanceTypes := #[]
  staticTypes := #[]
  resolved := Array.replicate 39 none
  statics := none }

def pool2 : Array CpInfo := pool [(1, .class_ 2), (0, u "java/lang/constant/Constable"), (0, .class_ 4), (0, u "java/lang/Object")] 6

/-- java/lang/constant/Constable -/
def k2 : Class := { plain "java/lang/constant/Constable" (some 0) with
  accessFlags := 1537
  interfaces := #[]
  cf := some (fileOf pool2 1 #[] #[] 1537 3 #[] #[])
  fields := #[]
  methods := #[]
  instanceTypes := #[]
  staticTypes := #[]
  resolved := Array.replicate 11 none
  statics := none }

def pool3 : Array CpInfo := pool [(1, .class_ 2), (0, u "java/lang/Comparable"), (0, .class_ 4), (0, u "java/lang/Object")] 7

/-- java/lang/Comparable -/
def k3 : Class := { plain "java/lang/Comparable" (some 0) with
  accessFlags := 1537
  interfaces := #[]
  cf := some (fileOf pool3 1 #[] #[] 1537 3 #[] #[])
  fields := #[]
  methods := #[]
  instanceTypes := #[]
  staticTypes := #[]
  resolved := Array.replicate 12 none
  statics := none }

def pool4 : Array CpInfo := pool [(1, .class_ 2), (0, u "java/io/Serializable"), (0, .class_ 4), (0, u "java/lang/Object")] 2

/-- java/io/Serializable -/
def k4 : Class := { plain "java/io/Serializable" (some 0) with
  accessFlags := 1537
  interfaces := #[]
  cf := some (fileOf pool4 1 #[] #[] 1537 3 #[] #[])
  fields := #[]
  methods := #[]
  instanceTypes := #[]
  staticTypes := #[]
  resolved := Array.replicate 7 none
  statics := none }

def pool5 : Array CpInfo := pool [(2, .class_ 4), (1, u "java/lang/Enum"), (0, u "name"), (0, u "Ljava/lang/String;"), (2, u "ordinal"), (0, u "I"), (1, .class_ 14), (1, u "java/lang/Object"), (4, u "hash"), (86, .class_ 108), (1, u "java/lang/Enum$EnumDesc"), (2, .class_ 112), (0, u "java/lang/constant/Constable"), (0, .class_ 114), (0, u "java/lang/Comparable"), (0, .class_ 116), (0, u "java/io/Serializable")] 87

/-- java/lang/Enum -/
def k5 : Class := { plain "java/lang/Enum" (some 0) with
  accessFlags := 1057
  interfaces := #[2, 3, 4]
  cf := some (fileOf pool5 2 #[.nestMembers #[106]] #[] 1057 12 #[111, 113, 115] #[{ accessFlags := 18, nameIndex := 5, descriptorIndex := 6, attributes := #[] }, { accessFlags := 18, nameIndex := 9, descriptorIndex := 10, attributes := #[] }, { accessFlags := 2, nameIndex := 19, descriptorIndex := 10, attributes := #[] }])
  fields := #[{ name := "name", type := (.object "java/lang/String"), accessFlags := 18, slot := 0, constantValue := 0 }, { name := "ordinal", type := .int, accessFlags := 18, slot := 1, constantValue := 0 }, { name := "hash", type := .int, accessFlags := 2, slot := 2, constantValue := 0 }]
  methods := #[]
  instanceTypes := #[(.object "java/lang/String"), .int, .int]
  staticTypes := #[]
  resolved := Array.replicate 204 none
  statics := none }

def pool6 : Array CpInfo := pool [(1, .class_ 2), (0, u "com/example/vetted_ledger/vettedledger/engine/BillingAlignment"), (0, .fieldref 1 4), (0, .nameAndType 5 6), (0, u "ACCOUNT"), (0, u "Lcom/example/vetted_ledger/vettedledger/engine/BillingAlignment;"), (2, u "SUBSCRIPTION"), (2, u "$VALUES"), (0, u "[Lcom/example/vetted_ledger/vettedledger/engine/BillingAlignment;"), (6, .class_ 22), (1, u "java/lang/Enum"), (20, u "subscriptionDay"), (0, u "(Ljava/lang/Integer;Ljava/lang/Integer;)Ljava/lang/Integer;")] 8

def k6c0 : Code := { maxStack := 2, maxLocals := 4, code := prog_2_method_4_code, exceptionTable := #[], attributes := #[] }
def k6m0 : Method := { name := "subscriptionDay", desc := "(Ljava/lang/Integer;Ljava/lang/Integer;)Ljava/lang/Integer;", sig := { parameters := [(.object "java/lang/Integer"), (.object "java/lang/Integer")], returnType := some (.object "java/lang/Integer") }, accessFlags := 1, code := some k6c0 }
/-- com/example/vetted_ledger/vettedledger/engine/BillingAlignment -/
def k6 : Class := { plain "com/example/vetted_ledger/vettedledger/engine/BillingAlignment" (some 5) with
  accessFlags := 16433
  interfaces := #[]
  cf := some (fileOf pool6 1 #[] #[{ accessFlags := 1, nameIndex := 43, descriptorIndex := 44, attributes := #[] }] 16433 20 #[] #[{ accessFlags := 16409, nameIndex := 5, descriptorIndex := 6, attributes := #[] }, { accessFlags := 16409, nameIndex := 9, descriptorIndex := 6, attributes := #[] }, { accessFlags := 4122, nameIndex := 12, descriptorIndex := 13, attributes := #[] }])
  fields := #[{ name := "ACCOUNT", type := (.object "com/example/vetted_ledger/vettedledger/engine/BillingAlignment"), accessFlags := 16409, slot := 0, constantValue := 0 }, { name := "SUBSCRIPTION", type := (.object "com/example/vetted_ledger/vettedledger/engine/BillingAlignment"), accessFlags := 16409, slot := 1, constantValue := 0 }, { name := "$VALUES", type := (.array (.object "com/example/vetted_ledger/vettedledger/engine/BillingAlignment")), accessFlags := 4122, slot := 2, constantValue := 0 }]
  methods := #[k6m0]
  instanceTypes := #[(.object "java/lang/String"), .int, .int]
  staticTypes := #[(.object "com/example/vetted_ledger/vettedledger/engine/BillingAlignment"), (.object "com/example/vetted_ledger/vettedledger/engine/BillingAlignment"), (.array (.object "com/example/vetted_ledger/vettedledger/engine/BillingAlignment"))]
  resolved := Array.replicate 53 none
  statics := some 0 }

def pool7 : Array CpInfo := pool [(1, .methodref 2 3), (0, .class_ 4), (0, .nameAndType 5 6), (0, u "java/lang/Object"), (0, u "<init>"), (0, u "()V"), (1, .class_ 10), (1, u "java/lang/Number"), (2, .class_ 14), (0, u "java/io/Serializable"), (0, u "serialVersionUID"), (0, u "J")] 20

def k7c0 : Code := { maxStack := 1, maxLocals := 1, code := jdk_18_method_1_code, exceptionTable := #[], attributes := #[] }
def k7m0 : Method := { name := "<init>", desc := "()V", sig := { parameters := [], returnType := none }, accessFlags := 1, code := some k7c0 }
/-- java/lang/Number -/
def k7 : Class := { plain "java/lang/Number" (some 0) with
  accessFlags := 1057
  interfaces := #[4]
  cf := some (fileOf pool7 8 #[] #[{ accessFlags := 1, nameIndex := 5, descriptorIndex := 6, attributes := #[] }] 1057 2 #[13] #[{ accessFlags := 26, nameIndex := 15, descriptorIndex := 16, attributes := #[] }])
  fields := #[{ name := "serialVersionUID", type := .long, accessFlags := 26, slot := 0, constantValue := 0 }]
  methods := #[k7m0]
  instanceTypes := #[]
  staticTypes := #[.long]
  resolved := Array.replicate 37 none
  statics := none }

def pool8 : Array CpInfo := pool [(1, .class_ 2), (0, u "java/lang/constant/ConstantDesc"), (0, .class_ 4), (0, u "java/lang/Object")] 32

/-- java/lang/constant/ConstantDesc -/
def k8 : Class := { plain "java/lang/constant/ConstantDesc" (some 0) with
  accessFlags := 1537
  interfaces := #[]
  cf := some (fileOf pool8 1 #[] #[] 1537 3 #[] #[])
  fields := #[]
  methods := #[]
  instanceTypes := #[]
  staticTypes := #[]
  resolved := Array.replicate 37 none
  statics := none }

def pool9 : Array CpInfo := pool [(1, .class_ 2), (0, u "java/lang/Integer"), (16, u "digits"), (0, u "[C"), (46, u "<init>"), (17, u "DigitOnes"), (0, u "[B"), (2, u "DigitTens"), (10, .nameAndType 67 101), (0, u "()V"), (19, u "()I"), (65, u "valueOf"), (0, u "(I)Ljava/lang/Integer;"), (0, .class_ 190), (0, u "java/lang/Integer$IntegerCache"), (0, .fieldref 189 192), (0, .nameAndType 193 194), (0, u "high"), (0, u "I"), (0, .fieldref 189 196), (0, .nameAndType 197 198), (0, u "cache"), (0, u "[Ljava/lang/Integer;"), (0, .methodref 1 200), (0, .nameAndType 67 201), (0, u "(I)V"), (0, .methodref 203 100), (0, .class_ 204), (0, u "java/lang/Number"), (0, .fieldref 1 206), (0, .nameAndType 207 194), (0, u "value"), (5, u "intValue"), (88, u "TYPE"), (0, u "Ljava/lang/Class;"), (0, .class_ 305), (0, u "java/lang/Comparable"), (0, .class_ 307), (0, u "java/lang/constant/Constable"), (0, .class_ 309), (0, u "java/lang/constant/ConstantDesc"), (0, u "MIN_VALUE"), (1, u "MAX_VALUE"), (3, u "SIZE"), (1, u "BYTES"), (1, u "serialVersionUID"), (0, u "J")] 131

def k9c0 : Code := { maxStack := 3, maxLocals := 1, code := jdk_33_method_22_code, exceptionTable := #[], attributes := #[] }
def k9m0 : Method := { name := "valueOf", desc := "(I)Ljava/lang/Integer;", sig := { parameters := [.int], returnType := some (.object "java/lang/Integer") }, accessFlags := 9, code := some k9c0 }
def k9c1 : Code := { maxStack := 2, maxLocals := 2, code := jdk_33_method_23_code, exceptionTable := #[], attributes := #[] }
def k9m1 : Method := { name := "<init>", desc := "(I)V", sig := { parameters := [.int], returnType := none }, accessFlags := 1, code := some k9c1 }
def k9c2 : Code := { maxStack := 1, maxLocals := 1, code := jdk_33_method_27_code, exceptionTable := #[], attributes := #[] }
def k9m2 : Method := { name := "intValue", desc := "()I", sig := { parameters := [], returnType := some .int }, accessFlags := 1, code := some k9c2 }
/-- java/lang/Integer -/
def k9 : Class := { plain "java/lang/Integer" (some 7) with
  accessFlags := 49
  interfaces := #[3, 2, 8]
  cf := some (fileOf pool9 1 #[.nestMembers #[189]] #[{ accessFlags := 9, nameIndex := 187, descriptorIndex := 188, attributes := #[] }, { accessFlags := 1, nameIndex := 67, descriptorIndex := 201, attributes := #[] }, { accessFlags := 1, nameIndex := 213, descriptorIndex := 121, attributes := #[] }] 49 203 #[304, 306, 308] #[{ accessFlags := 25, nameIndex := 310, descriptorIndex := 194, attributes := #[] }, { accessFlags := 25, nameIndex := 312, descriptorIndex := 194, attributes := #[] }, { accessFlags := 25, nameIndex := 302, descriptorIndex := 303, attributes := #[] }, { accessFlags := 24, nameIndex := 19, descriptorIndex := 20, attributes := #[] }, { accessFlags := 24, nameIndex := 89, descriptorIndex := 86, attributes := #[] }, { accessFlags := 24, nameIndex := 85, descriptorIndex := 86, attributes := #[] }, { accessFlags := 18, nameIndex := 207, descriptorIndex := 194, attributes := #[] }, { accessFlags := 25, nameIndex := 316, descriptorIndex := 194, attributes := #[] }, { accessFlags := 25, nameIndex := 318, descriptorIndex := 194, attributes := #[] }, { accessFlags := 26, nameIndex := 320, descriptorIndex := 321, attributes := #[] }])
  fields := #[{ name := "MIN_VALUE", type := .int, accessFlags := 25, slot := 0, constantValue := 0 }, { name := "MAX_VALUE", type := .int, accessFlags := 25, slot := 1, constantValue := 0 }, { name := "TYPE", type := (.object "java/lang/Class"), accessFlags := 25, slot := 2, constantValue := 0 }, { name := "digits", type := (.array .char), accessFlags := 24, slot := 3, constantValue := 0 }, { name := "DigitTens", type := (.array .byte), accessFlags := 24, slot := 4, constantValue := 0 }, { name := "DigitOnes", type := (.array .byte), accessFlags := 24, slot := 5, constantValue := 0 }, { name := "value", type := .int, accessFlags := 18, slot := 0, constantValue := 0 }, { name := "SIZE", type := .int, accessFlags := 25, slot := 6, constantValue := 0 }, { name := "BYTES", type := .int, accessFlags := 25, slot := 7, constantValue := 0 }, { name := "serialVersionUID", type := .long, accessFlags := 26, slot := 8, constantValue := 0 }]
  methods := #[k9m0, k9m1, k9m2]
  instanceTypes := #[.int]
  staticTypes := #[.int, .int, (.object "java/lang/Class"), (.array .char), (.array .byte), (.array .byte), .int, .int, .long]
  resolved := Array.replicate 453 none
  statics := none }

def pool10 : Array CpInfo := pool [(2, .class_ 4), (1, u "java/lang/Object"), (0, u "<init>"), (0, u "()V"), (0, .class_ 8), (0, u "java/lang/Integer"), (7, .class_ 18), (1, u "java/lang/Integer$IntegerCache"), (0, u "$assertionsDisabled"), (0, u "Z"), (26, u "high"), (0, u "I"), (8, u "archivedCache"), (0, u "[Ljava/lang/Integer;"), (12, u "cache"), (0, u "low")] 27

def k10m0 : Method := { name := "<init>", desc := "()V", sig := { parameters := [], returnType := none }, accessFlags := 2, code := none }
/-- java/lang/Integer$IntegerCache -/
def k10 : Class := { plain "java/lang/Integer$IntegerCache" (some 0) with
  accessFlags := 48
  interfaces := #[]
  cf := some (fileOf pool10 16 #[.nestHost 7] #[{ accessFlags := 2, nameIndex := 5, descriptorIndex := 6, attributes := #[] }] 48 2 #[] #[{ accessFlags := 24, nameIndex := 72, descriptorIndex := 48, attributes := #[] }, { accessFlags := 24, nameIndex := 47, descriptorIndex := 48, attributes := #[] }, { accessFlags := 24, nameIndex := 71, descriptorIndex := 58, attributes := #[] }, { accessFlags := 8, nameIndex := 57, descriptorIndex := 58, attributes := #[] }, { accessFlags := 4120, nameIndex := 19, descriptorIndex := 20, attributes := #[] }])
  fields := #[{ name := "low", type := .int, accessFlags := 24, slot := 0, constantValue := 0 }, { name := "high", type := .int, accessFlags := 24, slot := 1, constantValue := 0 }, { name := "cache", type := (.array (.object "java/lang/Integer")), accessFlags := 24, slot := 2, constantValue := 0 }, { name := "archivedCache", type := (.array (.object "java/lang/Integer")), accessFlags := 8, slot := 3, constantValue := 0 }, { name := "$assertionsDisabled", type := .boolean, accessFlags := 4120, slot := 4, constantValue := 0 }]
  methods := #[k10m0]
  instanceTypes := #[]
  staticTypes := #[.int, .int, (.array (.object "java/lang/Integer")), (.array (.object "java/lang/Integer")), .boolean]
  resolved := Array.replicate 100 none
  statics := some 1 }

def pool11 : Array CpInfo := pool [(1, u "java/lang/Cloneable"), (0, .class_ 1), (0, u "java/lang/Object"), (0, .class_ 3)] 3

/-- java/lang/Cloneable -/
def k11 : Class := { plain "java/lang/Cloneable" (some 0) with
  accessFlags := 1537
  interfaces := #[]
  cf := some (fileOf pool11 2 #[] #[] 1537 4 #[] #[])
  fields := #[]
  methods := #[]
  instanceTypes := #[]
  staticTypes := #[]
  resolved := Array.replicate 8 none
  statics := none }

/-- the primitive byte -/
def k12 : Class := { plain "byte" none with kind := .primitive 'B', accessFlags := 0x411 }
/-- [B -/
def k13 : Class := { plain "[B" (some 0) with kind := .array 12 .byte, interfaces := #[11, 4], accessFlags := 1041 }

/-- the primitive int -/
def k14 : Class := { plain "int" none with kind := .primitive 'I', accessFlags := 0x411 }
/-- [I -/
def k15 : Class := { plain "[I" (some 0) with kind := .array 14 .int, interfaces := #[11, 4], accessFlags := 1041 }

/-- [Ljava/lang/Integer; -/
def k16 : Class := { plain "[Ljava/lang/Integer;" (some 0) with kind := .array 9 (.object "java/lang/Integer"), interfaces := #[11, 4], accessFlags := 1041 }

def heap : Heap := #[{ cls := 6, slots := #[.ref 3, .ref 4, .null], vm := .statics 6 },
  { cls := 10, slots := #[.int 0, .int 127, .ref 2, .null, .int 0], vm := .statics 10 },
  { cls := 16, slots := #[.ref 5, .ref 6, .ref 7, .ref 8, .ref 9, .ref 10, .ref 11, .ref 12, .ref 13, .ref 14, .ref 15, .ref 16, .ref 17, .ref 18, .ref 19, .ref 20, .ref 21, .ref 22, .ref 23, .ref 24, .ref 25, .ref 26, .ref 27, .ref 28, .ref 29, .ref 30, .ref 31, .ref 32, .ref 33, .ref 34, .ref 35, .ref 36, .ref 37, .ref 38, .ref 39, .ref 40, .ref 41, .ref 42, .ref 43, .ref 44, .ref 45, .ref 46, .ref 47, .ref 48, .ref 49, .ref 50, .ref 51, .ref 52, .ref 53, .ref 54, .ref 55, .ref 56, .ref 57, .ref 58, .ref 59, .ref 60, .ref 61, .ref 62, .ref 63, .ref 64, .ref 65, .ref 66, .ref 67, .ref 68, .ref 69, .ref 70, .ref 71, .ref 72, .ref 73, .ref 74, .ref 75, .ref 76, .ref 77, .ref 78, .ref 79, .ref 80, .ref 81, .ref 82, .ref 83, .ref 84, .ref 85, .ref 86, .ref 87, .ref 88, .ref 89, .ref 90, .ref 91, .ref 92, .ref 93, .ref 94, .ref 95, .ref 96, .ref 97, .ref 98, .ref 99, .ref 100, .ref 101, .ref 102, .ref 103, .ref 104, .ref 105, .ref 106, .ref 107, .ref 108, .ref 109, .ref 110, .ref 111, .ref 112, .ref 113, .ref 114, .ref 115, .ref 116, .ref 117, .ref 118, .ref 119, .ref 120, .ref 121, .ref 122, .ref 123, .ref 124, .ref 125, .ref 126, .ref 127, .ref 128, .ref 129, .ref 130, .ref 131, .ref 132, .ref 133, .ref 134, .ref 135, .ref 136, .ref 137, .ref 138, .ref 139, .ref 140, .ref 141, .ref 142, .ref 143, .ref 144, .ref 145, .ref 146, .ref 147, .ref 148, .ref 149, .ref 150, .ref 151, .ref 152, .ref 153, .ref 154, .ref 155, .ref 156, .ref 157, .ref 158, .ref 159, .ref 160, .ref 161, .ref 162, .ref 163, .ref 164, .ref 165, .ref 166, .ref 167, .ref 168, .ref 169, .ref 170, .ref 171, .ref 172, .ref 173, .ref 174, .ref 175, .ref 176, .ref 177, .ref 178, .ref 179, .ref 180, .ref 181, .ref 182, .ref 183, .ref 184, .ref 185, .ref 186, .ref 187, .ref 188, .ref 189, .ref 190, .ref 191, .ref 192, .ref 193, .ref 194, .ref 195, .ref 196, .ref 197, .ref 198, .ref 199, .ref 200, .ref 201, .ref 202, .ref 203, .ref 204, .ref 205, .ref 206, .ref 207, .ref 208, .ref 209, .ref 210, .ref 211, .ref 212, .ref 213, .ref 214, .ref 215, .ref 216, .ref 217, .ref 218, .ref 219, .ref 220, .ref 221, .ref 222, .ref 223, .ref 224, .ref 225, .ref 226, .ref 227, .ref 228, .ref 229, .ref 230, .ref 231, .ref 232, .ref 233, .ref 234, .ref 235, .ref 236, .ref 237, .ref 238, .ref 239, .ref 240, .ref 241, .ref 242, .ref 243, .ref 244, .ref 245, .ref 246, .ref 247, .ref 248, .ref 249, .ref 250, .ref 251, .ref 252, .ref 253, .ref 254, .ref 255, .ref 256, .ref 257, .ref 258, .ref 259, .ref 260], vm := .none },
  { cls := 6, slots := #[.null, .int (0), .int 0], vm := .none },
  { cls := 6, slots := #[.null, .int (1), .int 0], vm := .none },
  { cls := 9, slots := #[.int (-128)], vm := .none },
  { cls := 9, slots := #[.int (-127)], vm := .none },
  { cls := 9, slots := #[.int (-126)], vm := .none },
  { cls := 9, slots := #[.int (-125)], vm := .none },
  { cls := 9, slots := #[.int (-124)], vm := .none },
  { cls := 9, slots := #[.int (-123)], vm := .none },
  { cls := 9, slots := #[.int (-122)], vm := .none },
  { cls := 9, slots := #[.int (-121)], vm := .none },
  { cls := 9, slots := #[.int (-120)], vm := .none },
  { cls := 9, slots := #[.int (-119)], vm := .none },
  { cls := 9, slots := #[.int (-118)], vm := .none },
  { cls := 9, slots := #[.int (-117)], vm := .none },
  { cls := 9, slots := #[.int (-116)], vm := .none },
  { cls := 9, slots := #[.int (-115)], vm := .none },
  { cls := 9, slots := #[.int (-114)], vm := .none },
  { cls := 9, slots := #[.int (-113)], vm := .none },
  { cls := 9, slots := #[.int (-112)], vm := .none },
  { cls := 9, slots := #[.int (-111)], vm := .none },
  { cls := 9, slots := #[.int (-110)], vm := .none },
  { cls := 9, slots := #[.int (-109)], vm := .none },
  { cls := 9, slots := #[.int (-108)], vm := .none },
  { cls := 9, slots := #[.int (-107)], vm := .none },
  { cls := 9, slots := #[.int (-106)], vm := .none },
  { cls := 9, slots := #[.int (-105)], vm := .none },
  { cls := 9, slots := #[.int (-104)], vm := .none },
  { cls := 9, slots := #[.int (-103)], vm := .none },
  { cls := 9, slots := #[.int (-102)], vm := .none },
  { cls := 9, slots := #[.int (-101)], vm := .none },
  { cls := 9, slots := #[.int (-100)], vm := .none },
  { cls := 9, slots := #[.int (-99)], vm := .none },
  { cls := 9, slots := #[.int (-98)], vm := .none },
  { cls := 9, slots := #[.int (-97)], vm := .none },
  { cls := 9, slots := #[.int (-96)], vm := .none },
  { cls := 9, slots := #[.int (-95)], vm := .none },
  { cls := 9, slots := #[.int (-94)], vm := .none },
  { cls := 9, slots := #[.int (-93)], vm := .none },
  { cls := 9, slots := #[.int (-92)], vm := .none },
  { cls := 9, slots := #[.int (-91)], vm := .none },
  { cls := 9, slots := #[.int (-90)], vm := .none },
  { cls := 9, slots := #[.int (-89)], vm := .none },
  { cls := 9, slots := #[.int (-88)], vm := .none },
  { cls := 9, slots := #[.int (-87)], vm := .none },
  { cls := 9, slots := #[.int (-86)], vm := .none },
  { cls := 9, slots := #[.int (-85)], vm := .none },
  { cls := 9, slots := #[.int (-84)], vm := .none },
  { cls := 9, slots := #[.int (-83)], vm := .none },
  { cls := 9, slots := #[.int (-82)], vm := .none },
  { cls := 9, slots := #[.int (-81)], vm := .none },
  { cls := 9, slots := #[.int (-80)], vm := .none },
  { cls := 9, slots := #[.int (-79)], vm := .none },
  { cls := 9, slots := #[.int (-78)], vm := .none },
  { cls := 9, slots := #[.int (-77)], vm := .none },
  { cls := 9, slots := #[.int (-76)], vm := .none },
  { cls := 9, slots := #[.int (-75)], vm := .none },
  { cls := 9, slots := #[.int (-74)], vm := .none },
  { cls := 9, slots := #[.int (-73)], vm := .none },
  { cls := 9, slots := #[.int (-72)], vm := .none },
  { cls := 9, slots := #[.int (-71)], vm := .none },
  { cls := 9, slots := #[.int (-70)], vm := .none },
  { cls := 9, slots := #[.int (-69)], vm := .none },
  { cls := 9, slots := #[.int (-68)], vm := .none },
  { cls := 9, slots := #[.int (-67)], vm := .none },
  { cls := 9, slots := #[.int (-66)], vm := .none },
  { cls := 9, slots := #[.int (-65)], vm := .none },
  { cls := 9, slots := #[.int (-64)], vm := .none },
  { cls := 9, slots := #[.int (-63)], vm := .none },
  { cls := 9, slots := #[.int (-62)], vm := .none },
  { cls := 9, slots := #[.int (-61)], vm := .none },
  { cls := 9, slots := #[.int (-60)], vm := .none },
  { cls := 9, slots := #[.int (-59)], vm := .none },
  { cls := 9, slots := #[.int (-58)], vm := .none },
  { cls := 9, slots := #[.int (-57)], vm := .none },
  { cls := 9, slots := #[.int (-56)], vm := .none },
  { cls := 9, slots := #[.int (-55)], vm := .none },
  { cls := 9, slots := #[.int (-54)], vm := .none },
  { cls := 9, slots := #[.int (-53)], vm := .none },
  { cls := 9, slots := #[.int (-52)], vm := .none },
  { cls := 9, slots := #[.int (-51)], vm := .none },
  { cls := 9, slots := #[.int (-50)], vm := .none },
  { cls := 9, slots := #[.int (-49)], vm := .none },
  { cls := 9, slots := #[.int (-48)], vm := .none },
  { cls := 9, slots := #[.int (-47)], vm := .none },
  { cls := 9, slots := #[.int (-46)], vm := .none },
  { cls := 9, slots := #[.int (-45)], vm := .none },
  { cls := 9, slots := #[.int (-44)], vm := .none },
  { cls := 9, slots := #[.int (-43)], vm := .none },
  { cls := 9, slots := #[.int (-42)], vm := .none },
  { cls := 9, slots := #[.int (-41)], vm := .none },
  { cls := 9, slots := #[.int (-40)], vm := .none },
  { cls := 9, slots := #[.int (-39)], vm := .none },
  { cls := 9, slots := #[.int (-38)], vm := .none },
  { cls := 9, slots := #[.int (-37)], vm := .none },
  { cls := 9, slots := #[.int (-36)], vm := .none },
  { cls := 9, slots := #[.int (-35)], vm := .none },
  { cls := 9, slots := #[.int (-34)], vm := .none },
  { cls := 9, slots := #[.int (-33)], vm := .none },
  { cls := 9, slots := #[.int (-32)], vm := .none },
  { cls := 9, slots := #[.int (-31)], vm := .none },
  { cls := 9, slots := #[.int (-30)], vm := .none },
  { cls := 9, slots := #[.int (-29)], vm := .none },
  { cls := 9, slots := #[.int (-28)], vm := .none },
  { cls := 9, slots := #[.int (-27)], vm := .none },
  { cls := 9, slots := #[.int (-26)], vm := .none },
  { cls := 9, slots := #[.int (-25)], vm := .none },
  { cls := 9, slots := #[.int (-24)], vm := .none },
  { cls := 9, slots := #[.int (-23)], vm := .none },
  { cls := 9, slots := #[.int (-22)], vm := .none },
  { cls := 9, slots := #[.int (-21)], vm := .none },
  { cls := 9, slots := #[.int (-20)], vm := .none },
  { cls := 9, slots := #[.int (-19)], vm := .none },
  { cls := 9, slots := #[.int (-18)], vm := .none },
  { cls := 9, slots := #[.int (-17)], vm := .none },
  { cls := 9, slots := #[.int (-16)], vm := .none },
  { cls := 9, slots := #[.int (-15)], vm := .none },
  { cls := 9, slots := #[.int (-14)], vm := .none },
  { cls := 9, slots := #[.int (-13)], vm := .none },
  { cls := 9, slots := #[.int (-12)], vm := .none },
  { cls := 9, slots := #[.int (-11)], vm := .none },
  { cls := 9, slots := #[.int (-10)], vm := .none },
  { cls := 9, slots := #[.int (-9)], vm := .none },
  { cls := 9, slots := #[.int (-8)], vm := .none },
  { cls := 9, slots := #[.int (-7)], vm := .none },
  { cls := 9, slots := #[.int (-6)], vm := .none },
  { cls := 9, slots := #[.int (-5)], vm := .none },
  { cls := 9, slots := #[.int (-4)], vm := .none },
  { cls := 9, slots := #[.int (-3)], vm := .none },
  { cls := 9, slots := #[.int (-2)], vm := .none },
  { cls := 9, slots := #[.int (-1)], vm := .none },
  { cls := 9, slots := #[.int (0)], vm := .none },
  { cls := 9, slots := #[.int (1)], vm := .none },
  { cls := 9, slots := #[.int (2)], vm := .none },
  { cls := 9, slots := #[.int (3)], vm := .none },
  { cls := 9, slots := #[.int (4)], vm := .none },
  { cls := 9, slots := #[.int (5)], vm := .none },
  { cls := 9, slots := #[.int (6)], vm := .none },
  { cls := 9, slots := #[.int (7)], vm := .none },
  { cls := 9, slots := #[.int (8)], vm := .none },
  { cls := 9, slots := #[.int (9)], vm := .none },
  { cls := 9, slots := #[.int (10)], vm := .none },
  { cls := 9, slots := #[.int (11)], vm := .none },
  { cls := 9, slots := #[.int (12)], vm := .none },
  { cls := 9, slots := #[.int (13)], vm := .none },
  { cls := 9, slots := #[.int (14)], vm := .none },
  { cls := 9, slots := #[.int (15)], vm := .none },
  { cls := 9, slots := #[.int (16)], vm := .none },
  { cls := 9, slots := #[.int (17)], vm := .none },
  { cls := 9, slots := #[.int (18)], vm := .none },
  { cls := 9, slots := #[.int (19)], vm := .none },
  { cls := 9, slots := #[.int (20)], vm := .none },
  { cls := 9, slots := #[.int (21)], vm := .none },
  { cls := 9, slots := #[.int (22)], vm := .none },
  { cls := 9, slots := #[.int (23)], vm := .none },
  { cls := 9, slots := #[.int (24)], vm := .none },
  { cls := 9, slots := #[.int (25)], vm := .none },
  { cls := 9, slots := #[.int (26)], vm := .none },
  { cls := 9, slots := #[.int (27)], vm := .none },
  { cls := 9, slots := #[.int (28)], vm := .none },
  { cls := 9, slots := #[.int (29)], vm := .none },
  { cls := 9, slots := #[.int (30)], vm := .none },
  { cls := 9, slots := #[.int (31)], vm := .none },
  { cls := 9, slots := #[.int (32)], vm := .none },
  { cls := 9, slots := #[.int (33)], vm := .none },
  { cls := 9, slots := #[.int (34)], vm := .none },
  { cls := 9, slots := #[.int (35)], vm := .none },
  { cls := 9, slots := #[.int (36)], vm := .none },
  { cls := 9, slots := #[.int (37)], vm := .none },
  { cls := 9, slots := #[.int (38)], vm := .none },
  { cls := 9, slots := #[.int (39)], vm := .none },
  { cls := 9, slots := #[.int (40)], vm := .none },
  { cls := 9, slots := #[.int (41)], vm := .none },
  { cls := 9, slots := #[.int (42)], vm := .none },
  { cls := 9, slots := #[.int (43)], vm := .none },
  { cls := 9, slots := #[.int (44)], vm := .none },
  { cls := 9, slots := #[.int (45)], vm := .none },
  { cls := 9, slots := #[.int (46)], vm := .none },
  { cls := 9, slots := #[.int (47)], vm := .none },
  { cls := 9, slots := #[.int (48)], vm := .none },
  { cls := 9, slots := #[.int (49)], vm := .none },
  { cls := 9, slots := #[.int (50)], vm := .none },
  { cls := 9, slots := #[.int (51)], vm := .none },
  { cls := 9, slots := #[.int (52)], vm := .none },
  { cls := 9, slots := #[.int (53)], vm := .none },
  { cls := 9, slots := #[.int (54)], vm := .none },
  { cls := 9, slots := #[.int (55)], vm := .none },
  { cls := 9, slots := #[.int (56)], vm := .none },
  { cls := 9, slots := #[.int (57)], vm := .none },
  { cls := 9, slots := #[.int (58)], vm := .none },
  { cls := 9, slots := #[.int (59)], vm := .none },
  { cls := 9, slots := #[.int (60)], vm := .none },
  { cls := 9, slots := #[.int (61)], vm := .none },
  { cls := 9, slots := #[.int (62)], vm := .none },
  { cls := 9, slots := #[.int (63)], vm := .none },
  { cls := 9, slots := #[.int (64)], vm := .none },
  { cls := 9, slots := #[.int (65)], vm := .none },
  { cls := 9, slots := #[.int (66)], vm := .none },
  { cls := 9, slots := #[.int (67)], vm := .none },
  { cls := 9, slots := #[.int (68)], vm := .none },
  { cls := 9, slots := #[.int (69)], vm := .none },
  { cls := 9, slots := #[.int (70)], vm := .none },
  { cls := 9, slots := #[.int (71)], vm := .none },
  { cls := 9, slots := #[.int (72)], vm := .none },
  { cls := 9, slots := #[.int (73)], vm := .none },
  { cls := 9, slots := #[.int (74)], vm := .none },
  { cls := 9, slots := #[.int (75)], vm := .none },
  { cls := 9, slots := #[.int (76)], vm := .none },
  { cls := 9, slots := #[.int (77)], vm := .none },
  { cls := 9, slots := #[.int (78)], vm := .none },
  { cls := 9, slots := #[.int (79)], vm := .none },
  { cls := 9, slots := #[.int (80)], vm := .none },
  { cls := 9, slots := #[.int (81)], vm := .none },
  { cls := 9, slots := #[.int (82)], vm := .none },
  { cls := 9, slots := #[.int (83)], vm := .none },
  { cls := 9, slots := #[.int (84)], vm := .none },
  { cls := 9, slots := #[.int (85)], vm := .none },
  { cls := 9, slots := #[.int (86)], vm := .none },
  { cls := 9, slots := #[.int (87)], vm := .none },
  { cls := 9, slots := #[.int (88)], vm := .none },
  { cls := 9, slots := #[.int (89)], vm := .none },
  { cls := 9, slots := #[.int (90)], vm := .none },
  { cls := 9, slots := #[.int (91)], vm := .none },
  { cls := 9, slots := #[.int (92)], vm := .none },
  { cls := 9, slots := #[.int (93)], vm := .none },
  { cls := 9, slots := #[.int (94)], vm := .none },
  { cls := 9, slots := #[.int (95)], vm := .none },
  { cls := 9, slots := #[.int (96)], vm := .none },
  { cls := 9, slots := #[.int (97)], vm := .none },
  { cls := 9, slots := #[.int (98)], vm := .none },
  { cls := 9, slots := #[.int (99)], vm := .none },
  { cls := 9, slots := #[.int (100)], vm := .none },
  { cls := 9, slots := #[.int (101)], vm := .none },
  { cls := 9, slots := #[.int (102)], vm := .none },
  { cls := 9, slots := #[.int (103)], vm := .none },
  { cls := 9, slots := #[.int (104)], vm := .none },
  { cls := 9, slots := #[.int (105)], vm := .none },
  { cls := 9, slots := #[.int (106)], vm := .none },
  { cls := 9, slots := #[.int (107)], vm := .none },
  { cls := 9, slots := #[.int (108)], vm := .none },
  { cls := 9, slots := #[.int (109)], vm := .none },
  { cls := 9, slots := #[.int (110)], vm := .none },
  { cls := 9, slots := #[.int (111)], vm := .none },
  { cls := 9, slots := #[.int (112)], vm := .none },
  { cls := 9, slots := #[.int (113)], vm := .none },
  { cls := 9, slots := #[.int (114)], vm := .none },
  { cls := 9, slots := #[.int (115)], vm := .none },
  { cls := 9, slots := #[.int (116)], vm := .none },
  { cls := 9, slots := #[.int (117)], vm := .none },
  { cls := 9, slots := #[.int (118)], vm := .none },
  { cls := 9, slots := #[.int (119)], vm := .none },
  { cls := 9, slots := #[.int (120)], vm := .none },
  { cls := 9, slots := #[.int (121)], vm := .none },
  { cls := 9, slots := #[.int (122)], vm := .none },
  { cls := 9, slots := #[.int (123)], vm := .none },
  { cls := 9, slots := #[.int (124)], vm := .none },
  { cls := 9, slots := #[.int (125)], vm := .none },
  { cls := 9, slots := #[.int (126)], vm := .none },
  { cls := 9, slots := #[.int (127)], vm := .none }]
def classes : Array Class := #[k0, k1, k2, k3, k4, k5, k6, k7, k8, k9, k10, k11, k12, k13, k14, k15, k16]
def interned : List (Array UInt16 × Addr) := []
def slotsUsed : Nat := 526
def theMethod : MethodId := ⟨1, 1⟩
def args0 : Array Value := #[.int 5, .int 6, .int 7, .int 0]
def aboutOver (below : List Frame) : State where
  vm := { classes := classes, interned := interned.toArray }
  heap := heap
  slotsUsed := slotsUsed
  threads := #[{ frames := .invoking theMethod args0 :: below }]
def below0 : List Frame := [.native { method := ⟨0, 0⟩, args := #[] }]
def about1 : State := aboutOver below0
def p0 : Program := .bare "" "" ""
def e0 : Env := launch0.env 0 0 0
theorem w_frames : about1.frames = Frame.invoking theMethod args0 :: below0 := rfl
set_option maxRecDepth 65536 in
theorem w_args : argsFit about1.vm theMethod args0 = true := by decide +kernel
set_option maxRecDepth 65536 in
theorem w_heap : heapFits about1 = true := by decide +kernel
set_option maxRecDepth 65536 in
theorem w_runnable : about1.curStatus? = some .runnable := by decide +kernel
set_option maxRecDepth 65536 in
theorem w_alone : about1.alone = true := by decide +kernel
set_option maxRecDepth 65536 in
theorem w_named : about1.methodNamed? x = some theMethod := by decide +kernel
set_option maxRecDepth 65536 in
theorem w_hears : about1.hears theMethod below0 = true := by decide +kernel
set_option maxRecDepth 65536 in
theorem w_ripe : about1.ripe theMethod args0 below0 = true := by decide +kernel
theorem w_running : about1.status = .running := rfl
set_option maxRecDepth 65536 in
theorem w_room : about1.hasRoom e0.platform room_1 = true :=
  launch0.hasRoom_least _ room_1 (by decide +kernel) (by decide +kernel) (by decide +kernel) (by decide +kernel) (by decide +kernel) (by decide +kernel)
theorem allAtoms_all (ts : List Jvm.Cond) (a : Array Jvm.Value) (st : Jvm.State) : (allAtoms ts).before a st = ts.all (fun c => c.before a st) := by
  induction ts with
  | nil => rfl
  | cons c t ih =>
    show (Jvm.Cond.and c (allAtoms t)).before a st = _
    rw [Jvm.Cond.before_and, ih, List.all_cons]
def words1 : List Jvm.Cond := Jvm.Cond.code x code maxLocals ret :: tables_1
/-- a 'code' word, met by the world's own term for the bytes: nothing is compared byte by byte -/
theorem code_word {y : MethodName} {bytes : ByteArray} {mx : Nat} {rt : Option FieldType} {a : Array Value} {s : State} {m : MethodId} {meth : Method} {c : Code} (h1 : s.methodNamed? y = some m) (h2 : s.vm.method? m = some meth) (h3 : meth.code = some c) (h4 : c.code = bytes)
    (h5 : (c.maxLocals == mx && c.exceptionTable.isEmpty && decide (c.maxStack ≤ mostOperands) && decide (meth.sig.returnType = rt) && !meth.locks && decide (parseMethodDescriptor y.desc = some meth.sig)) = true) : (Jvm.Cond.code y bytes mx rt).before a s = true := by
  simp only [Bool.and_eq_true, beq_iff_eq, Bool.not_eq_true', decide_eq_true_eq] at h5
  obtain ⟨⟨⟨⟨⟨g1, g2⟩, g3⟩, g4⟩, g5⟩, g6⟩ := h5
  simp [Cond.before, Cond.holds, Cond.value, h1, h2, h3, h4, g1, g2, g3, g4, g5, g6]
def isCode : Jvm.Cond → Bool
  | .code _ _ _ _ => true
  | _ => false
theorem all_split {L : List Jvm.Cond} {P : Jvm.Cond → Bool} (h1 : L.all (fun c => isCode c || P c) = true) (h2 : ∀ c ∈ L.filter isCode, P c = true) : L.all P = true := by
  refine List.all_eq_true.mpr fun c hc => ?_
  have h := List.all_eq_true.mp h1 c hc
  rcases Bool.eq_false_or_eq_true (isCode c) with hi | hi
  · exact h2 c (List.mem_filter.mpr ⟨hc, hi⟩)
  · simpa [hi] using h
set_option maxRecDepth 65536 in
theorem w_c0 : (Jvm.Cond.code x code maxLocals ret).before args0 about1 = true := code_word (m := ⟨1, 1⟩) (meth := k1m1) (c := k1c1) (by decide +kernel) rfl rfl rfl (by decide +kernel)
set_option maxRecDepth 65536 in
theorem w_c1 : (Jvm.Cond.code ({ cls := "java/lang/Integer", name := "valueOf", desc := "(I)Ljava/lang/Integer;" } : Jvm.MethodName) jdk_33_method_22_code (1 : Nat) (Option.some (Jvm.ClassFile.FieldType.object "java/lang/Integer"))).before args0 about1 = true := code_word (m := ⟨9, 0⟩) (meth := k9m0) (c := k9c0) (by decide +kernel) rfl rfl rfl (by decide +kernel)
set_option maxRecDepth 65536 in
theorem w_c2 : (Jvm.Cond.code ({ cls := "com/example/vetted_ledger/vettedledger/engine/BillingAlignment", name := "subscriptionDay", desc := "(Ljava/lang/Integer;Ljava/lang/Integer;)Ljava/lang/Integer;" } : Jvm.MethodName) prog_2_method_4_code (4 : Nat) (Option.some (Jvm.ClassFile.FieldType.object "java/lang/Integer"))).before args0 about1 = true := code_word (m := ⟨6, 0⟩) (meth := k6m0) (c := k6c0) (by decide +kernel) rfl rfl rfl (by decide +kernel)
set_option maxRecDepth 65536 in
theorem w_c3 : (Jvm.Cond.code ({ cls := "java/lang/Integer", name := "intValue", desc := "()I" } : Jvm.MethodName) jdk_33_method_27_code (1 : Nat) (Option.some Jvm.ClassFile.FieldType.int)).before args0 about1 = true := code_word (m := ⟨9, 2⟩) (meth := k9m2) (c := k9c2) (by decide +kernel) rfl rfl rfl (by decide +kernel)
set_option maxRecDepth 65536 in
theorem w_c4 : (Jvm.Cond.code ({ cls := "java/lang/Integer", name := "<init>", desc := "(I)V" } : Jvm.MethodName) jdk_33_method_23_code (2 : Nat) (Option.none : Option Jvm.ClassFile.FieldType)).before args0 about1 = true := code_word (m := ⟨9, 1⟩) (meth := k9m1) (c := k9c1) (by decide +kernel) rfl rfl rfl (by decide +kernel)
set_option maxRecDepth 65536 in
theorem w_c5 : (Jvm.Cond.code ({ cls := "java/lang/Number", name := "<init>", desc := "()V" } : Jvm.MethodName) jdk_18_method_1_code (1 : Nat) (Option.none : Option Jvm.ClassFile.FieldType)).before args0 about1 = true := code_word (m := ⟨7, 0⟩) (meth := k7m0) (c := k7c0) (by decide +kernel) rfl rfl rfl (by decide +kernel)
set_option maxRecDepth 65536 in
theorem w_c6 : (Jvm.Cond.code ({ cls := "java/lang/Object", name := "<init>", desc := "()V" } : Jvm.MethodName) object_method_1_code (1 : Nat) (Option.none : Option Jvm.ClassFile.FieldType)).before args0 about1 = true := code_word (m := ⟨0, 0⟩) (meth := k0m0) (c := k0c0) (by decide +kernel) rfl rfl rfl (by decide +kernel)
def codes1 : List Jvm.Cond := [Jvm.Cond.code x code maxLocals ret, Jvm.Cond.code ({ cls := "java/lang/Integer", name := "valueOf", desc := "(I)Ljava/lang/Integer;" } : Jvm.MethodName) jdk_33_method_22_code (1 : Nat) (Option.some (Jvm.ClassFile.FieldType.object "java/lang/Integer")), Jvm.Cond.code ({ cls := "com/example/vetted_ledger/vettedledger/engine/BillingAlignment", name := "subscriptionDay", desc := "(Ljava/lang/Integer;Ljava/lang/Integer;)Ljava/lang/Integer;" } : Jvm.MethodName) prog_2_method_4_code (4 : Nat) (Option.some (Jvm.ClassFile.FieldType.object "java/lang/Integer")), Jvm.Cond.code ({ cls := "java/lang/Integer", name := "intValue", desc := "()I" } : Jvm.MethodName) jdk_33_method_27_code (1 : Nat) (Option.some Jvm.ClassFile.FieldType.int), Jvm.Cond.code ({ cls := "java/lang/Integer", name := "<init>", desc := "(I)V" } : Jvm.MethodName) jdk_33_method_23_code (2 : Nat) (Option.none : Option Jvm.ClassFile.FieldType), Jvm.Cond.code ({ cls := "java/lang/Number", name := "<init>", desc := "()V" } : Jvm.MethodName) jdk_18_method_1_code (1 : Nat) (Option.none : Option Jvm.ClassFile.FieldType), Jvm.Cond.code ({ cls := "java/lang/Object", name := "<init>", desc := "()V" } : Jvm.MethodName) object_method_1_code (1 : Nat) (Option.none : Option Jvm.ClassFile.FieldType)]
set_option maxRecDepth 65536 in
theorem codes_eq : words1.filter isCode = codes1 := rfl
theorem w_codes : ∀ c ∈ words1.filter isCode, c.before args0 about1 = true := by
  rw [codes_eq]
  intro c hc
  simp only [codes1, List.mem_cons, List.not_mem_nil, or_false] at hc
  rcases hc with rfl | rfl | rfl | rfl | rfl | rfl | rfl
  · exact w_c0
  · exact w_c1
  · exact w_c2
  · exact w_c3
  · exact w_c4
  · exact w_c5
  · exact w_c6
set_option maxRecDepth 65536 in
theorem w_t1 : (words1.take 24).all (fun c => isCode c || c.before args0 about1) = true := by decide +kernel
set_option maxRecDepth 65536 in
theorem w_t2 : (words1.drop 24).all (fun c => isCode c || c.before args0 about1) = true := by decide +kernel
theorem w_tables : (allAtoms (Jvm.Cond.code x code maxLocals ret :: tables_1)).before args0 about1 = true := by
  rw [allAtoms_all]
  show words1.all (fun c => c.before args0 about1) = true
  refine all_split ?_ w_codes
  rw [← List.take_append_drop 24 words1, List.all_append, w_t1, w_t2]
  rfl
set_option maxRecDepth 65536 in
theorem w_rest : rest_1_c.before args0 about1 = true := by decide +kernel
set_option maxRecDepth 65536 in
theorem w_case : (Jvm.Cond.and given_1 narrow_1).before args0 about1 = true := by decide +kernel
theorem w_applies : (headSpec (Jvm.Cond.code x code maxLocals ret :: tables_1) room_1).applies x e0.platform about1 = true :=
  (Spec.applies_iff w_frames).mpr ⟨w_running, w_runnable, w_alone, w_named, w_hears, w_ripe, w_room, w_tables⟩
theorem atStart : AtStart classFile x code maxLocals ret World_1 tables_1 room_1 Calls_1 rest_1 Pre_1 launch0 p0 e0 about1 theMethod args0 below0 :=
  ⟨lists_1, trivial, launch0.admits_env _ _ _, launch0.least_env, fairChoices_fair.cas, fairChoices_fair.clock, w_frames, w_args, w_heap, w_applies, trivial, w_rest, w_case⟩
end start1
theorem witness_1 : WitnessClaimed_1 := ⟨start1.p0, start1.e0, start1.about1, start1.theMethod, start1.args0, start1.below0, start1.atStart⟩
end Jvm.Pilot.@@N@@
