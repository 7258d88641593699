import JvmDerived
import JvmDerived.Pilot.@@N@@Statement
import JvmDerived.Pilot.@@N@@Code
set_option linter.unusedVariables false
set_option linter.unusedSimpArgs false
namespace Jvm.RoadKit
open Sem ClassFile Op Lib Jvm.Stand Jvm.Free Jvm.LawKit
section New
variable {p : Program} {l : Launch} {e : Env} {R : Room} {s : State} {m : MethodId} {args : Array Value} {below : List Frame} {meth : Method} {c : Code} {T : State} {locs : List Loc} {cells slots : Nat}
theorem retI (X : Stand p l e R s m args below meth c T locs cells slots) (hx : p.tables.exec = Jvm.exec) {pc : Nat} {Ls : Array Slot} {z : Int32} {rest : List Value} (hret : meth.sig.returnType = some .int) (hd : decode c.code pc = .ok (.ireturn, 1)) {fs : List Frame}
    (hl : ∀ (f : JFrame) (acts : List Action), f.method = m → f.locked = none → f.entered = [] → (doReturn e (T.setTop f) acts (some (.int z))).1 = T.setFrames fs) : Steps p.tables e below (T.setTop (mkF m pc Ls (.int z :: rest))) (T.setFrames fs) :=
  retOut X hx hret rfl (Or.inl ⟨rfl, Or.inl rfl, z, rfl⟩) hd hl
end New
end Jvm.RoadKit
namespace Jvm.Pilot.@@N@@
open Jvm Jvm.ClassFile Sem Op Lib Jvm.Free Jvm.Stand Jvm.LawKit Jvm.RoadKit Bundle Jvm.Pilot.@@N@@.Jvm.D
/-! small laws of this text's own -/
theorem own_eqv {args : Array Value} {first s : State} {o : Option Outcome} {idx : List Nat} {a b : Term} {v : Value} (h : (Jvm.Cond.eq a b).value args first o s idx = some true) (hb : b.eval args first o idx s = some v) : a.eval args first o idx s = some v := by
  cases ha : a.eval args first o idx s with
  | none => simp [Cond.value, ha] at h
  | some x => cases x <;> cases v <;> simp_all [Cond.value]
theorem own_fld {args : Array Value} {s : State} {t b : Term} {x : Addr} {C n d : String} {v : Value} (ht : t.eval args s none [] s = some (.ref x)) (h : (Jvm.Cond.eq (.field t C n d) b).value args s none s [] = some true) (hb : b.eval args s none [] s = some v) : Fld s s.heap x C n d v :=
  Fld.start ((fld_at ht).symm.trans (own_eqv h hb))
theorem own_len {args : Array Value} {s : State} {t : Term} {x : Addr} {c : Cell} {n : Int32} (ht : t.eval args s none [] s = some (.ref x)) (hc : s.heap[x]? = some c) (h : (Jvm.Cond.eq (.length t) (.int n)).value args s none s [] = some true) : c.slots.size < 2 ^ 31 ∧ c.slots.size.toInt32 = n := by
  have e := own_eqv h (v := .int n) rfl
  simp only [Term.eval, ht, Option.bind_eq_bind, Option.bind_some] at e
  cases hq : s.arrayAt? x with
  | none => simp [hq] at e
  | some c' =>
    have h1 := (State.arrayAt?_spec hq).1
    cases hc.symm.trans h1
    simp only [hq, Option.bind_some] at e
    split at e
    · rename_i hl; exact ⟨hl, by simpa using e⟩
    · cases e
theorem own_elem {args : Array Value} {s : State} {t b : Term} {x : Addr} {c : Cell} {j : Int32} {v : Value} (ht : t.eval args s none [] s = some (.ref x)) (hc : s.heap[x]? = some c) (h : (Jvm.Cond.eq (.elem t (.int j)) b).value args s none s [] = some true) (hb : b.eval args s none [] s = some v) : c.slots[j.toNatClampNeg]? = some v :=
  (elem_in (own_eqv h hb) ht rfl hc).2
theorem own_selpriv {y : MethodName} {s : State} {args : Array Value} {n : Nat} (hy : y.cls ≠ "java/lang/invoke/MethodHandle" ∧ y.cls ≠ "java/lang/invoke/VarHandle") (hins : (Jvm.Cond.instantiable y.cls n).before args s = true) (hpriv : (Jvm.Cond.privateMethod y).before args s = true) (hinst : (Jvm.Cond.instanceMethod y).before args s = true) : (Jvm.Cond.selects y.cls y y).before args s = true := by
  obtain ⟨c, k, hc, hk, -, hniab, -, -⟩ := Cond.instantiable_spec hins
  exact Stand.selects_self_of_private hc hk (Bool.or_eq_false_iff.mp hniab).1 (Cond.privateMethod_at hpriv) hinst hy
theorem own_ext {h0 h : Heap} (K : Keep h0 h []) : Ext h0 h := ⟨K.1, fun x c q => K.2.1 x c q (fun z => nomatch z)⟩
theorem own_cat1 {v : Value} (h : v.isRef = true) : v.category = 1 := by cases v <;> first | rfl | simp [Value.isRef] at h
theorem own_narref {t : FieldType} {v : Value} (h : t.isReference = true) (hv : v.isRef = true) : narrow t v = v := by
  cases v <;> first | (simp [Value.isRef] at hv; done) | (cases t <;> first | rfl | simp [FieldType.isReference] at h)
theorem own_store1 {l : Array Slot} {i : Nat} {v : Value} {o : Slot} (hold : l[i]? = some o) (ho : o = .unset ∨ ∃ w, o = .val w ∧ w.category = 1) (hv : v.category = 1) : storeLocals l i v = some (l.setIfInBounds i (.val v)) := XS.store1 hold ho hv
def own_Base (Z : State) (u : Nat → Addr) : Prop :=
  (Sta Z Z.heap "com/example/smazzata/smazzata/card/Rank" "ACE" "Lcom/example/smazzata/smazzata/card/Rank;" (.ref (u 0))) ∧
  (Exa Z Z.heap (u 0) "com/example/smazzata/smazzata/card/Rank") ∧
  (Sta Z Z.heap "com/example/smazzata/smazzata/briscola/Briscola$1" "$SwitchMap$com$example$smazzata$smazzata$card$Rank" "[I" (.ref (u 1))) ∧
  (Sta Z Z.heap "com/example/smazzata/smazzata/card/Rank" "FOUR" "Lcom/example/smazzata/smazzata/card/Rank;" (.ref (u 2))) ∧
  (Exa Z Z.heap (u 2) "com/example/smazzata/smazzata/card/Rank") ∧
  (Sta Z Z.heap "com/example/smazzata/smazzata/card/Rank" "TWO" "Lcom/example/smazzata/smazzata/card/Rank;" (.ref (u 3))) ∧
  (Exa Z Z.heap (u 3) "com/example/smazzata/smazzata/card/Rank") ∧
  (Sta Z Z.heap "com/example/smazzata/smazzata/card/Rank" "FIVE" "Lcom/example/smazzata/smazzata/card/Rank;" (.ref (u 4))) ∧
  (Exa Z Z.heap (u 4) "com/example/smazzata/smazzata/card/Rank") ∧
  (Sta Z Z.heap "com/example/smazzata/smazzata/card/Rank" "JACK" "Lcom/example/smazzata/smazzata/card/Rank;" (.ref (u 5))) ∧
  (Exa Z Z.heap (u 5) "com/example/smazzata/smazzata/card/Rank") ∧
  (Sta Z Z.heap "com/example/smazzata/smazzata/card/Rank" "THREE" "Lcom/example/smazzata/smazzata/card/Rank;" (.ref (u 6))) ∧
  (Exa Z Z.heap (u 6) "com/example/smazzata/smazzata/card/Rank") ∧
  (Sta Z Z.heap "com/example/smazzata/smazzata/card/Rank" "QUEEN" "Lcom/example/smazzata/smazzata/card/Rank;" (.ref (u 7))) ∧
  (Exa Z Z.heap (u 7) "com/example/smazzata/smazzata/card/Rank") ∧
  (Sta Z Z.heap "com/example/smazzata/smazzata/card/Rank" "KING" "Lcom/example/smazzata/smazzata/card/Rank;" (.ref (u 8))) ∧
  (Exa Z Z.heap (u 8) "com/example/smazzata/smazzata/card/Rank") ∧
  (Sta Z Z.heap "com/example/smazzata/smazzata/card/Rank" "SIX" "Lcom/example/smazzata/smazzata/card/Rank;" (.ref (u 9))) ∧
  (Exa Z Z.heap (u 9) "com/example/smazzata/smazzata/card/Rank") ∧
  (Sta Z Z.heap "com/example/smazzata/smazzata/card/Rank" "SEVEN" "Lcom/example/smazzata/smazzata/card/Rank;" (.ref (u 10))) ∧
  (Exa Z Z.heap (u 10) "com/example/smazzata/smazzata/card/Rank") ∧
  (Fld Z Z.heap (u 0) "com/example/smazzata/smazzata/card/Rank" "captureValue" "I" (.int (1 : Int32))) ∧
  (Fld Z Z.heap (u 0) "java/lang/Enum" "ordinal" "I" (.int (0 : Int32))) ∧
  (∃ k, Arv Z Z.heap (u 1) k .int (10 : Int32) [.int (1 : Int32), .int (10 : Int32), .int (2 : Int32), .int (9 : Int32), .int (8 : Int32), .int (7 : Int32), .int (6 : Int32), .int (5 : Int32), .int (4 : Int32), .int (3 : Int32)] (.int (0 : Int32))) ∧
  (Fld Z Z.heap (u 2) "com/example/smazzata/smazzata/card/Rank" "captureValue" "I" (.int (4 : Int32))) ∧
  (Fld Z Z.heap (u 2) "java/lang/Enum" "ordinal" "I" (.int (3 : Int32))) ∧
  (Fld Z Z.heap (u 3) "com/example/smazzata/smazzata/card/Rank" "captureValue" "I" (.int (2 : Int32))) ∧
  (Fld Z Z.heap (u 3) "java/lang/Enum" "ordinal" "I" (.int (1 : Int32))) ∧
  (Fld Z Z.heap (u 4) "com/example/smazzata/smazzata/card/Rank" "captureValue" "I" (.int (5 : Int32))) ∧
  (Fld Z Z.heap (u 4) "java/lang/Enum" "ordinal" "I" (.int (4 : Int32))) ∧
  (Fld Z Z.heap (u 5) "com/example/smazzata/smazzata/card/Rank" "captureValue" "I" (.int (8 : Int32))) ∧
  (Fld Z Z.heap (u 5) "java/lang/Enum" "ordinal" "I" (.int (7 : Int32))) ∧
  (Fld Z Z.heap (u 6) "com/example/smazzata/smazzata/card/Rank" "captureValue" "I" (.int (3 : Int32))) ∧
  (Fld Z Z.heap (u 6) "java/lang/Enum" "ordinal" "I" (.int (2 : Int32))) ∧
  (Fld Z Z.heap (u 7) "com/example/smazzata/smazzata/card/Rank" "captureValue" "I" (.int (9 : Int32))) ∧
  (Fld Z Z.heap (u 7) "java/lang/Enum" "ordinal" "I" (.int (8 : Int32))) ∧
  (Fld Z Z.heap (u 8) "com/example/smazzata/smazzata/card/Rank" "captureValue" "I" (.int (10 : Int32))) ∧
  (Fld Z Z.heap (u 8) "java/lang/Enum" "ordinal" "I" (.int (9 : Int32))) ∧
  (Fld Z Z.heap (u 9) "com/example/smazzata/smazzata/card/Rank" "captureValue" "I" (.int (6 : Int32))) ∧
  (Fld Z Z.heap (u 9) "java/lang/Enum" "ordinal" "I" (.int (5 : Int32))) ∧
  (Fld Z Z.heap (u 10) "com/example/smazzata/smazzata/card/Rank" "captureValue" "I" (.int (7 : Int32))) ∧
  (Fld Z Z.heap (u 10) "java/lang/Enum" "ordinal" "I" (.int (6 : Int32)))
theorem own_pd0 : parseMethodDescriptor "()I" = some ⟨[], some .int⟩ := by decide +kernel
theorem own_pd1 : parseMethodDescriptor "(I)Lcom/example/smazzata/smazzata/card/Rank;" = some ⟨[.int], some (.object "com/example/smazzata/smazzata/card/Rank")⟩ := by decide +kernel
theorem own_pd2 : parseMethodDescriptor "(Lcom/example/smazzata/smazzata/card/Rank;)I" = some ⟨[(.object "com/example/smazzata/smazzata/card/Rank")], some .int⟩ := by decide +kernel
theorem d4_0 : decode jdk_37_method_2_code 0 = .ok (.aload_n 0, 1) := by decide +kernel
theorem d4_1 : decode jdk_37_method_2_code 1 = .ok (.getfield 7, 3) := by decide +kernel
theorem d4_4 : decode jdk_37_method_2_code 4 = .ok (.ireturn, 1) := by decide +kernel
theorem own_pn_4 : plainName "java/lang/Enum" = true := by first | (simp [plainName, overriddenIn]; done) | decide +kernel
theorem own_ef_4 (m : MethodId) (x0 : Addr) : entryFrame m #[(.ref x0)] 1 = mkF m 0 #[.val (.ref x0)] [] := by first | (simp [entryFrame, mkF, argsToLocals, Value.category]; done) | rfl
def own_Q4 (Z : State) (u : Nat → Addr) (r0 : Addr) (w_ordinal_r0 : Int32) (h0 : Heap) (n0 : Nat) (v : Option Value) (h : Heap) (L : List Loc) : Prop := v = some (.int w_ordinal_r0) ∧ Fr n0 L ∧ h = h0
set_option maxRecDepth 65536 in
set_option maxHeartbeats 40000000 in
theorem rm4 (l : Launch) (Z : State) (a0 : Array Value) (hw : ∀ d ∈ tables_1, d.before a0 Z = true) (ws : List Jvm.Cond) (u : Nat → Addr) (r0 : Addr) (w_ordinal_r0 : Int32) (B : own_Base Z u) (h0 : Heap) (n0 : Nat) (O : Old Z n0 h0) (F_w_ordinal_r0 : Fld Z h0 r0 "java/lang/Enum" "ordinal" "I" (.int w_ordinal_r0)) :
    MetFree l (⟨"java/lang/Enum", "ordinal", "()I"⟩ : MethodName) (head1 (Jvm.Cond.code (⟨"java/lang/Enum", "ordinal", "()I"⟩ : MethodName) jdk_37_method_2_code 1 (some .int) :: ws) ({ frames := 0, cells := 0, slots := 0, locals := 0 } : Room)) (fun a U => a = #[(.ref r0)] ∧ Z.Warmed39 U.vm ∧ U.heap = h0) (fun _ _ _ _ _ => True) (fun _ U o U' => ∃ v L, o = .returned v ∧ own_Q4 Z u r0 w_ordinal_r0 h0 n0 v U'.heap L ∧ FrameEnd U o U' L ({ frames := 0, cells := 0, slots := 0, locals := 0 } : Room).cells ({ frames := 0, cells := 0, slots := 0, locals := 0 } : Room).slots) := by
  refine MetFree.of_bodySF (plainFor_of_name own_pn_4) hisR ?_
  intro p e s m args below meth c s₁ Bd hml0 hP hK
  obtain ⟨rfl, hZ, hh⟩ := hP
  have hx := Bd.exec
  have hby := Bd.bytes
  have hml : c.maxLocals = 1 := hml0
  have hown : s.vm.findClass "java/lang/Enum" = some m.cls := findClass_of_methodNamed Bd.named
  have hnm := (name_of_methodNamed Bd.named Bd.method).1
  have X0 : Stand p l e ({ frames := 0, cells := 0, slots := 0, locals := 0 } : Room) s m #[(.ref r0)] below meth c s₁ [] 0 0 := Stand.of_body Bd
  have e0 : s₁.heap = h0 := by rw [← hh, Bd.state]; rfl
  have N0 := Fr.nil n0
  have K0 := Keep.refl h0 []
  have Z0 : n0 ≤ h0.size := O.1 ▸ O.2.1
  have pre0 : ∀ t, Steps p.tables e below (s₁.setTop (mkF m 0 #[.val (.ref r0)] [])) t → Steps p.tables e below (s₁.setTop (entryFrame m #[(.ref r0)] 1)) t := fun t k => castTop (own_ef_4 m r0) k
  obtain ⟨T1, X1, e1, st1⟩ := getF X0 hx hZ hown (host := "") (Or.inl (hw _ (List.mem_of_getElem? (i := 29) rfl))) Via.refl e0 F_w_ordinal_r0 (g := (mkF m 1 #[.val (.ref r0)] [(.ref r0)])) rfl rfl (hb hby d4_1)
  obtain ⟨fs, hr, hrun, hended, hW, hsame⟩ := X1.leave (v := some (.int w_ordinal_r0)) (fun h => by rw [Bd.returns] at h; cases h)
  refine ⟨_, _, pre0 _ ?_, hrun, hended, _, _, rfl, ?_, ⟨_, rfl⟩, hW, hsame.mono (by decide) (by decide)⟩
  · show Steps p.tables e below (s₁.setTop (mkF m 0 #[.val (.ref r0)] [])) _
    refine XS.aloadN X0.here hx rfl (hb hby d4_0) rfl rfl ?_
    show Steps p.tables e below (s₁.setTop (mkF m 1 #[.val (.ref r0)] [(.ref r0)])) _
    refine st1 _ ?_
    show Steps p.tables e below (T1.setTop (mkF m 4 #[.val (.ref r0)] [(.int w_ordinal_r0)])) _
    exact retI X1 hx Bd.returns (hb hby d4_4) hr
  · show own_Q4 Z u r0 w_ordinal_r0 h0 n0 _ T1.heap _
    rw [e1]
    exact ⟨rfl, N0, rfl⟩
theorem d2_0 : decode prog_13_method_5_code 0 = .ok (.aload_n 0, 1) := by decide +kernel
theorem d2_1 : decode prog_13_method_5_code 1 = .ok (.getfield 57, 3) := by decide +kernel
theorem d2_4 : decode prog_13_method_5_code 4 = .ok (.ireturn, 1) := by decide +kernel
theorem own_pn_2 : plainName "com/example/smazzata/smazzata/card/Rank" = true := by first | (simp [plainName, overriddenIn]; done) | decide +kernel
theorem own_ef_2 (m : MethodId) (x0 : Addr) : entryFrame m #[(.ref x0)] 1 = mkF m 0 #[.val (.ref x0)] [] := by first | (simp [entryFrame, mkF, argsToLocals, Value.category]; done) | rfl
def own_Q2 (Z : State) (u : Nat → Addr) (r0 : Addr) (w_captureValue_r0 : Int32) (h0 : Heap) (n0 : Nat) (v : Option Value) (h : Heap) (L : List Loc) : Prop := v = some (.int w_captureValue_r0) ∧ Fr n0 L ∧ h = h0
set_option maxRecDepth 65536 in
set_option maxHeartbeats 40000000 in
theorem rm2 (l : Launch) (Z : State) (a0 : Array Value) (hw : ∀ d ∈ tables_1, d.before a0 Z = true) (ws : List Jvm.Cond) (u : Nat → Addr) (r0 : Addr) (w_captureValue_r0 : Int32) (B : own_Base Z u) (h0 : Heap) (n0 : Nat) (O : Old Z n0 h0) (F_w_captureValue_r0 : Fld Z h0 r0 "com/example/smazzata/smazzata/card/Rank" "captureValue" "I" (.int w_captureValue_r0)) :
    MetFree l (⟨"com/example/smazzata/smazzata/card/Rank", "captureValue", "()I"⟩ : MethodName) (head1 (Jvm.Cond.code (⟨"com/example/smazzata/smazzata/card/Rank", "captureValue", "()I"⟩ : MethodName) prog_13_method_5_code 1 (some .int) :: ws) ({ frames := 0, cells := 0, slots := 0, locals := 0 } : Room)) (fun a U => a = #[(.ref r0)] ∧ Z.Warmed39 U.vm ∧ U.heap = h0) (fun _ _ _ _ _ => True) (fun _ U o U' => ∃ v L, o = .returned v ∧ own_Q2 Z u r0 w_captureValue_r0 h0 n0 v U'.heap L ∧ FrameEnd U o U' L ({ frames := 0, cells := 0, slots := 0, locals := 0 } : Room).cells ({ frames := 0, cells := 0, slots := 0, locals := 0 } : Room).slots) := by
  refine MetFree.of_bodySF (plainFor_of_name own_pn_2) hisR ?_
  intro p e s m args below meth c s₁ Bd hml0 hP hK
  obtain ⟨rfl, hZ, hh⟩ := hP
  have hx := Bd.exec
  have hby := Bd.bytes
  have hml : c.maxLocals = 1 := hml0
  have hown : s.vm.findClass "com/example/smazzata/smazzata/card/Rank" = some m.cls := findClass_of_methodNamed Bd.named
  have hnm := (name_of_methodNamed Bd.named Bd.method).1
  have X0 : Stand p l e ({ frames := 0, cells := 0, slots := 0, locals := 0 } : Room) s m #[(.ref r0)] below meth c s₁ [] 0 0 := Stand.of_body Bd
  have e0 : s₁.heap = h0 := by rw [← hh, Bd.state]; rfl
  have N0 := Fr.nil n0
  have K0 := Keep.refl h0 []
  have Z0 : n0 ≤ h0.size := O.1 ▸ O.2.1
  have pre0 : ∀ t, Steps p.tables e below (s₁.setTop (mkF m 0 #[.val (.ref r0)] [])) t → Steps p.tables e below (s₁.setTop (entryFrame m #[(.ref r0)] 1)) t := fun t k => castTop (own_ef_2 m r0) k
  obtain ⟨T3, X3, e3, st3⟩ := getF X0 hx hZ hown (host := "") (Or.inl (hw _ (List.mem_of_getElem? (i := 13) rfl))) Via.refl e0 F_w_captureValue_r0 (g := (mkF m 1 #[.val (.ref r0)] [(.ref r0)])) rfl rfl (hb hby d2_1)
  obtain ⟨fs, hr, hrun, hended, hW, hsame⟩ := X3.leave (v := some (.int w_captureValue_r0)) (fun h => by rw [Bd.returns] at h; cases h)
  refine ⟨_, _, pre0 _ ?_, hrun, hended, _, _, rfl, ?_, ⟨_, rfl⟩, hW, hsame.mono (by decide) (by decide)⟩
  · show Steps p.tables e below (s₁.setTop (mkF m 0 #[.val (.ref r0)] [])) _
    refine XS.aloadN X0.here hx rfl (hb hby d2_0) rfl rfl ?_
    show Steps p.tables e below (s₁.setTop (mkF m 1 #[.val (.ref r0)] [(.ref r0)])) _
    refine st3 _ ?_
    show Steps p.tables e below (T3.setTop (mkF m 4 #[.val (.ref r0)] [(.int w_captureValue_r0)])) _
    exact retI X3 hx Bd.returns (hb hby d2_4) hr
  · show own_Q2 Z u r0 w_captureValue_r0 h0 n0 _ T3.heap _
    rw [e3]
    exact ⟨rfl, N0, rfl⟩
theorem d1_0 : decode method_3_code 0 = .ok (.iload_n 0, 1) := by decide +kernel
theorem d1_1 : decode method_3_code 1 = .ok (.ifCond .ne 7, 3) := by decide +kernel
theorem d1_4 : decode method_3_code 4 = .ok (.getstatic 26, 3) := by decide +kernel
theorem d1_7 : decode method_3_code 7 = .ok (.areturn, 1) := by decide +kernel
theorem d1_8 : decode method_3_code 8 = .ok (.iload_n 0, 1) := by decide +kernel
theorem d1_9 : decode method_3_code 9 = .ok (.iconst 1, 1) := by decide +kernel
theorem d1_10 : decode method_3_code 10 = .ok (.if_icmp .ne 7, 3) := by decide +kernel
theorem d1_13 : decode method_3_code 13 = .ok (.getstatic 30, 3) := by decide +kernel
theorem d1_16 : decode method_3_code 16 = .ok (.areturn, 1) := by decide +kernel
theorem d1_17 : decode method_3_code 17 = .ok (.iload_n 0, 1) := by decide +kernel
theorem d1_18 : decode method_3_code 18 = .ok (.iconst 2, 1) := by decide +kernel
theorem d1_19 : decode method_3_code 19 = .ok (.if_icmp .ne 7, 3) := by decide +kernel
theorem d1_22 : decode method_3_code 22 = .ok (.getstatic 33, 3) := by decide +kernel
theorem d1_25 : decode method_3_code 25 = .ok (.areturn, 1) := by decide +kernel
theorem d1_26 : decode method_3_code 26 = .ok (.iload_n 0, 1) := by decide +kernel
theorem d1_27 : decode method_3_code 27 = .ok (.iconst 3, 1) := by decide +kernel
theorem d1_28 : decode method_3_code 28 = .ok (.if_icmp .ne 7, 3) := by decide +kernel
theorem d1_31 : decode method_3_code 31 = .ok (.getstatic 36, 3) := by decide +kernel
theorem d1_34 : decode method_3_code 34 = .ok (.areturn, 1) := by decide +kernel
theorem d1_35 : decode method_3_code 35 = .ok (.iload_n 0, 1) := by decide +kernel
theorem d1_36 : decode method_3_code 36 = .ok (.iconst 4, 1) := by decide +kernel
theorem d1_37 : decode method_3_code 37 = .ok (.if_icmp .ne 7, 3) := by decide +kernel
theorem d1_40 : decode method_3_code 40 = .ok (.getstatic 39, 3) := by decide +kernel
theorem d1_43 : decode method_3_code 43 = .ok (.areturn, 1) := by decide +kernel
theorem d1_44 : decode method_3_code 44 = .ok (.iload_n 0, 1) := by decide +kernel
theorem d1_45 : decode method_3_code 45 = .ok (.iconst 5, 1) := by decide +kernel
theorem d1_46 : decode method_3_code 46 = .ok (.if_icmp .ne 7, 3) := by decide +kernel
theorem d1_49 : decode method_3_code 49 = .ok (.getstatic 42, 3) := by decide +kernel
theorem d1_52 : decode method_3_code 52 = .ok (.areturn, 1) := by decide +kernel
theorem d1_53 : decode method_3_code 53 = .ok (.iload_n 0, 1) := by decide +kernel
theorem d1_54 : decode method_3_code 54 = .ok (.bipush 6, 2) := by decide +kernel
theorem d1_56 : decode method_3_code 56 = .ok (.if_icmp .ne 7, 3) := by decide +kernel
theorem d1_59 : decode method_3_code 59 = .ok (.getstatic 45, 3) := by decide +kernel
theorem d1_62 : decode method_3_code 62 = .ok (.areturn, 1) := by decide +kernel
theorem d1_63 : decode method_3_code 63 = .ok (.iload_n 0, 1) := by decide +kernel
theorem d1_64 : decode method_3_code 64 = .ok (.bipush 7, 2) := by decide +kernel
theorem d1_66 : decode method_3_code 66 = .ok (.if_icmp .ne 7, 3) := by decide +kernel
theorem d1_69 : decode method_3_code 69 = .ok (.getstatic 48, 3) := by decide +kernel
theorem d1_72 : decode method_3_code 72 = .ok (.areturn, 1) := by decide +kernel
theorem d1_73 : decode method_3_code 73 = .ok (.iload_n 0, 1) := by decide +kernel
theorem d1_74 : decode method_3_code 74 = .ok (.bipush 8, 2) := by decide +kernel
theorem d1_76 : decode method_3_code 76 = .ok (.if_icmp .ne 7, 3) := by decide +kernel
theorem d1_79 : decode method_3_code 79 = .ok (.getstatic 51, 3) := by decide +kernel
theorem d1_82 : decode method_3_code 82 = .ok (.areturn, 1) := by decide +kernel
theorem d1_83 : decode method_3_code 83 = .ok (.getstatic 54, 3) := by decide +kernel
theorem d1_86 : decode method_3_code 86 = .ok (.areturn, 1) := by decide +kernel
theorem own_pn_1 : plainName "com/example/smazzata/smazzata/briscola/BriscolaStrengthPinLaw" = true := by first | (simp [plainName, overriddenIn]; done) | decide +kernel
theorem own_ef_1 (m : MethodId) (x0 : Int32) : entryFrame m #[(.int x0)] 1 = mkF m 0 #[.val (.int x0)] [] := by first | (simp [entryFrame, mkF, argsToLocals, Value.category]; done) | rfl
def own_r1 (u : Nat → Addr) (p0 : Int32) : Addr :=
  if p0 = (0 : Int32) then
    (u 0)
  else
    if p0 = (1 : Int32) then
      (u 3)
    else
      if p0 = (2 : Int32) then
        (u 6)
      else
        if p0 = (3 : Int32) then
          (u 2)
        else
          if p0 = (4 : Int32) then
            (u 4)
          else
            if p0 = (5 : Int32) then
              (u 9)
            else
              if p0 = (6 : Int32) then
                (u 10)
              else
                if p0 = (7 : Int32) then
                  (u 5)
                else
                  if p0 = (8 : Int32) then
                    (u 7)
                  else
                    (u 8)
def own_Q1 (Z : State) (u : Nat → Addr) (p0 : Int32) (h0 : Heap) (n0 : Nat) (v : Option Value) (h : Heap) (L : List Loc) : Prop := v = some (.ref (own_r1 u p0)) ∧ Fr n0 L ∧ h = h0
set_option maxRecDepth 65536 in
set_option maxHeartbeats 40000000 in
theorem rm1 (l : Launch) (Z : State) (a0 : Array Value) (hw : ∀ d ∈ tables_1, d.before a0 Z = true) (ws : List Jvm.Cond) (u : Nat → Addr) (p0 : Int32) (B : own_Base Z u) (h0 : Heap) (n0 : Nat) (O : Old Z n0 h0) :
    MetFree l (⟨"com/example/smazzata/smazzata/briscola/BriscolaStrengthPinLaw", "pick", "(I)Lcom/example/smazzata/smazzata/card/Rank;"⟩ : MethodName) (head1 (Jvm.Cond.code (⟨"com/example/smazzata/smazzata/briscola/BriscolaStrengthPinLaw", "pick", "(I)Lcom/example/smazzata/smazzata/card/Rank;"⟩ : MethodName) method_3_code 1 (some (.object "com/example/smazzata/smazzata/card/Rank")) :: ws) ({ frames := 0, cells := 0, slots := 0, locals := 0 } : Room)) (fun a U => a = #[(.int p0)] ∧ Z.Warmed39 U.vm ∧ U.heap = h0) (fun _ _ _ _ _ => True) (fun _ U o U' => ∃ v L, o = .returned v ∧ own_Q1 Z u p0 h0 n0 v U'.heap L ∧ FrameEnd U o U' L ({ frames := 0, cells := 0, slots := 0, locals := 0 } : Room).cells ({ frames := 0, cells := 0, slots := 0, locals := 0 } : Room).slots) := by
  refine MetFree.of_bodySF (plainFor_of_name own_pn_1) hisR ?_
  intro p e s m args below meth c s₁ Bd hml0 hP hK
  obtain ⟨rfl, hZ, hh⟩ := hP
  have hx := Bd.exec
  have hby := Bd.bytes
  have hml : c.maxLocals = 1 := hml0
  have hown : s.vm.findClass "com/example/smazzata/smazzata/briscola/BriscolaStrengthPinLaw" = some m.cls := findClass_of_methodNamed Bd.named
  have hnm := (name_of_methodNamed Bd.named Bd.method).1
  have X0 : Stand p l e ({ frames := 0, cells := 0, slots := 0, locals := 0 } : Room) s m #[(.int p0)] below meth c s₁ [] 0 0 := Stand.of_body Bd
  have e0 : s₁.heap = h0 := by rw [← hh, Bd.state]; rfl
  have N0 := Fr.nil n0
  have K0 := Keep.refl h0 []
  have Z0 : n0 ≤ h0.size := O.1 ▸ O.2.1
  have pre0 : ∀ t, Steps p.tables e below (s₁.setTop (mkF m 0 #[.val (.int p0)] [])) t → Steps p.tables e below (s₁.setTop (entryFrame m #[(.int p0)] 1)) t := fun t k => castTop (own_ef_1 m p0) k
  have pre5 : ∀ t, Steps p.tables e below (s₁.setTop (mkF m 1 #[.val (.int p0)] [(.int p0)])) t → Steps p.tables e below (s₁.setTop (entryFrame m #[(.int p0)] 1)) t := fun t kt => pre0 t (by
    show Steps p.tables e below (s₁.setTop (mkF m 0 #[.val (.int p0)] [])) _
    refine XS.iloadN X0.here hx rfl (hb hby d1_0) rfl ?_
    exact kt)
  by_cases hc6 : p0 = (0 : Int32)
  · --
    obtain ⟨T7, X7, e7, st7⟩ := getS2 X0 hx hZ hown (host := "") (Or.inl (hw _ (List.mem_of_getElem? (i := 5) rfl))) Via.refl e0 (B.1.ext O.2) (g := (mkF m 4 #[.val (.int p0)] [])) rfl (hb hby d1_4)
    obtain ⟨fs, hr, hrun, hended, hW, hsame⟩ := X7.leave (v := some (.ref (u 0))) (fun h => by rw [Bd.returns] at h; cases h)
    refine ⟨_, _, pre5 _ ?_, hrun, hended, _, _, rfl, ?_, ⟨_, rfl⟩, hW, hsame.mono (by decide) (by decide)⟩
    · show Steps p.tables e below (s₁.setTop (mkF m 1 #[.val (.int p0)] [(.int p0)])) _
      refine XS.ifNo X0.here hx rfl (hb hby d1_1) rfl ((if0 _ _).trans (teq hc6).2) ?_
      show Steps p.tables e below (s₁.setTop (mkF m 4 #[.val (.int p0)] [])) _
      refine st7 _ ?_
      show Steps p.tables e below (T7.setTop (mkF m 7 #[.val (.int p0)] [(.ref (u 0))])) _
      exact retOut X7 hx Bd.returns (own_narref rfl rfl) (Or.inr (Or.inr (Or.inr (Or.inr ⟨rfl, rfl, rfl⟩)))) (hb hby d1_7) hr
    · show own_Q1 Z u p0 h0 n0 _ T7.heap _
      rw [e7]
      exact ⟨(by unfold own_r1; rw [if_pos hc6]), N0, rfl⟩
  · --
    have pre9 : ∀ t, Steps p.tables e below (s₁.setTop (mkF m 10 #[.val (.int p0)] [(.int (1 : Int32)), (.int p0)])) t → Steps p.tables e below (s₁.setTop (entryFrame m #[(.int p0)] 1)) t := fun t kt => pre5 t (by
      show Steps p.tables e below (s₁.setTop (mkF m 1 #[.val (.int p0)] [(.int p0)])) _
      refine XS.ifYes X0.here hx rfl (pc0 := 1) (pc' := 8) rfl (hb hby d1_1) rfl ((if0 _ _).trans (feq hc6).2) (by decide) (by decide) ?_
      show Steps p.tables e below (s₁.setTop (mkF m 8 #[.val (.int p0)] [])) _
      refine XS.iloadN X0.here hx rfl (hb hby d1_8) rfl ?_
      show Steps p.tables e below (s₁.setTop (mkF m 9 #[.val (.int p0)] [(.int p0)])) _
      refine XS.iconst X0.here hx rfl (hb hby d1_9) ?_
      exact kt)
    by_cases hc10 : p0 = (1 : Int32)
    · --
      obtain ⟨T11, X11, e11, st11⟩ := getS2 X0 hx hZ hown (host := "") (Or.inl (hw _ (List.mem_of_getElem? (i := 33) rfl))) Via.refl e0 (B.2.2.2.2.2.1.ext O.2) (g := (mkF m 13 #[.val (.int p0)] [])) rfl (hb hby d1_13)
      obtain ⟨fs, hr, hrun, hended, hW, hsame⟩ := X11.leave (v := some (.ref (u 3))) (fun h => by rw [Bd.returns] at h; cases h)
      refine ⟨_, _, pre9 _ ?_, hrun, hended, _, _, rfl, ?_, ⟨_, rfl⟩, hW, hsame.mono (by decide) (by decide)⟩
      · show Steps p.tables e below (s₁.setTop (mkF m 10 #[.val (.int p0)] [(.int (1 : Int32)), (.int p0)])) _
        refine XS.icmpNo X0.here hx rfl (hb hby d1_10) rfl (teq hc10).2 ?_
        show Steps p.tables e below (s₁.setTop (mkF m 13 #[.val (.int p0)] [])) _
        refine st11 _ ?_
        show Steps p.tables e below (T11.setTop (mkF m 16 #[.val (.int p0)] [(.ref (u 3))])) _
        exact retOut X11 hx Bd.returns (own_narref rfl rfl) (Or.inr (Or.inr (Or.inr (Or.inr ⟨rfl, rfl, rfl⟩)))) (hb hby d1_16) hr
      · show own_Q1 Z u p0 h0 n0 _ T11.heap _
        rw [e11]
        exact ⟨(by unfold own_r1; rw [if_neg hc6, if_pos hc10]), N0, rfl⟩
    · --
      have pre13 : ∀ t, Steps p.tables e below (s₁.setTop (mkF m 19 #[.val (.int p0)] [(.int (2 : Int32)), (.int p0)])) t → Steps p.tables e below (s₁.setTop (entryFrame m #[(.int p0)] 1)) t := fun t kt => pre9 t (by
        show Steps p.tables e below (s₁.setTop (mkF m 10 #[.val (.int p0)] [(.int (1 : Int32)), (.int p0)])) _
        refine XS.icmpYes X0.here hx rfl (pc0 := 10) (pc' := 17) rfl (hb hby d1_10) rfl (feq hc10).2 (by decide) (by decide) ?_
        show Steps p.tables e below (s₁.setTop (mkF m 17 #[.val (.int p0)] [])) _
        refine XS.iloadN X0.here hx rfl (hb hby d1_17) rfl ?_
        show Steps p.tables e below (s₁.setTop (mkF m 18 #[.val (.int p0)] [(.int p0)])) _
        refine XS.iconst X0.here hx rfl (hb hby d1_18) ?_
        exact kt)
      by_cases hc14 : p0 = (2 : Int32)
      · --
        obtain ⟨T15, X15, e15, st15⟩ := getS2 X0 hx hZ hown (host := "") (Or.inl (hw _ (List.mem_of_getElem? (i := 39) rfl))) Via.refl e0 (B.2.2.2.2.2.2.2.2.2.2.2.1.ext O.2) (g := (mkF m 22 #[.val (.int p0)] [])) rfl (hb hby d1_22)
        obtain ⟨fs, hr, hrun, hended, hW, hsame⟩ := X15.leave (v := some (.ref (u 6))) (fun h => by rw [Bd.returns] at h; cases h)
        refine ⟨_, _, pre13 _ ?_, hrun, hended, _, _, rfl, ?_, ⟨_, rfl⟩, hW, hsame.mono (by decide) (by decide)⟩
        · show Steps p.tables e below (s₁.setTop (mkF m 19 #[.val (.int p0)] [(.int (2 : Int32)), (.int p0)])) _
          refine XS.icmpNo X0.here hx rfl (hb hby d1_19) rfl (teq hc14).2 ?_
          show Steps p.tables e below (s₁.setTop (mkF m 22 #[.val (.int p0)] [])) _
          refine st15 _ ?_
          show Steps p.tables e below (T15.setTop (mkF m 25 #[.val (.int p0)] [(.ref (u 6))])) _
          exact retOut X15 hx Bd.returns (own_narref rfl rfl) (Or.inr (Or.inr (Or.inr (Or.inr ⟨rfl, rfl, rfl⟩)))) (hb hby d1_25) hr
        · show own_Q1 Z u p0 h0 n0 _ T15.heap _
          rw [e15]
          exact ⟨(by unfold own_r1; rw [if_neg hc6, if_neg hc10, if_pos hc14]), N0, rfl⟩
      · --
        have pre17 : ∀ t, Steps p.tables e below (s₁.setTop (mkF m 28 #[.val (.int p0)] [(.int (3 : Int32)), (.int p0)])) t → Steps p.tables e below (s₁.setTop (entryFrame m #[(.int p0)] 1)) t := fun t kt => pre13 t (by
          show Steps p.tables e below (s₁.setTop (mkF m 19 #[.val (.int p0)] [(.int (2 : Int32)), (.int p0)])) _
          refine XS.icmpYes X0.here hx rfl (pc0 := 19) (pc' := 26) rfl (hb hby d1_19) rfl (feq hc14).2 (by decide) (by decide) ?_
          show Steps p.tables e below (s₁.setTop (mkF m 26 #[.val (.int p0)] [])) _
          refine XS.iloadN X0.here hx rfl (hb hby d1_26) rfl ?_
          show Steps p.tables e below (s₁.setTop (mkF m 27 #[.val (.int p0)] [(.int p0)])) _
          refine XS.iconst X0.here hx rfl (hb hby d1_27) ?_
          exact kt)
        by_cases hc18 : p0 = (3 : Int32)
        · --
          obtain ⟨T19, X19, e19, st19⟩ := getS2 X0 hx hZ hown (host := "") (Or.inl (hw _ (List.mem_of_getElem? (i := 31) rfl))) Via.refl e0 (B.2.2.2.1.ext O.2) (g := (mkF m 31 #[.val (.int p0)] [])) rfl (hb hby d1_31)
          obtain ⟨fs, hr, hrun, hended, hW, hsame⟩ := X19.leave (v := some (.ref (u 2))) (fun h => by rw [Bd.returns] at h; cases h)
          refine ⟨_, _, pre17 _ ?_, hrun, hended, _, _, rfl, ?_, ⟨_, rfl⟩, hW, hsame.mono (by decide) (by decide)⟩
          · show Steps p.tables e below (s₁.setTop (mkF m 28 #[.val (.int p0)] [(.int (3 : Int32)), (.int p0)])) _
            refine XS.icmpNo X0.here hx rfl (hb hby d1_28) rfl (teq hc18).2 ?_
            show Steps p.tables e below (s₁.setTop (mkF m 31 #[.val (.int p0)] [])) _
            refine st19 _ ?_
            show Steps p.tables e below (T19.setTop (mkF m 34 #[.val (.int p0)] [(.ref (u 2))])) _
            exact retOut X19 hx Bd.returns (own_narref rfl rfl) (Or.inr (Or.inr (Or.inr (Or.inr ⟨rfl, rfl, rfl⟩)))) (hb hby d1_34) hr
          · show own_Q1 Z u p0 h0 n0 _ T19.heap _
            rw [e19]
            exact ⟨(by unfold own_r1; rw [if_neg hc6, if_neg hc10, if_neg hc14, if_pos hc18]), N0, rfl⟩
        · --
          have pre21 : ∀ t, Steps p.tables e below (s₁.setTop (mkF m 37 #[.val (.int p0)] [(.int (4 : Int32)), (.int p0)])) t → Steps p.tables e below (s₁.setTop (entryFrame m #[(.int p0)] 1)) t := fun t kt => pre17 t (by
            show Steps p.tables e below (s₁.setTop (mkF m 28 #[.val (.int p0)] [(.int (3 : Int32)), (.int p0)])) _
            refine XS.icmpYes X0.here hx rfl (pc0 := 28) (pc' := 35) rfl (hb hby d1_28) rfl (feq hc18).2 (by decide) (by decide) ?_
            show Steps p.tables e below (s₁.setTop (mkF m 35 #[.val (.int p0)] [])) _
            refine XS.iloadN X0.here hx rfl (hb hby d1_35) rfl ?_
            show Steps p.tables e below (s₁.setTop (mkF m 36 #[.val (.int p0)] [(.int p0)])) _
            refine XS.iconst X0.here hx rfl (hb hby d1_36) ?_
            exact kt)
          by_cases hc22 : p0 = (4 : Int32)
          · --
            obtain ⟨T23, X23, e23, st23⟩ := getS2 X0 hx hZ hown (host := "") (Or.inl (hw _ (List.mem_of_getElem? (i := 35) rfl))) Via.refl e0 (B.2.2.2.2.2.2.2.1.ext O.2) (g := (mkF m 40 #[.val (.int p0)] [])) rfl (hb hby d1_40)
            obtain ⟨fs, hr, hrun, hended, hW, hsame⟩ := X23.leave (v := some (.ref (u 4))) (fun h => by rw [Bd.returns] at h; cases h)
            refine ⟨_, _, pre21 _ ?_, hrun, hended, _, _, rfl, ?_, ⟨_, rfl⟩, hW, hsame.mono (by decide) (by decide)⟩
            · show Steps p.tables e below (s₁.setTop (mkF m 37 #[.val (.int p0)] [(.int (4 : Int32)), (.int p0)])) _
              refine XS.icmpNo X0.here hx rfl (hb hby d1_37) rfl (teq hc22).2 ?_
              show Steps p.tables e below (s₁.setTop (mkF m 40 #[.val (.int p0)] [])) _
              refine st23 _ ?_
              show Steps p.tables e below (T23.setTop (mkF m 43 #[.val (.int p0)] [(.ref (u 4))])) _
              exact retOut X23 hx Bd.returns (own_narref rfl rfl) (Or.inr (Or.inr (Or.inr (Or.inr ⟨rfl, rfl, rfl⟩)))) (hb hby d1_43) hr
            · show own_Q1 Z u p0 h0 n0 _ T23.heap _
              rw [e23]
              exact ⟨(by unfold own_r1; rw [if_neg hc6, if_neg hc10, if_neg hc14, if_neg hc18, if_pos hc22]), N0, rfl⟩
          · --
            have pre25 : ∀ t, Steps p.tables e below (s₁.setTop (mkF m 46 #[.val (.int p0)] [(.int (5 : Int32)), (.int p0)])) t → Steps p.tables e below (s₁.setTop (entryFrame m #[(.int p0)] 1)) t := fun t kt => pre21 t (by
              show Steps p.tables e below (s₁.setTop (mkF m 37 #[.val (.int p0)] [(.int (4 : Int32)), (.int p0)])) _
              refine XS.icmpYes X0.here hx rfl (pc0 := 37) (pc' := 44) rfl (hb hby d1_37) rfl (feq hc22).2 (by decide) (by decide) ?_
              show Steps p.tables e below (s₁.setTop (mkF m 44 #[.val (.int p0)] [])) _
              refine XS.iloadN X0.here hx rfl (hb hby d1_44) rfl ?_
              show Steps p.tables e below (s₁.setTop (mkF m 45 #[.val (.int p0)] [(.int p0)])) _
              refine XS.iconst X0.here hx rfl (hb hby d1_45) ?_
              exact kt)
            by_cases hc26 : p0 = (5 : Int32)
            · --
              obtain ⟨T27, X27, e27, st27⟩ := getS2 X0 hx hZ hown (host := "") (Or.inl (hw _ (List.mem_of_getElem? (i := 45) rfl))) Via.refl e0 (B.2.2.2.2.2.2.2.2.2.2.2.2.2.2.2.2.2.1.ext O.2) (g := (mkF m 49 #[.val (.int p0)] [])) rfl (hb hby d1_49)
              obtain ⟨fs, hr, hrun, hended, hW, hsame⟩ := X27.leave (v := some (.ref (u 9))) (fun h => by rw [Bd.returns] at h; cases h)
              refine ⟨_, _, pre25 _ ?_, hrun, hended, _, _, rfl, ?_, ⟨_, rfl⟩, hW, hsame.mono (by decide) (by decide)⟩
              · show Steps p.tables e below (s₁.setTop (mkF m 46 #[.val (.int p0)] [(.int (5 : Int32)), (.int p0)])) _
                refine XS.icmpNo X0.here hx rfl (hb hby d1_46) rfl (teq hc26).2 ?_
                show Steps p.tables e below (s₁.setTop (mkF m 49 #[.val (.int p0)] [])) _
                refine st27 _ ?_
                show Steps p.tables e below (T27.setTop (mkF m 52 #[.val (.int p0)] [(.ref (u 9))])) _
                exact retOut X27 hx Bd.returns (own_narref rfl rfl) (Or.inr (Or.inr (Or.inr (Or.inr ⟨rfl, rfl, rfl⟩)))) (hb hby d1_52) hr
              · show own_Q1 Z u p0 h0 n0 _ T27.heap _
                rw [e27]
                exact ⟨(by unfold own_r1; rw [if_neg hc6, if_neg hc10, if_neg hc14, if_neg hc18, if_neg hc22, if_pos hc26]), N0, rfl⟩
            · --
              have pre29 : ∀ t, Steps p.tables e below (s₁.setTop (mkF m 56 #[.val (.int p0)] [(.int (6 : Int32)), (.int p0)])) t → Steps p.tables e below (s₁.setTop (entryFrame m #[(.int p0)] 1)) t := fun t kt => pre25 t (by
                show Steps p.tables e below (s₁.setTop (mkF m 46 #[.val (.int p0)] [(.int (5 : Int32)), (.int p0)])) _
                refine XS.icmpYes X0.here hx rfl (pc0 := 46) (pc' := 53) rfl (hb hby d1_46) rfl (feq hc26).2 (by decide) (by decide) ?_
                show Steps p.tables e below (s₁.setTop (mkF m 53 #[.val (.int p0)] [])) _
                refine XS.iloadN X0.here hx rfl (hb hby d1_53) rfl ?_
                show Steps p.tables e below (s₁.setTop (mkF m 54 #[.val (.int p0)] [(.int p0)])) _
                refine XS.bipush X0.here hx rfl (hb hby d1_54) ?_
                exact kt)
              by_cases hc30 : p0 = (6 : Int32)
              · --
                obtain ⟨T31, X31, e31, st31⟩ := getS2 X0 hx hZ hown (host := "") (Or.inl (hw _ (List.mem_of_getElem? (i := 47) rfl))) Via.refl e0 (B.2.2.2.2.2.2.2.2.2.2.2.2.2.2.2.2.2.2.2.1.ext O.2) (g := (mkF m 59 #[.val (.int p0)] [])) rfl (hb hby d1_59)
                obtain ⟨fs, hr, hrun, hended, hW, hsame⟩ := X31.leave (v := some (.ref (u 10))) (fun h => by rw [Bd.returns] at h; cases h)
                refine ⟨_, _, pre29 _ ?_, hrun, hended, _, _, rfl, ?_, ⟨_, rfl⟩, hW, hsame.mono (by decide) (by decide)⟩
                · show Steps p.tables e below (s₁.setTop (mkF m 56 #[.val (.int p0)] [(.int (6 : Int32)), (.int p0)])) _
                  refine XS.icmpNo X0.here hx rfl (hb hby d1_56) rfl (teq hc30).2 ?_
                  show Steps p.tables e below (s₁.setTop (mkF m 59 #[.val (.int p0)] [])) _
                  refine st31 _ ?_
                  show Steps p.tables e below (T31.setTop (mkF m 62 #[.val (.int p0)] [(.ref (u 10))])) _
                  exact retOut X31 hx Bd.returns (own_narref rfl rfl) (Or.inr (Or.inr (Or.inr (Or.inr ⟨rfl, rfl, rfl⟩)))) (hb hby d1_62) hr
                · show own_Q1 Z u p0 h0 n0 _ T31.heap _
                  rw [e31]
                  exact ⟨(by unfold own_r1; rw [if_neg hc6, if_neg hc10, if_neg hc14, if_neg hc18, if_neg hc22, if_neg hc26, if_pos hc30]), N0, rfl⟩
              · --
                have pre33 : ∀ t, Steps p.tables e below (s₁.setTop (mkF m 66 #[.val (.int p0)] [(.int (7 : Int32)), (.int p0)])) t → Steps p.tables e below (s₁.setTop (entryFrame m #[(.int p0)] 1)) t := fun t kt => pre29 t (by
                  show Steps p.tables e below (s₁.setTop (mkF m 56 #[.val (.int p0)] [(.int (6 : Int32)), (.int p0)])) _
                  refine XS.icmpYes X0.here hx rfl (pc0 := 56) (pc' := 63) rfl (hb hby d1_56) rfl (feq hc30).2 (by decide) (by decide) ?_
                  show Steps p.tables e below (s₁.setTop (mkF m 63 #[.val (.int p0)] [])) _
                  refine XS.iloadN X0.here hx rfl (hb hby d1_63) rfl ?_
                  show Steps p.tables e below (s₁.setTop (mkF m 64 #[.val (.int p0)] [(.int p0)])) _
                  refine XS.bipush X0.here hx rfl (hb hby d1_64) ?_
                  exact kt)
                by_cases hc34 : p0 = (7 : Int32)
                · --
                  obtain ⟨T35, X35, e35, st35⟩ := getS2 X0 hx hZ hown (host := "") (Or.inl (hw _ (List.mem_of_getElem? (i := 37) rfl))) Via.refl e0 (B.2.2.2.2.2.2.2.2.2.1.ext O.2) (g := (mkF m 69 #[.val (.int p0)] [])) rfl (hb hby d1_69)
                  obtain ⟨fs, hr, hrun, hended, hW, hsame⟩ := X35.leave (v := some (.ref (u 5))) (fun h => by rw [Bd.returns] at h; cases h)
                  refine ⟨_, _, pre33 _ ?_, hrun, hended, _, _, rfl, ?_, ⟨_, rfl⟩, hW, hsame.mono (by decide) (by decide)⟩
                  · show Steps p.tables e below (s₁.setTop (mkF m 66 #[.val (.int p0)] [(.int (7 : Int32)), (.int p0)])) _
                    refine XS.icmpNo X0.here hx rfl (hb hby d1_66) rfl (teq hc34).2 ?_
                    show Steps p.tables e below (s₁.setTop (mkF m 69 #[.val (.int p0)] [])) _
                    refine st35 _ ?_
                    show Steps p.tables e below (T35.setTop (mkF m 72 #[.val (.int p0)] [(.ref (u 5))])) _
                    exact retOut X35 hx Bd.returns (own_narref rfl rfl) (Or.inr (Or.inr (Or.inr (Or.inr ⟨rfl, rfl, rfl⟩)))) (hb hby d1_72) hr
                  · show own_Q1 Z u p0 h0 n0 _ T35.heap _
                    rw [e35]
                    exact ⟨(by unfold own_r1; rw [if_neg hc6, if_neg hc10, if_neg hc14, if_neg hc18, if_neg hc22, if_neg hc26, if_neg hc30, if_pos hc34]), N0, rfl⟩
                · --
                  have pre37 : ∀ t, Steps p.tables e below (s₁.setTop (mkF m 76 #[.val (.int p0)] [(.int (8 : Int32)), (.int p0)])) t → Steps p.tables e below (s₁.setTop (entryFrame m #[(.int p0)] 1)) t := fun t kt => pre33 t (by
                    show Steps p.tables e below (s₁.setTop (mkF m 66 #[.val (.int p0)] [(.int (7 : Int32)), (.int p0)])) _
                    refine XS.icmpYes X0.here hx rfl (pc0 := 66) (pc' := 73) rfl (hb hby d1_66) rfl (feq hc34).2 (by decide) (by decide) ?_
                    show Steps p.tables e below (s₁.setTop (mkF m 73 #[.val (.int p0)] [])) _
                    refine XS.iloadN X0.here hx rfl (hb hby d1_73) rfl ?_
                    show Steps p.tables e below (s₁.setTop (mkF m 74 #[.val (.int p0)] [(.int p0)])) _
                    refine XS.bipush X0.here hx rfl (hb hby d1_74) ?_
                    exact kt)
                  by_cases hc38 : p0 = (8 : Int32)
                  · --
                    obtain ⟨T39, X39, e39, st39⟩ := getS2 X0 hx hZ hown (host := "") (Or.inl (hw _ (List.mem_of_getElem? (i := 41) rfl))) Via.refl e0 (B.2.2.2.2.2.2.2.2.2.2.2.2.2.1.ext O.2) (g := (mkF m 79 #[.val (.int p0)] [])) rfl (hb hby d1_79)
                    obtain ⟨fs, hr, hrun, hended, hW, hsame⟩ := X39.leave (v := some (.ref (u 7))) (fun h => by rw [Bd.returns] at h; cases h)
                    refine ⟨_, _, pre37 _ ?_, hrun, hended, _, _, rfl, ?_, ⟨_, rfl⟩, hW, hsame.mono (by decide) (by decide)⟩
                    · show Steps p.tables e below (s₁.setTop (mkF m 76 #[.val (.int p0)] [(.int (8 : Int32)), (.int p0)])) _
                      refine XS.icmpNo X0.here hx rfl (hb hby d1_76) rfl (teq hc38).2 ?_
                      show Steps p.tables e below (s₁.setTop (mkF m 79 #[.val (.int p0)] [])) _
                      refine st39 _ ?_
                      show Steps p.tables e below (T39.setTop (mkF m 82 #[.val (.int p0)] [(.ref (u 7))])) _
                      exact retOut X39 hx Bd.returns (own_narref rfl rfl) (Or.inr (Or.inr (Or.inr (Or.inr ⟨rfl, rfl, rfl⟩)))) (hb hby d1_82) hr
                    · show own_Q1 Z u p0 h0 n0 _ T39.heap _
                      rw [e39]
                      exact ⟨(by unfold own_r1; rw [if_neg hc6, if_neg hc10, if_neg hc14, if_neg hc18, if_neg hc22, if_neg hc26, if_neg hc30, if_neg hc34, if_pos hc38]), N0, rfl⟩
                  · --
                    obtain ⟨T41, X41, e41, st41⟩ := getS2 X0 hx hZ hown (host := "") (Or.inl (hw _ (List.mem_of_getElem? (i := 43) rfl))) Via.refl e0 (B.2.2.2.2.2.2.2.2.2.2.2.2.2.2.2.1.ext O.2) (g := (mkF m 83 #[.val (.int p0)] [])) rfl (hb hby d1_83)
                    obtain ⟨fs, hr, hrun, hended, hW, hsame⟩ := X41.leave (v := some (.ref (u 8))) (fun h => by rw [Bd.returns] at h; cases h)
                    refine ⟨_, _, pre37 _ ?_, hrun, hended, _, _, rfl, ?_, ⟨_, rfl⟩, hW, hsame.mono (by decide) (by decide)⟩
                    · show Steps p.tables e below (s₁.setTop (mkF m 76 #[.val (.int p0)] [(.int (8 : Int32)), (.int p0)])) _
                      refine XS.icmpYes X0.here hx rfl (pc0 := 76) (pc' := 83) rfl (hb hby d1_76) rfl (feq hc38).2 (by decide) (by decide) ?_
                      show Steps p.tables e below (s₁.setTop (mkF m 83 #[.val (.int p0)] [])) _
                      refine st41 _ ?_
                      show Steps p.tables e below (T41.setTop (mkF m 86 #[.val (.int p0)] [(.ref (u 8))])) _
                      exact retOut X41 hx Bd.returns (own_narref rfl rfl) (Or.inr (Or.inr (Or.inr (Or.inr ⟨rfl, rfl, rfl⟩)))) (hb hby d1_86) hr
                    · show own_Q1 Z u p0 h0 n0 _ T41.heap _
                      rw [e41]
                      exact ⟨(by unfold own_r1; rw [if_neg hc6, if_neg hc10, if_neg hc14, if_neg hc18, if_neg hc22, if_neg hc26, if_neg hc30, if_neg hc34, if_neg hc38]), N0, rfl⟩
theorem d3_0 : decode prog_2_method_5_code 0 = .ok (.getstatic 87, 3) := by decide +kernel
theorem d3_3 : decode prog_2_method_5_code 3 = .ok (.aload_n 0, 1) := by decide +kernel
theorem d3_4 : decode prog_2_method_5_code 4 = .ok (.invokevirtual 93, 3) := by decide +kernel
theorem d3_7 : decode prog_2_method_5_code 7 = .ok (.iaload, 1) := by decide +kernel
theorem d3_8 : decode prog_2_method_5_code 8 = .ok (.tableswitch 56 1 10 #[66, 71, 76, 81, 86, 91, 95, 99, 103, 107], 56) := by decide +kernel
theorem d3_74 : decode prog_2_method_5_code 74 = .ok (.bipush 10, 2) := by decide +kernel
theorem d3_76 : decode prog_2_method_5_code 76 = .ok (.goto 40, 3) := by decide +kernel
theorem d3_116 : decode prog_2_method_5_code 116 = .ok (.ireturn, 1) := by decide +kernel
theorem own_pn_3 : plainName "com/example/smazzata/smazzata/briscola/Briscola" = true := by first | (simp [plainName, overriddenIn]; done) | decide +kernel
theorem own_ef_s0 (m : MethodId) (x0 : Addr) : entryFrame m #[(.ref x0)] 1 = mkF m 0 #[.val (.ref x0)] [] := by first | (simp [entryFrame, mkF, argsToLocals, Value.category]; done) | rfl
def own_Qs0 (Z : State) (u : Nat → Addr)  (h0 : Heap) (n0 : Nat) (v : Option Value) (h : Heap) (L : List Loc) : Prop := v = some (.int (10 : Int32)) ∧ Fr n0 L ∧ h = h0
set_option maxRecDepth 65536 in
set_option maxHeartbeats 40000000 in
theorem rms0 (l : Launch) (Z : State) (a0 : Array Value) (hw : ∀ d ∈ tables_1, d.before a0 Z = true) (ws : List Jvm.Cond) (u : Nat → Addr)  (B : own_Base Z u) (h0 : Heap) (n0 : Nat) (O : Old Z n0 h0) :
    MetFree l (⟨"com/example/smazzata/smazzata/briscola/Briscola", "strength", "(Lcom/example/smazzata/smazzata/card/Rank;)I"⟩ : MethodName) (head1 (Jvm.Cond.code (⟨"com/example/smazzata/smazzata/briscola/Briscola", "strength", "(Lcom/example/smazzata/smazzata/card/Rank;)I"⟩ : MethodName) prog_2_method_5_code 1 (some .int) :: ws) ({ frames := 1, cells := 0, slots := 0, locals := 13 } : Room)) (fun a U => a = #[(.ref (u 0))] ∧ Z.Warmed39 U.vm ∧ U.heap = h0) (fun _ _ _ _ _ => True) (fun _ U o U' => ∃ v L, o = .returned v ∧ own_Qs0 Z u  h0 n0 v U'.heap L ∧ FrameEnd U o U' L ({ frames := 1, cells := 0, slots := 0, locals := 13 } : Room).cells ({ frames := 1, cells := 0, slots := 0, locals := 13 } : Room).slots) := by
  refine MetFree.of_bodySF (plainFor_of_name own_pn_3) hisR ?_
  intro p e s m args below meth c s₁ Bd hml0 hP hK
  obtain ⟨rfl, hZ, hh⟩ := hP
  have hx := Bd.exec
  have hby := Bd.bytes
  have hml : c.maxLocals = 1 := hml0
  have hown : s.vm.findClass "com/example/smazzata/smazzata/briscola/Briscola" = some m.cls := findClass_of_methodNamed Bd.named
  have hnm := (name_of_methodNamed Bd.named Bd.method).1
  have X0 : Stand p l e ({ frames := 1, cells := 0, slots := 0, locals := 13 } : Room) s m #[(.ref (u 0))] below meth c s₁ [] 0 0 := Stand.of_body Bd
  have e0 : s₁.heap = h0 := by rw [← hh, Bd.state]; rfl
  have N0 := Fr.nil n0
  have K0 := Keep.refl h0 []
  have Z0 : n0 ≤ h0.size := O.1 ▸ O.2.1
  have pre0 : ∀ t, Steps p.tables e below (s₁.setTop (mkF m 0 #[.val (.ref (u 0))] [])) t → Steps p.tables e below (s₁.setTop (entryFrame m #[(.ref (u 0))] 1)) t := fun t k => castTop (own_ef_s0 m (u 0)) k
  obtain ⟨T43, X43, e43, st43⟩ := getS2 X0 hx hZ hown (host := "") (Or.inl (hw _ (List.mem_of_getElem? (i := 19) rfl))) Via.refl e0 (B.2.2.1.ext O.2) (g := (mkF m 0 #[.val (.ref (u 0))] [])) rfl (hb hby d3_0)
  obtain ⟨cq44, kq44, q44a, q44b, q44c⟩ := isOf hZ e43 (B.2.1.ext O.2)
  obtain ⟨vr44, _, ⟨T44, L44, k44, n44⟩, -, X44, ⟨Lc44, hQ44, l44, y44, z44⟩, st44⟩ := X43.virtualBackUp hx (x := (⟨"com/example/smazzata/smazzata/card/Rank", "ordinal", "()I"⟩ : MethodName)) (y := (⟨"java/lang/Enum", "ordinal", "()I"⟩ : MethodName)) hown (mvT hZ (hw _ (List.mem_of_getElem? (i := 22) rfl))) (mvT hZ (hw _ (List.mem_of_getElem? (i := 23) rfl))) (mvT hZ (hw _ (List.mem_of_getElem? (i := 24) rfl))) (by decide) (mvT hZ (hw _ (List.mem_of_getElem? (i := 26) rfl))) (mvT hZ (hw _ (List.mem_of_getElem? (i := 25) rfl))) (backOf (W := 1) (rm4 l Z a0 hw [] u (u 0) (0 : Int32) B h0 n0 O (B.2.2.2.2.2.2.2.2.2.2.2.2.2.2.2.2.2.2.2.2.2.2.1.ext O.2)) hZ (hw _ (List.mem_of_getElem? (i := 28) rfl)) (hw _ (List.mem_of_getElem? (i := 27) rfl)) (by decide) (by decide)) q44a q44c (g := (mkF m 4 #[.val (.ref (u 0))] [(.ref (u 0)), (.ref (u 1))])) rfl (by rw [hml]; rfl) (Steps.refl _) (argsL := []) (rest := [(.ref (u 1))]) (lenOf own_pd0 rfl) rfl (by show 2 * 0 + _ ≤ _; exact Nat.le_of_eq rfl) (hb hby d3_4) (fun _ _ => ⟨rfl, e43, (by decide : 0 + 0 ≤ _), (by decide : 0 + 0 ≤ _)⟩)
  dsimp only [Pt.U, Pt.locs, Pt.cells, Pt.slots] at X44 l44 y44 z44 st44 hQ44
  subst l44 y44 z44
  obtain ⟨rfl, N44q, e44⟩ := hQ44
  have N44 := Fr.app N0 N44q
  obtain ⟨kA1, VA1⟩ := B.2.2.2.2.2.2.2.2.2.2.2.2.2.2.2.2.2.2.2.2.2.2.2.1
  obtain ⟨cl45, Ar45, -, S45, N45, H45, -⟩ := (VA1.ext O.2)
  have hin45 : ¬ ((0 : Int32) < 0 ∨ cl45.slots.size ≤ ((0 : Int32)).toNatClampNeg) := inb_of S45 ⟨by decide, by decide⟩
  obtain ⟨fs, hr, hrun, hended, hW, hsame⟩ := X44.leave (v := some (.int (10 : Int32))) (fun h => by rw [Bd.returns] at h; cases h)
  refine ⟨_, _, pre0 _ ?_, hrun, hended, _, _, rfl, ?_, ⟨_, rfl⟩, hW, hsame.mono (by decide) (by decide)⟩
  · show Steps p.tables e below (s₁.setTop (mkF m 0 #[.val (.ref (u 0))] [])) _
    refine st43 _ ?_
    show Steps p.tables e below (T43.setTop (mkF m 3 #[.val (.ref (u 0))] [(.ref (u 1))])) _
    refine XS.aloadN X43.here hx rfl (hb hby d3_3) rfl rfl ?_
    show Steps p.tables e below (T43.setTop (mkF m 4 #[.val (.ref (u 0))] [(.ref (u 0)), (.ref (u 1))])) _
    refine st44.trans ?_
    show Steps p.tables e below (T44.setTop (mkF m 7 #[.val (.ref (u 0))] [(.int (0 : Int32)), (.ref (u 1))])) _
    refine X44.iaload hx (j := (0 : Int32)) (v := (.int (1 : Int32))) (by rw [e44]; exact Ar45.1) (State.isArrayOf_alike hZ.alike Ar45.2.1) Ar45.2.2 hin45 (H45.at hin45 rfl) (g := (mkF m 7 #[.val (.ref (u 0))] [(.int (0 : Int32)), (.ref (u 1))])) rfl rfl (hb hby d3_7) _ ?_
    show Steps p.tables e below (T44.setTop (mkF m 8 #[.val (.ref (u 0))] [(.int (1 : Int32))])) _
    refine XS.tswIn X44.here hx rfl (o := 66) (pc0 := 8) (pc' := 74) rfl (hb hby d3_8) rfl (by decide) (by decide) (by decide) (by decide) ?_
    show Steps p.tables e below (T44.setTop (mkF m 74 #[.val (.ref (u 0))] [])) _
    refine XS.bipush X44.here hx rfl (hb hby d3_74) ?_
    show Steps p.tables e below (T44.setTop (mkF m 76 #[.val (.ref (u 0))] [(.int (10 : Int32))])) _
    refine XS.goto X44.here hx rfl (pc0 := 76) (pc' := 116) rfl (hb hby d3_76) (by decide) (by decide) ?_
    show Steps p.tables e below (T44.setTop (mkF m 116 #[.val (.ref (u 0))] [(.int (10 : Int32))])) _
    exact retI X44 hx Bd.returns (hb hby d3_116) hr
  · show own_Qs0 Z u  h0 n0 _ T44.heap _
    rw [e44]
    exact ⟨rfl, N44, rfl⟩
theorem d3_111 : decode prog_2_method_5_code 111 = .ok (.iconst 2, 1) := by decide +kernel
theorem d3_112 : decode prog_2_method_5_code 112 = .ok (.goto 4, 3) := by decide +kernel
theorem own_ef_s2 (m : MethodId) (x0 : Addr) : entryFrame m #[(.ref x0)] 1 = mkF m 0 #[.val (.ref x0)] [] := by first | (simp [entryFrame, mkF, argsToLocals, Value.category]; done) | rfl
def own_Qs2 (Z : State) (u : Nat → Addr)  (h0 : Heap) (n0 : Nat) (v : Option Value) (h : Heap) (L : List Loc) : Prop := v = some (.int (2 : Int32)) ∧ Fr n0 L ∧ h = h0
set_option maxRecDepth 65536 in
set_option maxHeartbeats 40000000 in
theorem rms2 (l : Launch) (Z : State) (a0 : Array Value) (hw : ∀ d ∈ tables_1, d.before a0 Z = true) (ws : List Jvm.Cond) (u : Nat → Addr)  (B : own_Base Z u) (h0 : Heap) (n0 : Nat) (O : Old Z n0 h0) :
    MetFree l (⟨"com/example/smazzata/smazzata/briscola/Briscola", "strength", "(Lcom/example/smazzata/smazzata/card/Rank;)I"⟩ : MethodName) (head1 (Jvm.Cond.code (⟨"com/example/smazzata/smazzata/briscola/Briscola", "strength", "(Lcom/example/smazzata/smazzata/card/Rank;)I"⟩ : MethodName) prog_2_method_5_code 1 (some .int) :: ws) ({ frames := 1, cells := 0, slots := 0, locals := 13 } : Room)) (fun a U => a = #[(.ref (u 2))] ∧ Z.Warmed39 U.vm ∧ U.heap = h0) (fun _ _ _ _ _ => True) (fun _ U o U' => ∃ v L, o = .returned v ∧ own_Qs2 Z u  h0 n0 v U'.heap L ∧ FrameEnd U o U' L ({ frames := 1, cells := 0, slots := 0, locals := 13 } : Room).cells ({ frames := 1, cells := 0, slots := 0, locals := 13 } : Room).slots) := by
  refine MetFree.of_bodySF (plainFor_of_name own_pn_3) hisR ?_
  intro p e s m args below meth c s₁ Bd hml0 hP hK
  obtain ⟨rfl, hZ, hh⟩ := hP
  have hx := Bd.exec
  have hby := Bd.bytes
  have hml : c.maxLocals = 1 := hml0
  have hown : s.vm.findClass "com/example/smazzata/smazzata/briscola/Briscola" = some m.cls := findClass_of_methodNamed Bd.named
  have hnm := (name_of_methodNamed Bd.named Bd.method).1
  have X0 : Stand p l e ({ frames := 1, cells := 0, slots := 0, locals := 13 } : Room) s m #[(.ref (u 2))] below meth c s₁ [] 0 0 := Stand.of_body Bd
  have e0 : s₁.heap = h0 := by rw [← hh, Bd.state]; rfl
  have N0 := Fr.nil n0
  have K0 := Keep.refl h0 []
  have Z0 : n0 ≤ h0.size := O.1 ▸ O.2.1
  have pre0 : ∀ t, Steps p.tables e below (s₁.setTop (mkF m 0 #[.val (.ref (u 2))] [])) t → Steps p.tables e below (s₁.setTop (entryFrame m #[(.ref (u 2))] 1)) t := fun t k => castTop (own_ef_s2 m (u 2)) k
  obtain ⟨T47, X47, e47, st47⟩ := getS2 X0 hx hZ hown (host := "") (Or.inl (hw _ (List.mem_of_getElem? (i := 19) rfl))) Via.refl e0 (B.2.2.1.ext O.2) (g := (mkF m 0 #[.val (.ref (u 2))] [])) rfl (hb hby d3_0)
  obtain ⟨cq48, kq48, q48a, q48b, q48c⟩ := isOf hZ e47 (B.2.2.2.2.1.ext O.2)
  obtain ⟨vr48, _, ⟨T48, L48, k48, n48⟩, -, X48, ⟨Lc48, hQ48, l48, y48, z48⟩, st48⟩ := X47.virtualBackUp hx (x := (⟨"com/example/smazzata/smazzata/card/Rank", "ordinal", "()I"⟩ : MethodName)) (y := (⟨"java/lang/Enum", "ordinal", "()I"⟩ : MethodName)) hown (mvT hZ (hw _ (List.mem_of_getElem? (i := 22) rfl))) (mvT hZ (hw _ (List.mem_of_getElem? (i := 23) rfl))) (mvT hZ (hw _ (List.mem_of_getElem? (i := 24) rfl))) (by decide) (mvT hZ (hw _ (List.mem_of_getElem? (i := 26) rfl))) (mvT hZ (hw _ (List.mem_of_getElem? (i := 25) rfl))) (backOf (W := 1) (rm4 l Z a0 hw [] u (u 2) (3 : Int32) B h0 n0 O (B.2.2.2.2.2.2.2.2.2.2.2.2.2.2.2.2.2.2.2.2.2.2.2.2.2.1.ext O.2)) hZ (hw _ (List.mem_of_getElem? (i := 28) rfl)) (hw _ (List.mem_of_getElem? (i := 27) rfl)) (by decide) (by decide)) q48a q48c (g := (mkF m 4 #[.val (.ref (u 2))] [(.ref (u 2)), (.ref (u 1))])) rfl (by rw [hml]; rfl) (Steps.refl _) (argsL := []) (rest := [(.ref (u 1))]) (lenOf own_pd0 rfl) rfl (by show 2 * 0 + _ ≤ _; exact Nat.le_of_eq rfl) (hb hby d3_4) (fun _ _ => ⟨rfl, e47, (by decide : 0 + 0 ≤ _), (by decide : 0 + 0 ≤ _)⟩)
  dsimp only [Pt.U, Pt.locs, Pt.cells, Pt.slots] at X48 l48 y48 z48 st48 hQ48
  subst l48 y48 z48
  obtain ⟨rfl, N48q, e48⟩ := hQ48
  have N48 := Fr.app N0 N48q
  obtain ⟨kA1, VA1⟩ := B.2.2.2.2.2.2.2.2.2.2.2.2.2.2.2.2.2.2.2.2.2.2.2.1
  obtain ⟨cl49, Ar49, -, S49, N49, H49, -⟩ := (VA1.ext O.2)
  have hin49 : ¬ ((3 : Int32) < 0 ∨ cl49.slots.size ≤ ((3 : Int32)).toNatClampNeg) := inb_of S49 ⟨by decide, by decide⟩
  obtain ⟨fs, hr, hrun, hended, hW, hsame⟩ := X48.leave (v := some (.int (2 : Int32))) (fun h => by rw [Bd.returns] at h; cases h)
  refine ⟨_, _, pre0 _ ?_, hrun, hended, _, _, rfl, ?_, ⟨_, rfl⟩, hW, hsame.mono (by decide) (by decide)⟩
  · show Steps p.tables e below (s₁.setTop (mkF m 0 #[.val (.ref (u 2))] [])) _
    refine st47 _ ?_
    show Steps p.tables e below (T47.setTop (mkF m 3 #[.val (.ref (u 2))] [(.ref (u 1))])) _
    refine XS.aloadN X47.here hx rfl (hb hby d3_3) rfl rfl ?_
    show Steps p.tables e below (T47.setTop (mkF m 4 #[.val (.ref (u 2))] [(.ref (u 2)), (.ref (u 1))])) _
    refine st48.trans ?_
    show Steps p.tables e below (T48.setTop (mkF m 7 #[.val (.ref (u 2))] [(.int (3 : Int32)), (.ref (u 1))])) _
    refine X48.iaload hx (j := (3 : Int32)) (v := (.int (9 : Int32))) (by rw [e48]; exact Ar49.1) (State.isArrayOf_alike hZ.alike Ar49.2.1) Ar49.2.2 hin49 (H49.at hin49 rfl) (g := (mkF m 7 #[.val (.ref (u 2))] [(.int (3 : Int32)), (.ref (u 1))])) rfl rfl (hb hby d3_7) _ ?_
    show Steps p.tables e below (T48.setTop (mkF m 8 #[.val (.ref (u 2))] [(.int (9 : Int32))])) _
    refine XS.tswIn X48.here hx rfl (o := 103) (pc0 := 8) (pc' := 111) rfl (hb hby d3_8) rfl (by decide) (by decide) (by decide) (by decide) ?_
    show Steps p.tables e below (T48.setTop (mkF m 111 #[.val (.ref (u 2))] [])) _
    refine XS.iconst X48.here hx rfl (hb hby d3_111) ?_
    show Steps p.tables e below (T48.setTop (mkF m 112 #[.val (.ref (u 2))] [(.int (2 : Int32))])) _
    refine XS.goto X48.here hx rfl (pc0 := 112) (pc' := 116) rfl (hb hby d3_112) (by decide) (by decide) ?_
    show Steps p.tables e below (T48.setTop (mkF m 116 #[.val (.ref (u 2))] [(.int (2 : Int32))])) _
    exact retI X48 hx Bd.returns (hb hby d3_116) hr
  · show own_Qs2 Z u  h0 n0 _ T48.heap _
    rw [e48]
    exact ⟨rfl, N48, rfl⟩
theorem d3_115 : decode prog_2_method_5_code 115 = .ok (.iconst 1, 1) := by decide +kernel
theorem own_ef_s3 (m : MethodId) (x0 : Addr) : entryFrame m #[(.ref x0)] 1 = mkF m 0 #[.val (.ref x0)] [] := by first | (simp [entryFrame, mkF, argsToLocals, Value.category]; done) | rfl
def own_Qs3 (Z : State) (u : Nat → Addr)  (h0 : Heap) (n0 : Nat) (v : Option Value) (h : Heap) (L : List Loc) : Prop := v = some (.int (1 : Int32)) ∧ Fr n0 L ∧ h = h0
set_option maxRecDepth 65536 in
set_option maxHeartbeats 40000000 in
theorem rms3 (l : Launch) (Z : State) (a0 : Array Value) (hw : ∀ d ∈ tables_1, d.before a0 Z = true) (ws : List Jvm.Cond) (u : Nat → Addr)  (B : own_Base Z u) (h0 : Heap) (n0 : Nat) (O : Old Z n0 h0) :
    MetFree l (⟨"com/example/smazzata/smazzata/briscola/Briscola", "strength", "(Lcom/example/smazzata/smazzata/card/Rank;)I"⟩ : MethodName) (head1 (Jvm.Cond.code (⟨"com/example/smazzata/smazzata/briscola/Briscola", "strength", "(Lcom/example/smazzata/smazzata/card/Rank;)I"⟩ : MethodName) prog_2_method_5_code 1 (some .int) :: ws) ({ frames := 1, cells := 0, slots := 0, locals := 13 } : Room)) (fun a U => a = #[(.ref (u 3))] ∧ Z.Warmed39 U.vm ∧ U.heap = h0) (fun _ _ _ _ _ => True) (fun _ U o U' => ∃ v L, o = .returned v ∧ own_Qs3 Z u  h0 n0 v U'.heap L ∧ FrameEnd U o U' L ({ frames := 1, cells := 0, slots := 0, locals := 13 } : Room).cells ({ frames := 1, cells := 0, slots := 0, locals := 13 } : Room).slots) := by
  refine MetFree.of_bodySF (plainFor_of_name own_pn_3) hisR ?_
  intro p e s m args below meth c s₁ Bd hml0 hP hK
  obtain ⟨rfl, hZ, hh⟩ := hP
  have hx := Bd.exec
  have hby := Bd.bytes
  have hml : c.maxLocals = 1 := hml0
  have hown : s.vm.findClass "com/example/smazzata/smazzata/briscola/Briscola" = some m.cls := findClass_of_methodNamed Bd.named
  have hnm := (name_of_methodNamed Bd.named Bd.method).1
  have X0 : Stand p l e ({ frames := 1, cells := 0, slots := 0, locals := 13 } : Room) s m #[(.ref (u 3))] below meth c s₁ [] 0 0 := Stand.of_body Bd
  have e0 : s₁.heap = h0 := by rw [← hh, Bd.state]; rfl
  have N0 := Fr.nil n0
  have K0 := Keep.refl h0 []
  have Z0 : n0 ≤ h0.size := O.1 ▸ O.2.1
  have pre0 : ∀ t, Steps p.tables e below (s₁.setTop (mkF m 0 #[.val (.ref (u 3))] [])) t → Steps p.tables e below (s₁.setTop (entryFrame m #[(.ref (u 3))] 1)) t := fun t k => castTop (own_ef_s3 m (u 3)) k
  obtain ⟨T51, X51, e51, st51⟩ := getS2 X0 hx hZ hown (host := "") (Or.inl (hw _ (List.mem_of_getElem? (i := 19) rfl))) Via.refl e0 (B.2.2.1.ext O.2) (g := (mkF m 0 #[.val (.ref (u 3))] [])) rfl (hb hby d3_0)
  obtain ⟨cq52, kq52, q52a, q52b, q52c⟩ := isOf hZ e51 (B.2.2.2.2.2.2.1.ext O.2)
  obtain ⟨vr52, _, ⟨T52, L52, k52, n52⟩, -, X52, ⟨Lc52, hQ52, l52, y52, z52⟩, st52⟩ := X51.virtualBackUp hx (x := (⟨"com/example/smazzata/smazzata/card/Rank", "ordinal", "()I"⟩ : MethodName)) (y := (⟨"java/lang/Enum", "ordinal", "()I"⟩ : MethodName)) hown (mvT hZ (hw _ (List.mem_of_getElem? (i := 22) rfl))) (mvT hZ (hw _ (List.mem_of_getElem? (i := 23) rfl))) (mvT hZ (hw _ (List.mem_of_getElem? (i := 24) rfl))) (by decide) (mvT hZ (hw _ (List.mem_of_getElem? (i := 26) rfl))) (mvT hZ (hw _ (List.mem_of_getElem? (i := 25) rfl))) (backOf (W := 1) (rm4 l Z a0 hw [] u (u 3) (1 : Int32) B h0 n0 O (B.2.2.2.2.2.2.2.2.2.2.2.2.2.2.2.2.2.2.2.2.2.2.2.2.2.2.2.1.ext O.2)) hZ (hw _ (List.mem_of_getElem? (i := 28) rfl)) (hw _ (List.mem_of_getElem? (i := 27) rfl)) (by decide) (by decide)) q52a q52c (g := (mkF m 4 #[.val (.ref (u 3))] [(.ref (u 3)), (.ref (u 1))])) rfl (by rw [hml]; rfl) (Steps.refl _) (argsL := []) (rest := [(.ref (u 1))]) (lenOf own_pd0 rfl) rfl (by show 2 * 0 + _ ≤ _; exact Nat.le_of_eq rfl) (hb hby d3_4) (fun _ _ => ⟨rfl, e51, (by decide : 0 + 0 ≤ _), (by decide : 0 + 0 ≤ _)⟩)
  dsimp only [Pt.U, Pt.locs, Pt.cells, Pt.slots] at X52 l52 y52 z52 st52 hQ52
  subst l52 y52 z52
  obtain ⟨rfl, N52q, e52⟩ := hQ52
  have N52 := Fr.app N0 N52q
  obtain ⟨kA1, VA1⟩ := B.2.2.2.2.2.2.2.2.2.2.2.2.2.2.2.2.2.2.2.2.2.2.2.1
  obtain ⟨cl53, Ar53, -, S53, N53, H53, -⟩ := (VA1.ext O.2)
  have hin53 : ¬ ((1 : Int32) < 0 ∨ cl53.slots.size ≤ ((1 : Int32)).toNatClampNeg) := inb_of S53 ⟨by decide, by decide⟩
  obtain ⟨fs, hr, hrun, hended, hW, hsame⟩ := X52.leave (v := some (.int (1 : Int32))) (fun h => by rw [Bd.returns] at h; cases h)
  refine ⟨_, _, pre0 _ ?_, hrun, hended, _, _, rfl, ?_, ⟨_, rfl⟩, hW, hsame.mono (by decide) (by decide)⟩
  · show Steps p.tables e below (s₁.setTop (mkF m 0 #[.val (.ref (u 3))] [])) _
    refine st51 _ ?_
    show Steps p.tables e below (T51.setTop (mkF m 3 #[.val (.ref (u 3))] [(.ref (u 1))])) _
    refine XS.aloadN X51.here hx rfl (hb hby d3_3) rfl rfl ?_
    show Steps p.tables e below (T51.setTop (mkF m 4 #[.val (.ref (u 3))] [(.ref (u 3)), (.ref (u 1))])) _
    refine st52.trans ?_
    show Steps p.tables e below (T52.setTop (mkF m 7 #[.val (.ref (u 3))] [(.int (1 : Int32)), (.ref (u 1))])) _
    refine X52.iaload hx (j := (1 : Int32)) (v := (.int (10 : Int32))) (by rw [e52]; exact Ar53.1) (State.isArrayOf_alike hZ.alike Ar53.2.1) Ar53.2.2 hin53 (H53.at hin53 rfl) (g := (mkF m 7 #[.val (.ref (u 3))] [(.int (1 : Int32)), (.ref (u 1))])) rfl rfl (hb hby d3_7) _ ?_
    show Steps p.tables e below (T52.setTop (mkF m 8 #[.val (.ref (u 3))] [(.int (10 : Int32))])) _
    refine XS.tswIn X52.here hx rfl (o := 107) (pc0 := 8) (pc' := 115) rfl (hb hby d3_8) rfl (by decide) (by decide) (by decide) (by decide) ?_
    show Steps p.tables e below (T52.setTop (mkF m 115 #[.val (.ref (u 3))] [])) _
    refine XS.iconst X52.here hx rfl (hb hby d3_115) ?_
    show Steps p.tables e below (T52.setTop (mkF m 116 #[.val (.ref (u 3))] [(.int (1 : Int32))])) _
    exact retI X52 hx Bd.returns (hb hby d3_116) hr
  · show own_Qs3 Z u  h0 n0 _ T52.heap _
    rw [e52]
    exact ⟨rfl, N52, rfl⟩
theorem d3_107 : decode prog_2_method_5_code 107 = .ok (.iconst 3, 1) := by decide +kernel
theorem d3_108 : decode prog_2_method_5_code 108 = .ok (.goto 8, 3) := by decide +kernel
theorem own_ef_s4 (m : MethodId) (x0 : Addr) : entryFrame m #[(.ref x0)] 1 = mkF m 0 #[.val (.ref x0)] [] := by first | (simp [entryFrame, mkF, argsToLocals, Value.category]; done) | rfl
def own_Qs4 (Z : State) (u : Nat → Addr)  (h0 : Heap) (n0 : Nat) (v : Option Value) (h : Heap) (L : List Loc) : Prop := v = some (.int (3 : Int32)) ∧ Fr n0 L ∧ h = h0
set_option maxRecDepth 65536 in
set_option maxHeartbeats 40000000 in
theorem rms4 (l : Launch) (Z : State) (a0 : Array Value) (hw : ∀ d ∈ tables_1, d.before a0 Z = true) (ws : List Jvm.Cond) (u : Nat → Addr)  (B : own_Base Z u) (h0 : Heap) (n0 : Nat) (O : Old Z n0 h0) :
    MetFree l (⟨"com/example/smazzata/smazzata/briscola/Briscola", "strength", "(Lcom/example/smazzata/smazzata/card/Rank;)I"⟩ : MethodName) (head1 (Jvm.Cond.code (⟨"com/example/smazzata/smazzata/briscola/Briscola", "strength", "(Lcom/example/smazzata/smazzata/card/Rank;)I"⟩ : MethodName) prog_2_method_5_code 1 (some .int) :: ws) ({ frames := 1, cells := 0, slots := 0, locals := 13 } : Room)) (fun a U => a = #[(.ref (u 4))] ∧ Z.Warmed39 U.vm ∧ U.heap = h0) (fun _ _ _ _ _ => True) (fun _ U o U' => ∃ v L, o = .returned v ∧ own_Qs4 Z u  h0 n0 v U'.heap L ∧ FrameEnd U o U' L ({ frames := 1, cells := 0, slots := 0, locals := 13 } : Room).cells ({ frames := 1, cells := 0, slots := 0, locals := 13 } : Room).slots) := by
  refine MetFree.of_bodySF (plainFor_of_name own_pn_3) hisR ?_
  intro p e s m args below meth c s₁ Bd hml0 hP hK
  obtain ⟨rfl, hZ, hh⟩ := hP
  have hx := Bd.exec
  have hby := Bd.bytes
  have hml : c.maxLocals = 1 := hml0
  have hown : s.vm.findClass "com/example/smazzata/smazzata/briscola/Briscola" = some m.cls := findClass_of_methodNamed Bd.named
  have hnm := (name_of_methodNamed Bd.named Bd.method).1
  have X0 : Stand p l e ({ frames := 1, cells := 0, slots := 0, locals := 13 } : Room) s m #[(.ref (u 4))] below meth c s₁ [] 0 0 := Stand.of_body Bd
  have e0 : s₁.heap = h0 := by rw [← hh, Bd.state]; rfl
  have N0 := Fr.nil n0
  have K0 := Keep.refl h0 []
  have Z0 : n0 ≤ h0.size := O.1 ▸ O.2.1
  have pre0 : ∀ t, Steps p.tables e below (s₁.setTop (mkF m 0 #[.val (.ref (u 4))] [])) t → Steps p.tables e below (s₁.setTop (entryFrame m #[(.ref (u 4))] 1)) t := fun t k => castTop (own_ef_s4 m (u 4)) k
  obtain ⟨T55, X55, e55, st55⟩ := getS2 X0 hx hZ hown (host := "") (Or.inl (hw _ (List.mem_of_getElem? (i := 19) rfl))) Via.refl e0 (B.2.2.1.ext O.2) (g := (mkF m 0 #[.val (.ref (u 4))] [])) rfl (hb hby d3_0)
  obtain ⟨cq56, kq56, q56a, q56b, q56c⟩ := isOf hZ e55 (B.2.2.2.2.2.2.2.2.1.ext O.2)
  obtain ⟨vr56, _, ⟨T56, L56, k56, n56⟩, -, X56, ⟨Lc56, hQ56, l56, y56, z56⟩, st56⟩ := X55.virtualBackUp hx (x := (⟨"com/example/smazzata/smazzata/card/Rank", "ordinal", "()I"⟩ : MethodName)) (y := (⟨"java/lang/Enum", "ordinal", "()I"⟩ : MethodName)) hown (mvT hZ (hw _ (List.mem_of_getElem? (i := 22) rfl))) (mvT hZ (hw _ (List.mem_of_getElem? (i := 23) rfl))) (mvT hZ (hw _ (List.mem_of_getElem? (i := 24) rfl))) (by decide) (mvT hZ (hw _ (List.mem_of_getElem? (i := 26) rfl))) (mvT hZ (hw _ (List.mem_of_getElem? (i := 25) rfl))) (backOf (W := 1) (rm4 l Z a0 hw [] u (u 4) (4 : Int32) B h0 n0 O (B.2.2.2.2.2.2.2.2.2.2.2.2.2.2.2.2.2.2.2.2.2.2.2.2.2.2.2.2.2.1.ext O.2)) hZ (hw _ (List.mem_of_getElem? (i := 28) rfl)) (hw _ (List.mem_of_getElem? (i := 27) rfl)) (by decide) (by decide)) q56a q56c (g := (mkF m 4 #[.val (.ref (u 4))] [(.ref (u 4)), (.ref (u 1))])) rfl (by rw [hml]; rfl) (Steps.refl _) (argsL := []) (rest := [(.ref (u 1))]) (lenOf own_pd0 rfl) rfl (by show 2 * 0 + _ ≤ _; exact Nat.le_of_eq rfl) (hb hby d3_4) (fun _ _ => ⟨rfl, e55, (by decide : 0 + 0 ≤ _), (by decide : 0 + 0 ≤ _)⟩)
  dsimp only [Pt.U, Pt.locs, Pt.cells, Pt.slots] at X56 l56 y56 z56 st56 hQ56
  subst l56 y56 z56
  obtain ⟨rfl, N56q, e56⟩ := hQ56
  have N56 := Fr.app N0 N56q
  obtain ⟨kA1, VA1⟩ := B.2.2.2.2.2.2.2.2.2.2.2.2.2.2.2.2.2.2.2.2.2.2.2.1
  obtain ⟨cl57, Ar57, -, S57, N57, H57, -⟩ := (VA1.ext O.2)
  have hin57 : ¬ ((4 : Int32) < 0 ∨ cl57.slots.size ≤ ((4 : Int32)).toNatClampNeg) := inb_of S57 ⟨by decide, by decide⟩
  obtain ⟨fs, hr, hrun, hended, hW, hsame⟩ := X56.leave (v := some (.int (3 : Int32))) (fun h => by rw [Bd.returns] at h; cases h)
  refine ⟨_, _, pre0 _ ?_, hrun, hended, _, _, rfl, ?_, ⟨_, rfl⟩, hW, hsame.mono (by decide) (by decide)⟩
  · show Steps p.tables e below (s₁.setTop (mkF m 0 #[.val (.ref (u 4))] [])) _
    refine st55 _ ?_
    show Steps p.tables e below (T55.setTop (mkF m 3 #[.val (.ref (u 4))] [(.ref (u 1))])) _
    refine XS.aloadN X55.here hx rfl (hb hby d3_3) rfl rfl ?_
    show Steps p.tables e below (T55.setTop (mkF m 4 #[.val (.ref (u 4))] [(.ref (u 4)), (.ref (u 1))])) _
    refine st56.trans ?_
    show Steps p.tables e below (T56.setTop (mkF m 7 #[.val (.ref (u 4))] [(.int (4 : Int32)), (.ref (u 1))])) _
    refine X56.iaload hx (j := (4 : Int32)) (v := (.int (8 : Int32))) (by rw [e56]; exact Ar57.1) (State.isArrayOf_alike hZ.alike Ar57.2.1) Ar57.2.2 hin57 (H57.at hin57 rfl) (g := (mkF m 7 #[.val (.ref (u 4))] [(.int (4 : Int32)), (.ref (u 1))])) rfl rfl (hb hby d3_7) _ ?_
    show Steps p.tables e below (T56.setTop (mkF m 8 #[.val (.ref (u 4))] [(.int (8 : Int32))])) _
    refine XS.tswIn X56.here hx rfl (o := 99) (pc0 := 8) (pc' := 107) rfl (hb hby d3_8) rfl (by decide) (by decide) (by decide) (by decide) ?_
    show Steps p.tables e below (T56.setTop (mkF m 107 #[.val (.ref (u 4))] [])) _
    refine XS.iconst X56.here hx rfl (hb hby d3_107) ?_
    show Steps p.tables e below (T56.setTop (mkF m 108 #[.val (.ref (u 4))] [(.int (3 : Int32))])) _
    refine XS.goto X56.here hx rfl (pc0 := 108) (pc' := 116) rfl (hb hby d3_108) (by decide) (by decide) ?_
    show Steps p.tables e below (T56.setTop (mkF m 116 #[.val (.ref (u 4))] [(.int (3 : Int32))])) _
    exact retI X56 hx Bd.returns (hb hby d3_116) hr
  · show own_Qs4 Z u  h0 n0 _ T56.heap _
    rw [e56]
    exact ⟨rfl, N56, rfl⟩
theorem d3_94 : decode prog_2_method_5_code 94 = .ok (.bipush 6, 2) := by decide +kernel
theorem d3_96 : decode prog_2_method_5_code 96 = .ok (.goto 20, 3) := by decide +kernel
theorem own_ef_s5 (m : MethodId) (x0 : Addr) : entryFrame m #[(.ref x0)] 1 = mkF m 0 #[.val (.ref x0)] [] := by first | (simp [entryFrame, mkF, argsToLocals, Value.category]; done) | rfl
def own_Qs5 (Z : State) (u : Nat → Addr)  (h0 : Heap) (n0 : Nat) (v : Option Value) (h : Heap) (L : List Loc) : Prop := v = some (.int (6 : Int32)) ∧ Fr n0 L ∧ h = h0
set_option maxRecDepth 65536 in
set_option maxHeartbeats 40000000 in
theorem rms5 (l : Launch) (Z : State) (a0 : Array Value) (hw : ∀ d ∈ tables_1, d.before a0 Z = true) (ws : List Jvm.Cond) (u : Nat → Addr)  (B : own_Base Z u) (h0 : Heap) (n0 : Nat) (O : Old Z n0 h0) :
    MetFree l (⟨"com/example/smazzata/smazzata/briscola/Briscola", "strength", "(Lcom/example/smazzata/smazzata/card/Rank;)I"⟩ : MethodName) (head1 (Jvm.Cond.code (⟨"com/example/smazzata/smazzata/briscola/Briscola", "strength", "(Lcom/example/smazzata/smazzata/card/Rank;)I"⟩ : MethodName) prog_2_method_5_code 1 (some .int) :: ws) ({ frames := 1, cells := 0, slots := 0, locals := 13 } : Room)) (fun a U => a = #[(.ref (u 5))] ∧ Z.Warmed39 U.vm ∧ U.heap = h0) (fun _ _ _ _ _ => True) (fun _ U o U' => ∃ v L, o = .returned v ∧ own_Qs5 Z u  h0 n0 v U'.heap L ∧ FrameEnd U o U' L ({ frames := 1, cells := 0, slots := 0, locals := 13 } : Room).cells ({ frames := 1, cells := 0, slots := 0, locals := 13 } : Room).slots) := by
  refine MetFree.of_bodySF (plainFor_of_name own_pn_3) hisR ?_
  intro p e s m args below meth c s₁ Bd hml0 hP hK
  obtain ⟨rfl, hZ, hh⟩ := hP
  have hx := Bd.exec
  have hby := Bd.bytes
  have hml : c.maxLocals = 1 := hml0
  have hown : s.vm.findClass "com/example/smazzata/smazzata/briscola/Briscola" = some m.cls := findClass_of_methodNamed Bd.named
  have hnm := (name_of_methodNamed Bd.named Bd.method).1
  have X0 : Stand p l e ({ frames := 1, cells := 0, slots := 0, locals := 13 } : Room) s m #[(.ref (u 5))] below meth c s₁ [] 0 0 := Stand.of_body Bd
  have e0 : s₁.heap = h0 := by rw [← hh, Bd.state]; rfl
  have N0 := Fr.nil n0
  have K0 := Keep.refl h0 []
  have Z0 : n0 ≤ h0.size := O.1 ▸ O.2.1
  have pre0 : ∀ t, Steps p.tables e below (s₁.setTop (mkF m 0 #[.val (.ref (u 5))] [])) t → Steps p.tables e below (s₁.setTop (entryFrame m #[(.ref (u 5))] 1)) t := fun t k => castTop (own_ef_s5 m (u 5)) k
  obtain ⟨T59, X59, e59, st59⟩ := getS2 X0 hx hZ hown (host := "") (Or.inl (hw _ (List.mem_of_getElem? (i := 19) rfl))) Via.refl e0 (B.2.2.1.ext O.2) (g := (mkF m 0 #[.val (.ref (u 5))] [])) rfl (hb hby d3_0)
  obtain ⟨cq60, kq60, q60a, q60b, q60c⟩ := isOf hZ e59 (B.2.2.2.2.2.2.2.2.2.2.1.ext O.2)
  obtain ⟨vr60, _, ⟨T60, L60, k60, n60⟩, -, X60, ⟨Lc60, hQ60, l60, y60, z60⟩, st60⟩ := X59.virtualBackUp hx (x := (⟨"com/example/smazzata/smazzata/card/Rank", "ordinal", "()I"⟩ : MethodName)) (y := (⟨"java/lang/Enum", "ordinal", "()I"⟩ : MethodName)) hown (mvT hZ (hw _ (List.mem_of_getElem? (i := 22) rfl))) (mvT hZ (hw _ (List.mem_of_getElem? (i := 23) rfl))) (mvT hZ (hw _ (List.mem_of_getElem? (i := 24) rfl))) (by decide) (mvT hZ (hw _ (List.mem_of_getElem? (i := 26) rfl))) (mvT hZ (hw _ (List.mem_of_getElem? (i := 25) rfl))) (backOf (W := 1) (rm4 l Z a0 hw [] u (u 5) (7 : Int32) B h0 n0 O (B.2.2.2.2.2.2.2.2.2.2.2.2.2.2.2.2.2.2.2.2.2.2.2.2.2.2.2.2.2.2.2.1.ext O.2)) hZ (hw _ (List.mem_of_getElem? (i := 28) rfl)) (hw _ (List.mem_of_getElem? (i := 27) rfl)) (by decide) (by decide)) q60a q60c (g := (mkF m 4 #[.val (.ref (u 5))] [(.ref (u 5)), (.ref (u 1))])) rfl (by rw [hml]; rfl) (Steps.refl _) (argsL := []) (rest := [(.ref (u 1))]) (lenOf own_pd0 rfl) rfl (by show 2 * 0 + _ ≤ _; exact Nat.le_of_eq rfl) (hb hby d3_4) (fun _ _ => ⟨rfl, e59, (by decide : 0 + 0 ≤ _), (by decide : 0 + 0 ≤ _)⟩)
  dsimp only [Pt.U, Pt.locs, Pt.cells, Pt.slots] at X60 l60 y60 z60 st60 hQ60
  subst l60 y60 z60
  obtain ⟨rfl, N60q, e60⟩ := hQ60
  have N60 := Fr.app N0 N60q
  obtain ⟨kA1, VA1⟩ := B.2.2.2.2.2.2.2.2.2.2.2.2.2.2.2.2.2.2.2.2.2.2.2.1
  obtain ⟨cl61, Ar61, -, S61, N61, H61, -⟩ := (VA1.ext O.2)
  have hin61 : ¬ ((7 : Int32) < 0 ∨ cl61.slots.size ≤ ((7 : Int32)).toNatClampNeg) := inb_of S61 ⟨by decide, by decide⟩
  obtain ⟨fs, hr, hrun, hended, hW, hsame⟩ := X60.leave (v := some (.int (6 : Int32))) (fun h => by rw [Bd.returns] at h; cases h)
  refine ⟨_, _, pre0 _ ?_, hrun, hended, _, _, rfl, ?_, ⟨_, rfl⟩, hW, hsame.mono (by decide) (by decide)⟩
  · show Steps p.tables e below (s₁.setTop (mkF m 0 #[.val (.ref (u 5))] [])) _
    refine st59 _ ?_
    show Steps p.tables e below (T59.setTop (mkF m 3 #[.val (.ref (u 5))] [(.ref (u 1))])) _
    refine XS.aloadN X59.here hx rfl (hb hby d3_3) rfl rfl ?_
    show Steps p.tables e below (T59.setTop (mkF m 4 #[.val (.ref (u 5))] [(.ref (u 5)), (.ref (u 1))])) _
    refine st60.trans ?_
    show Steps p.tables e below (T60.setTop (mkF m 7 #[.val (.ref (u 5))] [(.int (7 : Int32)), (.ref (u 1))])) _
    refine X60.iaload hx (j := (7 : Int32)) (v := (.int (5 : Int32))) (by rw [e60]; exact Ar61.1) (State.isArrayOf_alike hZ.alike Ar61.2.1) Ar61.2.2 hin61 (H61.at hin61 rfl) (g := (mkF m 7 #[.val (.ref (u 5))] [(.int (7 : Int32)), (.ref (u 1))])) rfl rfl (hb hby d3_7) _ ?_
    show Steps p.tables e below (T60.setTop (mkF m 8 #[.val (.ref (u 5))] [(.int (5 : Int32))])) _
    refine XS.tswIn X60.here hx rfl (o := 86) (pc0 := 8) (pc' := 94) rfl (hb hby d3_8) rfl (by decide) (by decide) (by decide) (by decide) ?_
    show Steps p.tables e below (T60.setTop (mkF m 94 #[.val (.ref (u 5))] [])) _
    refine XS.bipush X60.here hx rfl (hb hby d3_94) ?_
    show Steps p.tables e below (T60.setTop (mkF m 96 #[.val (.ref (u 5))] [(.int (6 : Int32))])) _
    refine XS.goto X60.here hx rfl (pc0 := 96) (pc' := 116) rfl (hb hby d3_96) (by decide) (by decide) ?_
    show Steps p.tables e below (T60.setTop (mkF m 116 #[.val (.ref (u 5))] [(.int (6 : Int32))])) _
    exact retI X60 hx Bd.returns (hb hby d3_116) hr
  · show own_Qs5 Z u  h0 n0 _ T60.heap _
    rw [e60]
    exact ⟨rfl, N60, rfl⟩
theorem d3_79 : decode prog_2_method_5_code 79 = .ok (.bipush 9, 2) := by decide +kernel
theorem d3_81 : decode prog_2_method_5_code 81 = .ok (.goto 35, 3) := by decide +kernel
theorem own_ef_s6 (m : MethodId) (x0 : Addr) : entryFrame m #[(.ref x0)] 1 = mkF m 0 #[.val (.ref x0)] [] := by first | (simp [entryFrame, mkF, argsToLocals, Value.category]; done) | rfl
def own_Qs6 (Z : State) (u : Nat → Addr)  (h0 : Heap) (n0 : Nat) (v : Option Value) (h : Heap) (L : List Loc) : Prop := v = some (.int (9 : Int32)) ∧ Fr n0 L ∧ h = h0
set_option maxRecDepth 65536 in
set_option maxHeartbeats 40000000 in
theorem rms6 (l : Launch) (Z : State) (a0 : Array Value) (hw : ∀ d ∈ tables_1, d.before a0 Z = true) (ws : List Jvm.Cond) (u : Nat → Addr)  (B : own_Base Z u) (h0 : Heap) (n0 : Nat) (O : Old Z n0 h0) :
    MetFree l (⟨"com/example/smazzata/smazzata/briscola/Briscola", "strength", "(Lcom/example/smazzata/smazzata/card/Rank;)I"⟩ : MethodName) (head1 (Jvm.Cond.code (⟨"com/example/smazzata/smazzata/briscola/Briscola", "strength", "(Lcom/example/smazzata/smazzata/card/Rank;)I"⟩ : MethodName) prog_2_method_5_code 1 (some .int) :: ws) ({ frames := 1, cells := 0, slots := 0, locals := 13 } : Room)) (fun a U => a = #[(.ref (u 6))] ∧ Z.Warmed39 U.vm ∧ U.heap = h0) (fun _ _ _ _ _ => True) (fun _ U o U' => ∃ v L, o = .returned v ∧ own_Qs6 Z u  h0 n0 v U'.heap L ∧ FrameEnd U o U' L ({ frames := 1, cells := 0, slots := 0, locals := 13 } : Room).cells ({ frames := 1, cells := 0, slots := 0, locals := 13 } : Room).slots) := by
  refine MetFree.of_bodySF (plainFor_of_name own_pn_3) hisR ?_
  intro p e s m args below meth c s₁ Bd hml0 hP hK
  obtain ⟨rfl, hZ, hh⟩ := hP
  have hx := Bd.exec
  have hby := Bd.bytes
  have hml : c.maxLocals = 1 := hml0
  have hown : s.vm.findClass "com/example/smazzata/smazzata/briscola/Briscola" = some m.cls := findClass_of_methodNamed Bd.named
  have hnm := (name_of_methodNamed Bd.named Bd.method).1
  have X0 : Stand p l e ({ frames := 1, cells := 0, slots := 0, locals := 13 } : Room) s m #[(.ref (u 6))] below meth c s₁ [] 0 0 := Stand.of_body Bd
  have e0 : s₁.heap = h0 := by rw [← hh, Bd.state]; rfl
  have N0 := Fr.nil n0
  have K0 := Keep.refl h0 []
  have Z0 : n0 ≤ h0.size := O.1 ▸ O.2.1
  have pre0 : ∀ t, Steps p.tables e below (s₁.setTop (mkF m 0 #[.val (.ref (u 6))] [])) t → Steps p.tables e below (s₁.setTop (entryFrame m #[(.ref (u 6))] 1)) t := fun t k => castTop (own_ef_s6 m (u 6)) k
  obtain ⟨T63, X63, e63, st63⟩ := getS2 X0 hx hZ hown (host := "") (Or.inl (hw _ (List.mem_of_getElem? (i := 19) rfl))) Via.refl e0 (B.2.2.1.ext O.2) (g := (mkF m 0 #[.val (.ref (u 6))] [])) rfl (hb hby d3_0)
  obtain ⟨cq64, kq64, q64a, q64b, q64c⟩ := isOf hZ e63 (B.2.2.2.2.2.2.2.2.2.2.2.2.1.ext O.2)
  obtain ⟨vr64, _, ⟨T64, L64, k64, n64⟩, -, X64, ⟨Lc64, hQ64, l64, y64, z64⟩, st64⟩ := X63.virtualBackUp hx (x := (⟨"com/example/smazzata/smazzata/card/Rank", "ordinal", "()I"⟩ : MethodName)) (y := (⟨"java/lang/Enum", "ordinal", "()I"⟩ : MethodName)) hown (mvT hZ (hw _ (List.mem_of_getElem? (i := 22) rfl))) (mvT hZ (hw _ (List.mem_of_getElem? (i := 23) rfl))) (mvT hZ (hw _ (List.mem_of_getElem? (i := 24) rfl))) (by decide) (mvT hZ (hw _ (List.mem_of_getElem? (i := 26) rfl))) (mvT hZ (hw _ (List.mem_of_getElem? (i := 25) rfl))) (backOf (W := 1) (rm4 l Z a0 hw [] u (u 6) (2 : Int32) B h0 n0 O (B.2.2.2.2.2.2.2.2.2.2.2.2.2.2.2.2.2.2.2.2.2.2.2.2.2.2.2.2.2.2.2.2.2.1.ext O.2)) hZ (hw _ (List.mem_of_getElem? (i := 28) rfl)) (hw _ (List.mem_of_getElem? (i := 27) rfl)) (by decide) (by decide)) q64a q64c (g := (mkF m 4 #[.val (.ref (u 6))] [(.ref (u 6)), (.ref (u 1))])) rfl (by rw [hml]; rfl) (Steps.refl _) (argsL := []) (rest := [(.ref (u 1))]) (lenOf own_pd0 rfl) rfl (by show 2 * 0 + _ ≤ _; exact Nat.le_of_eq rfl) (hb hby d3_4) (fun _ _ => ⟨rfl, e63, (by decide : 0 + 0 ≤ _), (by decide : 0 + 0 ≤ _)⟩)
  dsimp only [Pt.U, Pt.locs, Pt.cells, Pt.slots] at X64 l64 y64 z64 st64 hQ64
  subst l64 y64 z64
  obtain ⟨rfl, N64q, e64⟩ := hQ64
  have N64 := Fr.app N0 N64q
  obtain ⟨kA1, VA1⟩ := B.2.2.2.2.2.2.2.2.2.2.2.2.2.2.2.2.2.2.2.2.2.2.2.1
  obtain ⟨cl65, Ar65, -, S65, N65, H65, -⟩ := (VA1.ext O.2)
  have hin65 : ¬ ((2 : Int32) < 0 ∨ cl65.slots.size ≤ ((2 : Int32)).toNatClampNeg) := inb_of S65 ⟨by decide, by decide⟩
  obtain ⟨fs, hr, hrun, hended, hW, hsame⟩ := X64.leave (v := some (.int (9 : Int32))) (fun h => by rw [Bd.returns] at h; cases h)
  refine ⟨_, _, pre0 _ ?_, hrun, hended, _, _, rfl, ?_, ⟨_, rfl⟩, hW, hsame.mono (by decide) (by decide)⟩
  · show Steps p.tables e below (s₁.setTop (mkF m 0 #[.val (.ref (u 6))] [])) _
    refine st63 _ ?_
    show Steps p.tables e below (T63.setTop (mkF m 3 #[.val (.ref (u 6))] [(.ref (u 1))])) _
    refine XS.aloadN X63.here hx rfl (hb hby d3_3) rfl rfl ?_
    show Steps p.tables e below (T63.setTop (mkF m 4 #[.val (.ref (u 6))] [(.ref (u 6)), (.ref (u 1))])) _
    refine st64.trans ?_
    show Steps p.tables e below (T64.setTop (mkF m 7 #[.val (.ref (u 6))] [(.int (2 : Int32)), (.ref (u 1))])) _
    refine X64.iaload hx (j := (2 : Int32)) (v := (.int (2 : Int32))) (by rw [e64]; exact Ar65.1) (State.isArrayOf_alike hZ.alike Ar65.2.1) Ar65.2.2 hin65 (H65.at hin65 rfl) (g := (mkF m 7 #[.val (.ref (u 6))] [(.int (2 : Int32)), (.ref (u 1))])) rfl rfl (hb hby d3_7) _ ?_
    show Steps p.tables e below (T64.setTop (mkF m 8 #[.val (.ref (u 6))] [(.int (2 : Int32))])) _
    refine XS.tswIn X64.here hx rfl (o := 71) (pc0 := 8) (pc' := 79) rfl (hb hby d3_8) rfl (by decide) (by decide) (by decide) (by decide) ?_
    show Steps p.tables e below (T64.setTop (mkF m 79 #[.val (.ref (u 6))] [])) _
    refine XS.bipush X64.here hx rfl (hb hby d3_79) ?_
    show Steps p.tables e below (T64.setTop (mkF m 81 #[.val (.ref (u 6))] [(.int (9 : Int32))])) _
    refine XS.goto X64.here hx rfl (pc0 := 81) (pc' := 116) rfl (hb hby d3_81) (by decide) (by decide) ?_
    show Steps p.tables e below (T64.setTop (mkF m 116 #[.val (.ref (u 6))] [(.int (9 : Int32))])) _
    exact retI X64 hx Bd.returns (hb hby d3_116) hr
  · show own_Qs6 Z u  h0 n0 _ T64.heap _
    rw [e64]
    exact ⟨rfl, N64, rfl⟩
theorem d3_89 : decode prog_2_method_5_code 89 = .ok (.bipush 7, 2) := by decide +kernel
theorem d3_91 : decode prog_2_method_5_code 91 = .ok (.goto 25, 3) := by decide +kernel
theorem own_ef_s7 (m : MethodId) (x0 : Addr) : entryFrame m #[(.ref x0)] 1 = mkF m 0 #[.val (.ref x0)] [] := by first | (simp [entryFrame, mkF, argsToLocals, Value.category]; done) | rfl
def own_Qs7 (Z : State) (u : Nat → Addr)  (h0 : Heap) (n0 : Nat) (v : Option Value) (h : Heap) (L : List Loc) : Prop := v = some (.int (7 : Int32)) ∧ Fr n0 L ∧ h = h0
set_option maxRecDepth 65536 in
set_option maxHeartbeats 40000000 in
theorem rms7 (l : Launch) (Z : State) (a0 : Array Value) (hw : ∀ d ∈ tables_1, d.before a0 Z = true) (ws : List Jvm.Cond) (u : Nat → Addr)  (B : own_Base Z u) (h0 : Heap) (n0 : Nat) (O : Old Z n0 h0) :
    MetFree l (⟨"com/example/smazzata/smazzata/briscola/Briscola", "strength", "(Lcom/example/smazzata/smazzata/card/Rank;)I"⟩ : MethodName) (head1 (Jvm.Cond.code (⟨"com/example/smazzata/smazzata/briscola/Briscola", "strength", "(Lcom/example/smazzata/smazzata/card/Rank;)I"⟩ : MethodName) prog_2_method_5_code 1 (some .int) :: ws) ({ frames := 1, cells := 0, slots := 0, locals := 13 } : Room)) (fun a U => a = #[(.ref (u 7))] ∧ Z.Warmed39 U.vm ∧ U.heap = h0) (fun _ _ _ _ _ => True) (fun _ U o U' => ∃ v L, o = .returned v ∧ own_Qs7 Z u  h0 n0 v U'.heap L ∧ FrameEnd U o U' L ({ frames := 1, cells := 0, slots := 0, locals := 13 } : Room).cells ({ frames := 1, cells := 0, slots := 0, locals := 13 } : Room).slots) := by
  refine MetFree.of_bodySF (plainFor_of_name own_pn_3) hisR ?_
  intro p e s m args below meth c s₁ Bd hml0 hP hK
  obtain ⟨rfl, hZ, hh⟩ := hP
  have hx := Bd.exec
  have hby := Bd.bytes
  have hml : c.maxLocals = 1 := hml0
  have hown : s.vm.findClass "com/example/smazzata/smazzata/briscola/Briscola" = some m.cls := findClass_of_methodNamed Bd.named
  have hnm := (name_of_methodNamed Bd.named Bd.method).1
  have X0 : Stand p l e ({ frames := 1, cells := 0, slots := 0, locals := 13 } : Room) s m #[(.ref (u 7))] below meth c s₁ [] 0 0 := Stand.of_body Bd
  have e0 : s₁.heap = h0 := by rw [← hh, Bd.state]; rfl
  have N0 := Fr.nil n0
  have K0 := Keep.refl h0 []
  have Z0 : n0 ≤ h0.size := O.1 ▸ O.2.1
  have pre0 : ∀ t, Steps p.tables e below (s₁.setTop (mkF m 0 #[.val (.ref (u 7))] [])) t → Steps p.tables e below (s₁.setTop (entryFrame m #[(.ref (u 7))] 1)) t := fun t k => castTop (own_ef_s7 m (u 7)) k
  obtain ⟨T67, X67, e67, st67⟩ := getS2 X0 hx hZ hown (host := "") (Or.inl (hw _ (List.mem_of_getElem? (i := 19) rfl))) Via.refl e0 (B.2.2.1.ext O.2) (g := (mkF m 0 #[.val (.ref (u 7))] [])) rfl (hb hby d3_0)
  obtain ⟨cq68, kq68, q68a, q68b, q68c⟩ := isOf hZ e67 (B.2.2.2.2.2.2.2.2.2.2.2.2.2.2.1.ext O.2)
  obtain ⟨vr68, _, ⟨T68, L68, k68, n68⟩, -, X68, ⟨Lc68, hQ68, l68, y68, z68⟩, st68⟩ := X67.virtualBackUp hx (x := (⟨"com/example/smazzata/smazzata/card/Rank", "ordinal", "()I"⟩ : MethodName)) (y := (⟨"java/lang/Enum", "ordinal", "()I"⟩ : MethodName)) hown (mvT hZ (hw _ (List.mem_of_getElem? (i := 22) rfl))) (mvT hZ (hw _ (List.mem_of_getElem? (i := 23) rfl))) (mvT hZ (hw _ (List.mem_of_getElem? (i := 24) rfl))) (by decide) (mvT hZ (hw _ (List.mem_of_getElem? (i := 26) rfl))) (mvT hZ (hw _ (List.mem_of_getElem? (i := 25) rfl))) (backOf (W := 1) (rm4 l Z a0 hw [] u (u 7) (8 : Int32) B h0 n0 O (B.2.2.2.2.2.2.2.2.2.2.2.2.2.2.2.2.2.2.2.2.2.2.2.2.2.2.2.2.2.2.2.2.2.2.2.1.ext O.2)) hZ (hw _ (List.mem_of_getElem? (i := 28) rfl)) (hw _ (List.mem_of_getElem? (i := 27) rfl)) (by decide) (by decide)) q68a q68c (g := (mkF m 4 #[.val (.ref (u 7))] [(.ref (u 7)), (.ref (u 1))])) rfl (by rw [hml]; rfl) (Steps.refl _) (argsL := []) (rest := [(.ref (u 1))]) (lenOf own_pd0 rfl) rfl (by show 2 * 0 + _ ≤ _; exact Nat.le_of_eq rfl) (hb hby d3_4) (fun _ _ => ⟨rfl, e67, (by decide : 0 + 0 ≤ _), (by decide : 0 + 0 ≤ _)⟩)
  dsimp only [Pt.U, Pt.locs, Pt.cells, Pt.slots] at X68 l68 y68 z68 st68 hQ68
  subst l68 y68 z68
  obtain ⟨rfl, N68q, e68⟩ := hQ68
  have N68 := Fr.app N0 N68q
  obtain ⟨kA1, VA1⟩ := B.2.2.2.2.2.2.2.2.2.2.2.2.2.2.2.2.2.2.2.2.2.2.2.1
  obtain ⟨cl69, Ar69, -, S69, N69, H69, -⟩ := (VA1.ext O.2)
  have hin69 : ¬ ((8 : Int32) < 0 ∨ cl69.slots.size ≤ ((8 : Int32)).toNatClampNeg) := inb_of S69 ⟨by decide, by decide⟩
  obtain ⟨fs, hr, hrun, hended, hW, hsame⟩ := X68.leave (v := some (.int (7 : Int32))) (fun h => by rw [Bd.returns] at h; cases h)
  refine ⟨_, _, pre0 _ ?_, hrun, hended, _, _, rfl, ?_, ⟨_, rfl⟩, hW, hsame.mono (by decide) (by decide)⟩
  · show Steps p.tables e below (s₁.setTop (mkF m 0 #[.val (.ref (u 7))] [])) _
    refine st67 _ ?_
    show Steps p.tables e below (T67.setTop (mkF m 3 #[.val (.ref (u 7))] [(.ref (u 1))])) _
    refine XS.aloadN X67.here hx rfl (hb hby d3_3) rfl rfl ?_
    show Steps p.tables e below (T67.setTop (mkF m 4 #[.val (.ref (u 7))] [(.ref (u 7)), (.ref (u 1))])) _
    refine st68.trans ?_
    show Steps p.tables e below (T68.setTop (mkF m 7 #[.val (.ref (u 7))] [(.int (8 : Int32)), (.ref (u 1))])) _
    refine X68.iaload hx (j := (8 : Int32)) (v := (.int (4 : Int32))) (by rw [e68]; exact Ar69.1) (State.isArrayOf_alike hZ.alike Ar69.2.1) Ar69.2.2 hin69 (H69.at hin69 rfl) (g := (mkF m 7 #[.val (.ref (u 7))] [(.int (8 : Int32)), (.ref (u 1))])) rfl rfl (hb hby d3_7) _ ?_
    show Steps p.tables e below (T68.setTop (mkF m 8 #[.val (.ref (u 7))] [(.int (4 : Int32))])) _
    refine XS.tswIn X68.here hx rfl (o := 81) (pc0 := 8) (pc' := 89) rfl (hb hby d3_8) rfl (by decide) (by decide) (by decide) (by decide) ?_
    show Steps p.tables e below (T68.setTop (mkF m 89 #[.val (.ref (u 7))] [])) _
    refine XS.bipush X68.here hx rfl (hb hby d3_89) ?_
    show Steps p.tables e below (T68.setTop (mkF m 91 #[.val (.ref (u 7))] [(.int (7 : Int32))])) _
    refine XS.goto X68.here hx rfl (pc0 := 91) (pc' := 116) rfl (hb hby d3_91) (by decide) (by decide) ?_
    show Steps p.tables e below (T68.setTop (mkF m 116 #[.val (.ref (u 7))] [(.int (7 : Int32))])) _
    exact retI X68 hx Bd.returns (hb hby d3_116) hr
  · show own_Qs7 Z u  h0 n0 _ T68.heap _
    rw [e68]
    exact ⟨rfl, N68, rfl⟩
theorem d3_84 : decode prog_2_method_5_code 84 = .ok (.bipush 8, 2) := by decide +kernel
theorem d3_86 : decode prog_2_method_5_code 86 = .ok (.goto 30, 3) := by decide +kernel
theorem own_ef_s8 (m : MethodId) (x0 : Addr) : entryFrame m #[(.ref x0)] 1 = mkF m 0 #[.val (.ref x0)] [] := by first | (simp [entryFrame, mkF, argsToLocals, Value.category]; done) | rfl
def own_Qs8 (Z : State) (u : Nat → Addr)  (h0 : Heap) (n0 : Nat) (v : Option Value) (h : Heap) (L : List Loc) : Prop := v = some (.int (8 : Int32)) ∧ Fr n0 L ∧ h = h0
set_option maxRecDepth 65536 in
set_option maxHeartbeats 40000000 in
theorem rms8 (l : Launch) (Z : State) (a0 : Array Value) (hw : ∀ d ∈ tables_1, d.before a0 Z = true) (ws : List Jvm.Cond) (u : Nat → Addr)  (B : own_Base Z u) (h0 : Heap) (n0 : Nat) (O : Old Z n0 h0) :
    MetFree l (⟨"com/example/smazzata/smazzata/briscola/Briscola", "strength", "(Lcom/example/smazzata/smazzata/card/Rank;)I"⟩ : MethodName) (head1 (Jvm.Cond.code (⟨"com/example/smazzata/smazzata/briscola/Briscola", "strength", "(Lcom/example/smazzata/smazzata/card/Rank;)I"⟩ : MethodName) prog_2_method_5_code 1 (some .int) :: ws) ({ frames := 1, cells := 0, slots := 0, locals := 13 } : Room)) (fun a U => a = #[(.ref (u 8))] ∧ Z.Warmed39 U.vm ∧ U.heap = h0) (fun _ _ _ _ _ => True) (fun _ U o U' => ∃ v L, o = .returned v ∧ own_Qs8 Z u  h0 n0 v U'.heap L ∧ FrameEnd U o U' L ({ frames := 1, cells := 0, slots := 0, locals := 13 } : Room).cells ({ frames := 1, cells := 0, slots := 0, locals := 13 } : Room).slots) := by
  refine MetFree.of_bodySF (plainFor_of_name own_pn_3) hisR ?_
  intro p e s m args below meth c s₁ Bd hml0 hP hK
  obtain ⟨rfl, hZ, hh⟩ := hP
  have hx := Bd.exec
  have hby := Bd.bytes
  have hml : c.maxLocals = 1 := hml0
  have hown : s.vm.findClass "com/example/smazzata/smazzata/briscola/Briscola" = some m.cls := findClass_of_methodNamed Bd.named
  have hnm := (name_of_methodNamed Bd.named Bd.method).1
  have X0 : Stand p l e ({ frames := 1, cells := 0, slots := 0, locals := 13 } : Room) s m #[(.ref (u 8))] below meth c s₁ [] 0 0 := Stand.of_body Bd
  have e0 : s₁.heap = h0 := by rw [← hh, Bd.state]; rfl
  have N0 := Fr.nil n0
  have K0 := Keep.refl h0 []
  have Z0 : n0 ≤ h0.size := O.1 ▸ O.2.1
  have pre0 : ∀ t, Steps p.tables e below (s₁.setTop (mkF m 0 #[.val (.ref (u 8))] [])) t → Steps p.tables e below (s₁.setTop (entryFrame m #[(.ref (u 8))] 1)) t := fun t k => castTop (own_ef_s8 m (u 8)) k
  obtain ⟨T71, X71, e71, st71⟩ := getS2 X0 hx hZ hown (host := "") (Or.inl (hw _ (List.mem_of_getElem? (i := 19) rfl))) Via.refl e0 (B.2.2.1.ext O.2) (g := (mkF m 0 #[.val (.ref (u 8))] [])) rfl (hb hby d3_0)
  obtain ⟨cq72, kq72, q72a, q72b, q72c⟩ := isOf hZ e71 (B.2.2.2.2.2.2.2.2.2.2.2.2.2.2.2.2.1.ext O.2)
  obtain ⟨vr72, _, ⟨T72, L72, k72, n72⟩, -, X72, ⟨Lc72, hQ72, l72, y72, z72⟩, st72⟩ := X71.virtualBackUp hx (x := (⟨"com/example/smazzata/smazzata/card/Rank", "ordinal", "()I"⟩ : MethodName)) (y := (⟨"java/lang/Enum", "ordinal", "()I"⟩ : MethodName)) hown (mvT hZ (hw _ (List.mem_of_getElem? (i := 22) rfl))) (mvT hZ (hw _ (List.mem_of_getElem? (i := 23) rfl))) (mvT hZ (hw _ (List.mem_of_getElem? (i := 24) rfl))) (by decide) (mvT hZ (hw _ (List.mem_of_getElem? (i := 26) rfl))) (mvT hZ (hw _ (List.mem_of_getElem? (i := 25) rfl))) (backOf (W := 1) (rm4 l Z a0 hw [] u (u 8) (9 : Int32) B h0 n0 O (B.2.2.2.2.2.2.2.2.2.2.2.2.2.2.2.2.2.2.2.2.2.2.2.2.2.2.2.2.2.2.2.2.2.2.2.2.2.1.ext O.2)) hZ (hw _ (List.mem_of_getElem? (i := 28) rfl)) (hw _ (List.mem_of_getElem? (i := 27) rfl)) (by decide) (by decide)) q72a q72c (g := (mkF m 4 #[.val (.ref (u 8))] [(.ref (u 8)), (.ref (u 1))])) rfl (by rw [hml]; rfl) (Steps.refl _) (argsL := []) (rest := [(.ref (u 1))]) (lenOf own_pd0 rfl) rfl (by show 2 * 0 + _ ≤ _; exact Nat.le_of_eq rfl) (hb hby d3_4) (fun _ _ => ⟨rfl, e71, (by decide : 0 + 0 ≤ _), (by decide : 0 + 0 ≤ _)⟩)
  dsimp only [Pt.U, Pt.locs, Pt.cells, Pt.slots] at X72 l72 y72 z72 st72 hQ72
  subst l72 y72 z72
  obtain ⟨rfl, N72q, e72⟩ := hQ72
  have N72 := Fr.app N0 N72q
  obtain ⟨kA1, VA1⟩ := B.2.2.2.2.2.2.2.2.2.2.2.2.2.2.2.2.2.2.2.2.2.2.2.1
  obtain ⟨cl73, Ar73, -, S73, N73, H73, -⟩ := (VA1.ext O.2)
  have hin73 : ¬ ((9 : Int32) < 0 ∨ cl73.slots.size ≤ ((9 : Int32)).toNatClampNeg) := inb_of S73 ⟨by decide, by decide⟩
  obtain ⟨fs, hr, hrun, hended, hW, hsame⟩ := X72.leave (v := some (.int (8 : Int32))) (fun h => by rw [Bd.returns] at h; cases h)
  refine ⟨_, _, pre0 _ ?_, hrun, hended, _, _, rfl, ?_, ⟨_, rfl⟩, hW, hsame.mono (by decide) (by decide)⟩
  · show Steps p.tables e below (s₁.setTop (mkF m 0 #[.val (.ref (u 8))] [])) _
    refine st71 _ ?_
    show Steps p.tables e below (T71.setTop (mkF m 3 #[.val (.ref (u 8))] [(.ref (u 1))])) _
    refine XS.aloadN X71.here hx rfl (hb hby d3_3) rfl rfl ?_
    show Steps p.tables e below (T71.setTop (mkF m 4 #[.val (.ref (u 8))] [(.ref (u 8)), (.ref (u 1))])) _
    refine st72.trans ?_
    show Steps p.tables e below (T72.setTop (mkF m 7 #[.val (.ref (u 8))] [(.int (9 : Int32)), (.ref (u 1))])) _
    refine X72.iaload hx (j := (9 : Int32)) (v := (.int (3 : Int32))) (by rw [e72]; exact Ar73.1) (State.isArrayOf_alike hZ.alike Ar73.2.1) Ar73.2.2 hin73 (H73.at hin73 rfl) (g := (mkF m 7 #[.val (.ref (u 8))] [(.int (9 : Int32)), (.ref (u 1))])) rfl rfl (hb hby d3_7) _ ?_
    show Steps p.tables e below (T72.setTop (mkF m 8 #[.val (.ref (u 8))] [(.int (3 : Int32))])) _
    refine XS.tswIn X72.here hx rfl (o := 76) (pc0 := 8) (pc' := 84) rfl (hb hby d3_8) rfl (by decide) (by decide) (by decide) (by decide) ?_
    show Steps p.tables e below (T72.setTop (mkF m 84 #[.val (.ref (u 8))] [])) _
    refine XS.bipush X72.here hx rfl (hb hby d3_84) ?_
    show Steps p.tables e below (T72.setTop (mkF m 86 #[.val (.ref (u 8))] [(.int (8 : Int32))])) _
    refine XS.goto X72.here hx rfl (pc0 := 86) (pc' := 116) rfl (hb hby d3_86) (by decide) (by decide) ?_
    show Steps p.tables e below (T72.setTop (mkF m 116 #[.val (.ref (u 8))] [(.int (8 : Int32))])) _
    exact retI X72 hx Bd.returns (hb hby d3_116) hr
  · show own_Qs8 Z u  h0 n0 _ T72.heap _
    rw [e72]
    exact ⟨rfl, N72, rfl⟩
theorem d3_103 : decode prog_2_method_5_code 103 = .ok (.iconst 4, 1) := by decide +kernel
theorem d3_104 : decode prog_2_method_5_code 104 = .ok (.goto 12, 3) := by decide +kernel
theorem own_ef_s9 (m : MethodId) (x0 : Addr) : entryFrame m #[(.ref x0)] 1 = mkF m 0 #[.val (.ref x0)] [] := by first | (simp [entryFrame, mkF, argsToLocals, Value.category]; done) | rfl
def own_Qs9 (Z : State) (u : Nat → Addr)  (h0 : Heap) (n0 : Nat) (v : Option Value) (h : Heap) (L : List Loc) : Prop := v = some (.int (4 : Int32)) ∧ Fr n0 L ∧ h = h0
set_option maxRecDepth 65536 in
set_option maxHeartbeats 40000000 in
theorem rms9 (l : Launch) (Z : State) (a0 : Array Value) (hw : ∀ d ∈ tables_1, d.before a0 Z = true) (ws : List Jvm.Cond) (u : Nat → Addr)  (B : own_Base Z u) (h0 : Heap) (n0 : Nat) (O : Old Z n0 h0) :
    MetFree l (⟨"com/example/smazzata/smazzata/briscola/Briscola", "strength", "(Lcom/example/smazzata/smazzata/card/Rank;)I"⟩ : MethodName) (head1 (Jvm.Cond.code (⟨"com/example/smazzata/smazzata/briscola/Briscola", "strength", "(Lcom/example/smazzata/smazzata/card/Rank;)I"⟩ : MethodName) prog_2_method_5_code 1 (some .int) :: ws) ({ frames := 1, cells := 0, slots := 0, locals := 13 } : Room)) (fun a U => a = #[(.ref (u 9))] ∧ Z.Warmed39 U.vm ∧ U.heap = h0) (fun _ _ _ _ _ => True) (fun _ U o U' => ∃ v L, o = .returned v ∧ own_Qs9 Z u  h0 n0 v U'.heap L ∧ FrameEnd U o U' L ({ frames := 1, cells := 0, slots := 0, locals := 13 } : Room).cells ({ frames := 1, cells := 0, slots := 0, locals := 13 } : Room).slots) := by
  refine MetFree.of_bodySF (plainFor_of_name own_pn_3) hisR ?_
  intro p e s m args below meth c s₁ Bd hml0 hP hK
  obtain ⟨rfl, hZ, hh⟩ := hP
  have hx := Bd.exec
  have hby := Bd.bytes
  have hml : c.maxLocals = 1 := hml0
  have hown : s.vm.findClass "com/example/smazzata/smazzata/briscola/Briscola" = some m.cls := findClass_of_methodNamed Bd.named
  have hnm := (name_of_methodNamed Bd.named Bd.method).1
  have X0 : Stand p l e ({ frames := 1, cells := 0, slots := 0, locals := 13 } : Room) s m #[(.ref (u 9))] below meth c s₁ [] 0 0 := Stand.of_body Bd
  have e0 : s₁.heap = h0 := by rw [← hh, Bd.state]; rfl
  have N0 := Fr.nil n0
  have K0 := Keep.refl h0 []
  have Z0 : n0 ≤ h0.size := O.1 ▸ O.2.1
  have pre0 : ∀ t, Steps p.tables e below (s₁.setTop (mkF m 0 #[.val (.ref (u 9))] [])) t → Steps p.tables e below (s₁.setTop (entryFrame m #[(.ref (u 9))] 1)) t := fun t k => castTop (own_ef_s9 m (u 9)) k
  obtain ⟨T75, X75, e75, st75⟩ := getS2 X0 hx hZ hown (host := "") (Or.inl (hw _ (List.mem_of_getElem? (i := 19) rfl))) Via.refl e0 (B.2.2.1.ext O.2) (g := (mkF m 0 #[.val (.ref (u 9))] [])) rfl (hb hby d3_0)
  obtain ⟨cq76, kq76, q76a, q76b, q76c⟩ := isOf hZ e75 (B.2.2.2.2.2.2.2.2.2.2.2.2.2.2.2.2.2.2.1.ext O.2)
  obtain ⟨vr76, _, ⟨T76, L76, k76, n76⟩, -, X76, ⟨Lc76, hQ76, l76, y76, z76⟩, st76⟩ := X75.virtualBackUp hx (x := (⟨"com/example/smazzata/smazzata/card/Rank", "ordinal", "()I"⟩ : MethodName)) (y := (⟨"java/lang/Enum", "ordinal", "()I"⟩ : MethodName)) hown (mvT hZ (hw _ (List.mem_of_getElem? (i := 22) rfl))) (mvT hZ (hw _ (List.mem_of_getElem? (i := 23) rfl))) (mvT hZ (hw _ (List.mem_of_getElem? (i := 24) rfl))) (by decide) (mvT hZ (hw _ (List.mem_of_getElem? (i := 26) rfl))) (mvT hZ (hw _ (List.mem_of_getElem? (i := 25) rfl))) (backOf (W := 1) (rm4 l Z a0 hw [] u (u 9) (5 : Int32) B h0 n0 O (B.2.2.2.2.2.2.2.2.2.2.2.2.2.2.2.2.2.2.2.2.2.2.2.2.2.2.2.2.2.2.2.2.2.2.2.2.2.2.2.1.ext O.2)) hZ (hw _ (List.mem_of_getElem? (i := 28) rfl)) (hw _ (List.mem_of_getElem? (i := 27) rfl)) (by decide) (by decide)) q76a q76c (g := (mkF m 4 #[.val (.ref (u 9))] [(.ref (u 9)), (.ref (u 1))])) rfl (by rw [hml]; rfl) (Steps.refl _) (argsL := []) (rest := [(.ref (u 1))]) (lenOf own_pd0 rfl) rfl (by show 2 * 0 + _ ≤ _; exact Nat.le_of_eq rfl) (hb hby d3_4) (fun _ _ => ⟨rfl, e75, (by decide : 0 + 0 ≤ _), (by decide : 0 + 0 ≤ _)⟩)
  dsimp only [Pt.U, Pt.locs, Pt.cells, Pt.slots] at X76 l76 y76 z76 st76 hQ76
  subst l76 y76 z76
  obtain ⟨rfl, N76q, e76⟩ := hQ76
  have N76 := Fr.app N0 N76q
  obtain ⟨kA1, VA1⟩ := B.2.2.2.2.2.2.2.2.2.2.2.2.2.2.2.2.2.2.2.2.2.2.2.1
  obtain ⟨cl77, Ar77, -, S77, N77, H77, -⟩ := (VA1.ext O.2)
  have hin77 : ¬ ((5 : Int32) < 0 ∨ cl77.slots.size ≤ ((5 : Int32)).toNatClampNeg) := inb_of S77 ⟨by decide, by decide⟩
  obtain ⟨fs, hr, hrun, hended, hW, hsame⟩ := X76.leave (v := some (.int (4 : Int32))) (fun h => by rw [Bd.returns] at h; cases h)
  refine ⟨_, _, pre0 _ ?_, hrun, hended, _, _, rfl, ?_, ⟨_, rfl⟩, hW, hsame.mono (by decide) (by decide)⟩
  · show Steps p.tables e below (s₁.setTop (mkF m 0 #[.val (.ref (u 9))] [])) _
    refine st75 _ ?_
    show Steps p.tables e below (T75.setTop (mkF m 3 #[.val (.ref (u 9))] [(.ref (u 1))])) _
    refine XS.aloadN X75.here hx rfl (hb hby d3_3) rfl rfl ?_
    show Steps p.tables e below (T75.setTop (mkF m 4 #[.val (.ref (u 9))] [(.ref (u 9)), (.ref (u 1))])) _
    refine st76.trans ?_
    show Steps p.tables e below (T76.setTop (mkF m 7 #[.val (.ref (u 9))] [(.int (5 : Int32)), (.ref (u 1))])) _
    refine X76.iaload hx (j := (5 : Int32)) (v := (.int (7 : Int32))) (by rw [e76]; exact Ar77.1) (State.isArrayOf_alike hZ.alike Ar77.2.1) Ar77.2.2 hin77 (H77.at hin77 rfl) (g := (mkF m 7 #[.val (.ref (u 9))] [(.int (5 : Int32)), (.ref (u 1))])) rfl rfl (hb hby d3_7) _ ?_
    show Steps p.tables e below (T76.setTop (mkF m 8 #[.val (.ref (u 9))] [(.int (7 : Int32))])) _
    refine XS.tswIn X76.here hx rfl (o := 95) (pc0 := 8) (pc' := 103) rfl (hb hby d3_8) rfl (by decide) (by decide) (by decide) (by decide) ?_
    show Steps p.tables e below (T76.setTop (mkF m 103 #[.val (.ref (u 9))] [])) _
    refine XS.iconst X76.here hx rfl (hb hby d3_103) ?_
    show Steps p.tables e below (T76.setTop (mkF m 104 #[.val (.ref (u 9))] [(.int (4 : Int32))])) _
    refine XS.goto X76.here hx rfl (pc0 := 104) (pc' := 116) rfl (hb hby d3_104) (by decide) (by decide) ?_
    show Steps p.tables e below (T76.setTop (mkF m 116 #[.val (.ref (u 9))] [(.int (4 : Int32))])) _
    exact retI X76 hx Bd.returns (hb hby d3_116) hr
  · show own_Qs9 Z u  h0 n0 _ T76.heap _
    rw [e76]
    exact ⟨rfl, N76, rfl⟩
theorem d3_99 : decode prog_2_method_5_code 99 = .ok (.iconst 5, 1) := by decide +kernel
theorem d3_100 : decode prog_2_method_5_code 100 = .ok (.goto 16, 3) := by decide +kernel
theorem own_ef_s10 (m : MethodId) (x0 : Addr) : entryFrame m #[(.ref x0)] 1 = mkF m 0 #[.val (.ref x0)] [] := by first | (simp [entryFrame, mkF, argsToLocals, Value.category]; done) | rfl
def own_Qs10 (Z : State) (u : Nat → Addr)  (h0 : Heap) (n0 : Nat) (v : Option Value) (h : Heap) (L : List Loc) : Prop := v = some (.int (5 : Int32)) ∧ Fr n0 L ∧ h = h0
set_option maxRecDepth 65536 in
set_option maxHeartbeats 40000000 in
theorem rms10 (l : Launch) (Z : State) (a0 : Array Value) (hw : ∀ d ∈ tables_1, d.before a0 Z = true) (ws : List Jvm.Cond) (u : Nat → Addr)  (B : own_Base Z u) (h0 : Heap) (n0 : Nat) (O : Old Z n0 h0) :
    MetFree l (⟨"com/example/smazzata/smazzata/briscola/Briscola", "strength", "(Lcom/example/smazzata/smazzata/card/Rank;)I"⟩ : MethodName) (head1 (Jvm.Cond.code (⟨"com/example/smazzata/smazzata/briscola/Briscola", "strength", "(Lcom/example/smazzata/smazzata/card/Rank;)I"⟩ : MethodName) prog_2_method_5_code 1 (some .int) :: ws) ({ frames := 1, cells := 0, slots := 0, locals := 13 } : Room)) (fun a U => a = #[(.ref (u 10))] ∧ Z.Warmed39 U.vm ∧ U.heap = h0) (fun _ _ _ _ _ => True) (fun _ U o U' => ∃ v L, o = .returned v ∧ own_Qs10 Z u  h0 n0 v U'.heap L ∧ FrameEnd U o U' L ({ frames := 1, cells := 0, slots := 0, locals := 13 } : Room).cells ({ frames := 1, cells := 0, slots := 0, locals := 13 } : Room).slots) := by
  refine MetFree.of_bodySF (plainFor_of_name own_pn_3) hisR ?_
  intro p e s m args below meth c s₁ Bd hml0 hP hK
  obtain ⟨rfl, hZ, hh⟩ := hP
  have hx := Bd.exec
  have hby := Bd.bytes
  have hml : c.maxLocals = 1 := hml0
  have hown : s.vm.findClass "com/example/smazzata/smazzata/briscola/Briscola" = some m.cls := findClass_of_methodNamed Bd.named
  have hnm := (name_of_methodNamed Bd.named Bd.method).1
  have X0 : Stand p l e ({ frames := 1, cells := 0, slots := 0, locals := 13 } : Room) s m #[(.ref (u 10))] below meth c s₁ [] 0 0 := Stand.of_body Bd
  have e0 : s₁.heap = h0 := by rw [← hh, Bd.state]; rfl
  have N0 := Fr.nil n0
  have K0 := Keep.refl h0 []
  have Z0 : n0 ≤ h0.size := O.1 ▸ O.2.1
  have pre0 : ∀ t, Steps p.tables e below (s₁.setTop (mkF m 0 #[.val (.ref (u 10))] [])) t → Steps p.tables e below (s₁.setTop (entryFrame m #[(.ref (u 10))] 1)) t := fun t k => castTop (own_ef_s10 m (u 10)) k
  obtain ⟨T79, X79, e79, st79⟩ := getS2 X0 hx hZ hown (host := "") (Or.inl (hw _ (List.mem_of_getElem? (i := 19) rfl))) Via.refl e0 (B.2.2.1.ext O.2) (g := (mkF m 0 #[.val (.ref (u 10))] [])) rfl (hb hby d3_0)
  obtain ⟨cq80, kq80, q80a, q80b, q80c⟩ := isOf hZ e79 (B.2.2.2.2.2.2.2.2.2.2.2.2.2.2.2.2.2.2.2.2.1.ext O.2)
  obtain ⟨vr80, _, ⟨T80, L80, k80, n80⟩, -, X80, ⟨Lc80, hQ80, l80, y80, z80⟩, st80⟩ := X79.virtualBackUp hx (x := (⟨"com/example/smazzata/smazzata/card/Rank", "ordinal", "()I"⟩ : MethodName)) (y := (⟨"java/lang/Enum", "ordinal", "()I"⟩ : MethodName)) hown (mvT hZ (hw _ (List.mem_of_getElem? (i := 22) rfl))) (mvT hZ (hw _ (List.mem_of_getElem? (i := 23) rfl))) (mvT hZ (hw _ (List.mem_of_getElem? (i := 24) rfl))) (by decide) (mvT hZ (hw _ (List.mem_of_getElem? (i := 26) rfl))) (mvT hZ (hw _ (List.mem_of_getElem? (i := 25) rfl))) (backOf (W := 1) (rm4 l Z a0 hw [] u (u 10) (6 : Int32) B h0 n0 O (B.2.2.2.2.2.2.2.2.2.2.2.2.2.2.2.2.2.2.2.2.2.2.2.2.2.2.2.2.2.2.2.2.2.2.2.2.2.2.2.2.2.ext O.2)) hZ (hw _ (List.mem_of_getElem? (i := 28) rfl)) (hw _ (List.mem_of_getElem? (i := 27) rfl)) (by decide) (by decide)) q80a q80c (g := (mkF m 4 #[.val (.ref (u 10))] [(.ref (u 10)), (.ref (u 1))])) rfl (by rw [hml]; rfl) (Steps.refl _) (argsL := []) (rest := [(.ref (u 1))]) (lenOf own_pd0 rfl) rfl (by show 2 * 0 + _ ≤ _; exact Nat.le_of_eq rfl) (hb hby d3_4) (fun _ _ => ⟨rfl, e79, (by decide : 0 + 0 ≤ _), (by decide : 0 + 0 ≤ _)⟩)
  dsimp only [Pt.U, Pt.locs, Pt.cells, Pt.slots] at X80 l80 y80 z80 st80 hQ80
  subst l80 y80 z80
  obtain ⟨rfl, N80q, e80⟩ := hQ80
  have N80 := Fr.app N0 N80q
  obtain ⟨kA1, VA1⟩ := B.2.2.2.2.2.2.2.2.2.2.2.2.2.2.2.2.2.2.2.2.2.2.2.1
  obtain ⟨cl81, Ar81, -, S81, N81, H81, -⟩ := (VA1.ext O.2)
  have hin81 : ¬ ((6 : Int32) < 0 ∨ cl81.slots.size ≤ ((6 : Int32)).toNatClampNeg) := inb_of S81 ⟨by decide, by decide⟩
  obtain ⟨fs, hr, hrun, hended, hW, hsame⟩ := X80.leave (v := some (.int (5 : Int32))) (fun h => by rw [Bd.returns] at h; cases h)
  refine ⟨_, _, pre0 _ ?_, hrun, hended, _, _, rfl, ?_, ⟨_, rfl⟩, hW, hsame.mono (by decide) (by decide)⟩
  · show Steps p.tables e below (s₁.setTop (mkF m 0 #[.val (.ref (u 10))] [])) _
    refine st79 _ ?_
    show Steps p.tables e below (T79.setTop (mkF m 3 #[.val (.ref (u 10))] [(.ref (u 1))])) _
    refine XS.aloadN X79.here hx rfl (hb hby d3_3) rfl rfl ?_
    show Steps p.tables e below (T79.setTop (mkF m 4 #[.val (.ref (u 10))] [(.ref (u 10)), (.ref (u 1))])) _
    refine st80.trans ?_
    show Steps p.tables e below (T80.setTop (mkF m 7 #[.val (.ref (u 10))] [(.int (6 : Int32)), (.ref (u 1))])) _
    refine X80.iaload hx (j := (6 : Int32)) (v := (.int (6 : Int32))) (by rw [e80]; exact Ar81.1) (State.isArrayOf_alike hZ.alike Ar81.2.1) Ar81.2.2 hin81 (H81.at hin81 rfl) (g := (mkF m 7 #[.val (.ref (u 10))] [(.int (6 : Int32)), (.ref (u 1))])) rfl rfl (hb hby d3_7) _ ?_
    show Steps p.tables e below (T80.setTop (mkF m 8 #[.val (.ref (u 10))] [(.int (6 : Int32))])) _
    refine XS.tswIn X80.here hx rfl (o := 91) (pc0 := 8) (pc' := 99) rfl (hb hby d3_8) rfl (by decide) (by decide) (by decide) (by decide) ?_
    show Steps p.tables e below (T80.setTop (mkF m 99 #[.val (.ref (u 10))] [])) _
    refine XS.iconst X80.here hx rfl (hb hby d3_99) ?_
    show Steps p.tables e below (T80.setTop (mkF m 100 #[.val (.ref (u 10))] [(.int (5 : Int32))])) _
    refine XS.goto X80.here hx rfl (pc0 := 100) (pc' := 116) rfl (hb hby d3_100) (by decide) (by decide) ?_
    show Steps p.tables e below (T80.setTop (mkF m 116 #[.val (.ref (u 10))] [(.int (5 : Int32))])) _
    exact retI X80 hx Bd.returns (hb hby d3_116) hr
  · show own_Qs10 Z u  h0 n0 _ T80.heap _
    rw [e80]
    exact ⟨rfl, N80, rfl⟩
theorem own_pn_0 : plainName "com/example/smazzata/smazzata/briscola/BriscolaStrengthPinLaw" = true := by first | (simp [plainName, overriddenIn]; done) | decide +kernel
theorem own_ef_0 (m : MethodId) (x0 : Int32) : entryFrame m #[(.int x0)] maxLocals = mkF m 0 #[.val (.int x0), .unset, .unset, .unset, .unset] [] := by first | (simp [entryFrame, mkF, argsToLocals, Value.category, maxLocals]; done) | rfl
def own_Q0 (Z : State) (u : Nat → Addr) (p0 : Int32) (h0 : Heap) (n0 : Nat) (v : Option Value) (h : Heap) (L : List Loc) : Prop := v = some (.int (1 : Int32)) ∧ Fr n0 L ∧ True
set_option maxRecDepth 65536 in
set_option maxHeartbeats 40000000 in
theorem rm0 (l : Launch) (Z : State) (a0 : Array Value) (hw : ∀ d ∈ tables_1, d.before a0 Z = true) (ws : List Jvm.Cond) (u : Nat → Addr) (p0 : Int32) (B : own_Base Z u) (h0 : Heap) (n0 : Nat) (O : Old Z n0 h0) :
    MetFree l x (head1 (Jvm.Cond.code x code maxLocals ret :: ws) room_1) (fun a U => a = #[(.int p0)] ∧ Z.Warmed39 U.vm ∧ U.heap = h0) (fun _ _ _ _ _ => True) (fun _ U o U' => ∃ v L, o = .returned v ∧ own_Q0 Z u p0 h0 n0 v U'.heap L ∧ FrameEnd U o U' L room_1.cells room_1.slots) := by
  refine MetFree.of_bodySF (plainFor_of_name own_pn_0) hisR ?_
  intro p e s m args below meth c s₁ Bd hml0 hP hK
  obtain ⟨rfl, hZ, hh⟩ := hP
  have hx := Bd.exec
  have hby := Bd.bytes
  have hml : c.maxLocals = 5 := hml0
  have hown : s.vm.findClass "com/example/smazzata/smazzata/briscola/BriscolaStrengthPinLaw" = some m.cls := findClass_of_methodNamed Bd.named
  have hnm := (name_of_methodNamed Bd.named Bd.method).1
  have X0 : Stand p l e room_1 s m #[(.int p0)] below meth c s₁ [] 0 0 := Stand.of_body Bd
  have e0 : s₁.heap = h0 := by rw [← hh, Bd.state]; rfl
  have N0 := Fr.nil n0
  have K0 := Keep.refl h0 []
  have Z0 : n0 ≤ h0.size := O.1 ▸ O.2.1
  have pre0 : ∀ t, Steps p.tables e below (s₁.setTop (mkF m 0 #[.val (.int p0), .unset, .unset, .unset, .unset] [])) t → Steps p.tables e below (s₁.setTop (entryFrame m #[(.int p0)] maxLocals)) t := fun t k => castTop (own_ef_0 m p0) k
  have pre83 : ∀ t, Steps p.tables e below (s₁.setTop (mkF m 9 #[.val (.int p0), .val (.int ((p0 &&& (2147483647 : Int32)) % (10 : Int32))), .unset, .unset, .unset] [(.int ((p0 &&& (2147483647 : Int32)) % (10 : Int32)))])) t → Steps p.tables e below (s₁.setTop (entryFrame m #[(.int p0)] maxLocals)) t := fun t kt => pre0 t (by
    show Steps p.tables e below (s₁.setTop (mkF m 0 #[.val (.int p0), .unset, .unset, .unset, .unset] [])) _
    refine XS.iloadN X0.here hx rfl (hb hby at_0) rfl ?_
    show Steps p.tables e below (s₁.setTop (mkF m 1 #[.val (.int p0), .unset, .unset, .unset, .unset] [(.int p0)])) _
    refine X0.ldcInt hx hown (mvT hZ (hw _ (List.mem_of_getElem? (i := 0) rfl))) (g := (mkF m 1 #[.val (.int p0), .unset, .unset, .unset, .unset] [(.int p0)])) rfl (hb hby at_1) _ ?_
    show Steps p.tables e below (s₁.setTop (mkF m 3 #[.val (.int p0), .unset, .unset, .unset, .unset] [(.int (2147483647 : Int32)), (.int p0)])) _
    refine XS.iand X0.here hx rfl (hb hby at_3) rfl ?_
    show Steps p.tables e below (s₁.setTop (mkF m 4 #[.val (.int p0), .unset, .unset, .unset, .unset] [(.int (p0 &&& (2147483647 : Int32)))])) _
    refine XS.bipush X0.here hx rfl (hb hby at_4) ?_
    show Steps p.tables e below (s₁.setTop (mkF m 6 #[.val (.int p0), .unset, .unset, .unset, .unset] [(.int (10 : Int32)), (.int (p0 &&& (2147483647 : Int32)))])) _
    refine iremM X0 hx rfl (hb hby at_6) rfl (by decide) ?_
    show Steps p.tables e below (s₁.setTop (mkF m 7 #[.val (.int p0), .unset, .unset, .unset, .unset] [(.int ((p0 &&& (2147483647 : Int32)) % (10 : Int32)))])) _
    refine XS.istoreN X0.here hx rfl (hb hby at_7) rfl (l' := #[.val (.int p0), .val (.int ((p0 &&& (2147483647 : Int32)) % (10 : Int32))), .unset, .unset, .unset]) rfl ?_
    show Steps p.tables e below (s₁.setTop (mkF m 8 #[.val (.int p0), .val (.int ((p0 &&& (2147483647 : Int32)) % (10 : Int32))), .unset, .unset, .unset] [])) _
    refine XS.iloadN X0.here hx rfl (hb hby at_8) rfl ?_
    exact kt)
  obtain ⟨vr84, _, ⟨T84, L84, k84, n84⟩, -, X84, ⟨Lc84, hQ84, l84, y84, z84⟩, st84⟩ := Jvm.LawKit.callS X0 hx (y := (⟨"com/example/smazzata/smazzata/briscola/BriscolaStrengthPinLaw", "pick", "(I)Lcom/example/smazzata/smazzata/card/Rank;"⟩ : MethodName)) hown (mvT hZ (hw _ (List.mem_of_getElem? (i := 1) rfl))) (mvT hZ (hw _ (List.mem_of_getElem? (i := 2) rfl))) (mvT hZ (hw _ (List.mem_of_getElem? (i := 3) rfl))) (mvT hZ (hw _ (List.mem_of_getElem? (i := 4) rfl))) (by decide) (backOf (W := 0) (rm1 l Z a0 hw [] u ((p0 &&& (2147483647 : Int32)) % (10 : Int32)) B h0 n0 O ) hZ (hw _ (List.mem_of_getElem? (i := 4) rfl)) (hw _ (List.mem_of_getElem? (i := 3) rfl)) (by decide) (by decide)) (g := (mkF m 9 #[.val (.int p0), .val (.int ((p0 &&& (2147483647 : Int32)) % (10 : Int32))), .unset, .unset, .unset] [(.int ((p0 &&& (2147483647 : Int32)) % (10 : Int32)))])) rfl (by rw [hml]; rfl) (argsL := [(.int ((p0 &&& (2147483647 : Int32)) % (10 : Int32)))]) (rest := []) (lenOf own_pd1 rfl) rfl (by show 2 * 0 + _ ≤ _; exact Nat.le_of_eq rfl) (hb hby at_9) (fun _ _ => ⟨rfl, e0, (by decide : 0 + 0 ≤ _), (by decide : 0 + 0 ≤ _)⟩)
  dsimp only [Pt.U, Pt.locs, Pt.cells, Pt.slots] at X84 l84 y84 z84 st84 hQ84
  subst l84 y84 z84
  obtain ⟨hv84, N84q, e84⟩ := hQ84
  have N84 := Fr.app N0 N84q
  by_cases hc85 : ((p0 &&& (2147483647 : Int32)) % (10 : Int32)) = (0 : Int32)
  · --
    obtain rfl : vr84 = some (.ref (u 0)) := hv84.trans (by unfold own_r1; rw [if_pos hc85])
    obtain ⟨cq86, kq86, q86a, q86b, q86c⟩ := isOf hZ e84 (B.2.1.ext O.2)
    obtain ⟨vr86, _, ⟨T86, L86, k86, n86⟩, -, X86, ⟨Lc86, hQ86, l86, y86, z86⟩, st86⟩ := X84.virtualBack hx (y := (⟨"com/example/smazzata/smazzata/card/Rank", "captureValue", "()I"⟩ : MethodName)) (z := (⟨"com/example/smazzata/smazzata/card/Rank", "captureValue", "()I"⟩ : MethodName)) hown (mvT hZ (hw _ (List.mem_of_getElem? (i := 8) rfl))) (mvT hZ (hw _ (List.mem_of_getElem? (i := 9) rfl))) (notFace_of_selects (args := #[]) (mvT hZ (hw _ (List.mem_of_getElem? (i := 11) rfl)))) (mvT hZ (hw _ (List.mem_of_getElem? (i := 11) rfl))) (mvT hZ (hw _ (List.mem_of_getElem? (i := 10) rfl))) (by decide) (backOf (W := 0) (rm2 l Z a0 hw [] u (u 0) (1 : Int32) B h0 n0 O (B.2.2.2.2.2.2.2.2.2.2.2.2.2.2.2.2.2.2.2.2.2.1.ext O.2)) hZ (hw _ (List.mem_of_getElem? (i := 12) rfl)) (hw _ (List.mem_of_getElem? (i := 6) rfl)) (by decide) (by decide)) q86a q86c (g := (mkF m 14 #[.val (.int p0), .val (.int ((p0 &&& (2147483647 : Int32)) % (10 : Int32))), .val (.ref (u 0)), .unset, .unset] [(.ref (u 0))])) rfl (by rw [hml]; rfl) (Steps.refl _) (argsL := []) (rest := []) (lenOf own_pd0 rfl) rfl (by show 2 * 0 + _ ≤ _; exact Nat.le_of_eq rfl) (hb hby at_14) (fun _ _ => ⟨rfl, e84, (by decide : 0 + 0 ≤ _), (by decide : 0 + 0 ≤ _)⟩)
    dsimp only [Pt.U, Pt.locs, Pt.cells, Pt.slots] at X86 l86 y86 z86 st86 hQ86
    subst l86 y86 z86
    obtain ⟨rfl, N86q, e86⟩ := hQ86
    have N86 := Fr.app N84 N86q
    obtain ⟨vr87, _, ⟨T87, L87, k87, n87⟩, -, X87, ⟨Lc87, hQ87, l87, y87, z87⟩, st87⟩ := Jvm.LawKit.callS X86 hx (y := (⟨"com/example/smazzata/smazzata/briscola/Briscola", "strength", "(Lcom/example/smazzata/smazzata/card/Rank;)I"⟩ : MethodName)) hown (mvT hZ (hw _ (List.mem_of_getElem? (i := 15) rfl))) (mvT hZ (hw _ (List.mem_of_getElem? (i := 16) rfl))) (mvT hZ (hw _ (List.mem_of_getElem? (i := 17) rfl))) (mvT hZ (hw _ (List.mem_of_getElem? (i := 18) rfl))) (by decide) (backOf (W := 0) (rms0 l Z a0 hw [] u  B h0 n0 O ) hZ (hw _ (List.mem_of_getElem? (i := 18) rfl)) (hw _ (List.mem_of_getElem? (i := 17) rfl)) (by decide) (by decide)) (g := (mkF m 59 #[.val (.int p0), .val (.int ((p0 &&& (2147483647 : Int32)) % (10 : Int32))), .val (.ref (u 0)), .val (.int (1 : Int32)), .val (.int (10 : Int32))] [(.ref (u 0))])) rfl (by rw [hml]; rfl) (argsL := [(.ref (u 0))]) (rest := []) (lenOf own_pd2 rfl) rfl (by show 2 * 0 + _ ≤ _; exact Nat.le_of_eq rfl) (hb hby at_59) (fun _ _ => ⟨rfl, e86, (by decide : 0 + 0 ≤ _), (by decide : 0 + 0 ≤ _)⟩)
    dsimp only [Pt.U, Pt.locs, Pt.cells, Pt.slots] at X87 l87 y87 z87 st87 hQ87
    subst l87 y87 z87
    obtain ⟨rfl, N87q, e87⟩ := hQ87
    have N87 := Fr.app N86 N87q
    obtain ⟨fs, hr, hrun, hended, hW, hsame⟩ := X87.leave (v := some (.int (1 : Int32))) (fun h => by rw [Bd.returns] at h; cases h)
    refine ⟨_, _, pre83 _ ?_, hrun, hended, _, _, rfl, ?_, ⟨_, rfl⟩, hW, hsame.mono (by decide) (by decide)⟩
    · show Steps p.tables e below (s₁.setTop (mkF m 9 #[.val (.int p0), .val (.int ((p0 &&& (2147483647 : Int32)) % (10 : Int32))), .unset, .unset, .unset] [(.int ((p0 &&& (2147483647 : Int32)) % (10 : Int32)))])) _
      refine st84 _ ?_
      show Steps p.tables e below (T84.setTop (mkF m 12 #[.val (.int p0), .val (.int ((p0 &&& (2147483647 : Int32)) % (10 : Int32))), .unset, .unset, .unset] [(.ref (u 0))])) _
      refine XS.astoreN X84.here hx rfl (hb hby at_12) rfl rfl (l' := #[.val (.int p0), .val (.int ((p0 &&& (2147483647 : Int32)) % (10 : Int32))), .val (.ref (u 0)), .unset, .unset]) rfl ?_
      show Steps p.tables e below (T84.setTop (mkF m 13 #[.val (.int p0), .val (.int ((p0 &&& (2147483647 : Int32)) % (10 : Int32))), .val (.ref (u 0)), .unset, .unset] [])) _
      refine XS.aloadN X84.here hx rfl (hb hby at_13) rfl rfl ?_
      show Steps p.tables e below (T84.setTop (mkF m 14 #[.val (.int p0), .val (.int ((p0 &&& (2147483647 : Int32)) % (10 : Int32))), .val (.ref (u 0)), .unset, .unset] [(.ref (u 0))])) _
      refine st86.trans ?_
      show Steps p.tables e below (T86.setTop (mkF m 17 #[.val (.int p0), .val (.int ((p0 &&& (2147483647 : Int32)) % (10 : Int32))), .val (.ref (u 0)), .unset, .unset] [(.int (1 : Int32))])) _
      refine XS.istoreN X86.here hx rfl (hb hby at_17) rfl (l' := #[.val (.int p0), .val (.int ((p0 &&& (2147483647 : Int32)) % (10 : Int32))), .val (.ref (u 0)), .val (.int (1 : Int32)), .unset]) rfl ?_
      show Steps p.tables e below (T86.setTop (mkF m 18 #[.val (.int p0), .val (.int ((p0 &&& (2147483647 : Int32)) % (10 : Int32))), .val (.ref (u 0)), .val (.int (1 : Int32)), .unset] [])) _
      refine XS.iloadN X86.here hx rfl (hb hby at_18) rfl ?_
      show Steps p.tables e below (T86.setTop (mkF m 19 #[.val (.int p0), .val (.int ((p0 &&& (2147483647 : Int32)) % (10 : Int32))), .val (.ref (u 0)), .val (.int (1 : Int32)), .unset] [(.int (1 : Int32))])) _
      refine XS.iconst X86.here hx rfl (hb hby at_19) ?_
      show Steps p.tables e below (T86.setTop (mkF m 20 #[.val (.int p0), .val (.int ((p0 &&& (2147483647 : Int32)) % (10 : Int32))), .val (.ref (u 0)), .val (.int (1 : Int32)), .unset] [(.int (1 : Int32)), (.int (1 : Int32))])) _
      refine XS.icmpNo X86.here hx rfl (hb hby at_20) rfl (teq (by decide : (1 : Int32) = (1 : Int32))).2 ?_
      show Steps p.tables e below (T86.setTop (mkF m 23 #[.val (.int p0), .val (.int ((p0 &&& (2147483647 : Int32)) % (10 : Int32))), .val (.ref (u 0)), .val (.int (1 : Int32)), .unset] [])) _
      refine XS.bipush X86.here hx rfl (hb hby at_23) ?_
      show Steps p.tables e below (T86.setTop (mkF m 25 #[.val (.int p0), .val (.int ((p0 &&& (2147483647 : Int32)) % (10 : Int32))), .val (.ref (u 0)), .val (.int (1 : Int32)), .unset] [(.int (10 : Int32))])) _
      refine XS.istore X86.here hx rfl (hb hby at_25) rfl (l' := #[.val (.int p0), .val (.int ((p0 &&& (2147483647 : Int32)) % (10 : Int32))), .val (.ref (u 0)), .val (.int (1 : Int32)), .val (.int (10 : Int32))]) rfl ?_
      show Steps p.tables e below (T86.setTop (mkF m 27 #[.val (.int p0), .val (.int ((p0 &&& (2147483647 : Int32)) % (10 : Int32))), .val (.ref (u 0)), .val (.int (1 : Int32)), .val (.int (10 : Int32))] [])) _
      refine XS.goto X86.here hx rfl (pc0 := 27) (pc' := 58) rfl (hb hby at_27) (by decide) (by decide) ?_
      show Steps p.tables e below (T86.setTop (mkF m 58 #[.val (.int p0), .val (.int ((p0 &&& (2147483647 : Int32)) % (10 : Int32))), .val (.ref (u 0)), .val (.int (1 : Int32)), .val (.int (10 : Int32))] [])) _
      refine XS.aloadN X86.here hx rfl (hb hby at_58) rfl rfl ?_
      show Steps p.tables e below (T86.setTop (mkF m 59 #[.val (.int p0), .val (.int ((p0 &&& (2147483647 : Int32)) % (10 : Int32))), .val (.ref (u 0)), .val (.int (1 : Int32)), .val (.int (10 : Int32))] [(.ref (u 0))])) _
      refine st87 _ ?_
      show Steps p.tables e below (T87.setTop (mkF m 62 #[.val (.int p0), .val (.int ((p0 &&& (2147483647 : Int32)) % (10 : Int32))), .val (.ref (u 0)), .val (.int (1 : Int32)), .val (.int (10 : Int32))] [(.int (10 : Int32))])) _
      refine XS.iload X87.here hx rfl (hb hby at_62) rfl ?_
      show Steps p.tables e below (T87.setTop (mkF m 64 #[.val (.int p0), .val (.int ((p0 &&& (2147483647 : Int32)) % (10 : Int32))), .val (.ref (u 0)), .val (.int (1 : Int32)), .val (.int (10 : Int32))] [(.int (10 : Int32)), (.int (10 : Int32))])) _
      refine XS.icmpNo X87.here hx rfl (hb hby at_64) rfl (teq (by decide : (10 : Int32) = (10 : Int32))).2 ?_
      show Steps p.tables e below (T87.setTop (mkF m 67 #[.val (.int p0), .val (.int ((p0 &&& (2147483647 : Int32)) % (10 : Int32))), .val (.ref (u 0)), .val (.int (1 : Int32)), .val (.int (10 : Int32))] [])) _
      refine XS.iconst X87.here hx rfl (hb hby at_67) ?_
      show Steps p.tables e below (T87.setTop (mkF m 68 #[.val (.int p0), .val (.int ((p0 &&& (2147483647 : Int32)) % (10 : Int32))), .val (.ref (u 0)), .val (.int (1 : Int32)), .val (.int (10 : Int32))] [(.int (1 : Int32))])) _
      refine XS.goto X87.here hx rfl (pc0 := 68) (pc' := 72) rfl (hb hby at_68) (by decide) (by decide) ?_
      show Steps p.tables e below (T87.setTop (mkF m 72 #[.val (.int p0), .val (.int ((p0 &&& (2147483647 : Int32)) % (10 : Int32))), .val (.ref (u 0)), .val (.int (1 : Int32)), .val (.int (10 : Int32))] [(.int (1 : Int32))])) _
      exact retN X87 hx (t := .boolean) Bd.returns (by simp) (hb hby at_72) hr
    · show own_Q0 Z u p0 h0 n0 _ T87.heap _
      rw [e87]
      exact ⟨rfl, N87, trivial⟩
  · --
    by_cases hc89 : ((p0 &&& (2147483647 : Int32)) % (10 : Int32)) = (1 : Int32)
    · --
      obtain rfl : vr84 = some (.ref (u 3)) := hv84.trans (by unfold own_r1; rw [if_neg hc85, if_pos hc89])
      obtain ⟨cq90, kq90, q90a, q90b, q90c⟩ := isOf hZ e84 (B.2.2.2.2.2.2.1.ext O.2)
      obtain ⟨vr90, _, ⟨T90, L90, k90, n90⟩, -, X90, ⟨Lc90, hQ90, l90, y90, z90⟩, st90⟩ := X84.virtualBack hx (y := (⟨"com/example/smazzata/smazzata/card/Rank", "captureValue", "()I"⟩ : MethodName)) (z := (⟨"com/example/smazzata/smazzata/card/Rank", "captureValue", "()I"⟩ : MethodName)) hown (mvT hZ (hw _ (List.mem_of_getElem? (i := 8) rfl))) (mvT hZ (hw _ (List.mem_of_getElem? (i := 9) rfl))) (notFace_of_selects (args := #[]) (mvT hZ (hw _ (List.mem_of_getElem? (i := 11) rfl)))) (mvT hZ (hw _ (List.mem_of_getElem? (i := 11) rfl))) (mvT hZ (hw _ (List.mem_of_getElem? (i := 10) rfl))) (by decide) (backOf (W := 0) (rm2 l Z a0 hw [] u (u 3) (2 : Int32) B h0 n0 O (B.2.2.2.2.2.2.2.2.2.2.2.2.2.2.2.2.2.2.2.2.2.2.2.2.2.2.1.ext O.2)) hZ (hw _ (List.mem_of_getElem? (i := 12) rfl)) (hw _ (List.mem_of_getElem? (i := 6) rfl)) (by decide) (by decide)) q90a q90c (g := (mkF m 14 #[.val (.int p0), .val (.int ((p0 &&& (2147483647 : Int32)) % (10 : Int32))), .val (.ref (u 3)), .unset, .unset] [(.ref (u 3))])) rfl (by rw [hml]; rfl) (Steps.refl _) (argsL := []) (rest := []) (lenOf own_pd0 rfl) rfl (by show 2 * 0 + _ ≤ _; exact Nat.le_of_eq rfl) (hb hby at_14) (fun _ _ => ⟨rfl, e84, (by decide : 0 + 0 ≤ _), (by decide : 0 + 0 ≤ _)⟩)
      dsimp only [Pt.U, Pt.locs, Pt.cells, Pt.slots] at X90 l90 y90 z90 st90 hQ90
      subst l90 y90 z90
      obtain ⟨rfl, N90q, e90⟩ := hQ90
      have N90 := Fr.app N84 N90q
      obtain ⟨vr91, _, ⟨T91, L91, k91, n91⟩, -, X91, ⟨Lc91, hQ91, l91, y91, z91⟩, st91⟩ := Jvm.LawKit.callS X90 hx (y := (⟨"com/example/smazzata/smazzata/briscola/Briscola", "strength", "(Lcom/example/smazzata/smazzata/card/Rank;)I"⟩ : MethodName)) hown (mvT hZ (hw _ (List.mem_of_getElem? (i := 15) rfl))) (mvT hZ (hw _ (List.mem_of_getElem? (i := 16) rfl))) (mvT hZ (hw _ (List.mem_of_getElem? (i := 17) rfl))) (mvT hZ (hw _ (List.mem_of_getElem? (i := 18) rfl))) (by decide) (backOf (W := 0) (rms3 l Z a0 hw [] u  B h0 n0 O ) hZ (hw _ (List.mem_of_getElem? (i := 18) rfl)) (hw _ (List.mem_of_getElem? (i := 17) rfl)) (by decide) (by decide)) (g := (mkF m 59 #[.val (.int p0), .val (.int ((p0 &&& (2147483647 : Int32)) % (10 : Int32))), .val (.ref (u 3)), .val (.int (2 : Int32)), .val (.int (1 : Int32))] [(.ref (u 3))])) rfl (by rw [hml]; rfl) (argsL := [(.ref (u 3))]) (rest := []) (lenOf own_pd2 rfl) rfl (by show 2 * 0 + _ ≤ _; exact Nat.le_of_eq rfl) (hb hby at_59) (fun _ _ => ⟨rfl, e90, (by decide : 0 + 0 ≤ _), (by decide : 0 + 0 ≤ _)⟩)
      dsimp only [Pt.U, Pt.locs, Pt.cells, Pt.slots] at X91 l91 y91 z91 st91 hQ91
      subst l91 y91 z91
      obtain ⟨rfl, N91q, e91⟩ := hQ91
      have N91 := Fr.app N90 N91q
      obtain ⟨fs, hr, hrun, hended, hW, hsame⟩ := X91.leave (v := some (.int (1 : Int32))) (fun h => by rw [Bd.returns] at h; cases h)
      refine ⟨_, _, pre83 _ ?_, hrun, hended, _, _, rfl, ?_, ⟨_, rfl⟩, hW, hsame.mono (by decide) (by decide)⟩
      · show Steps p.tables e below (s₁.setTop (mkF m 9 #[.val (.int p0), .val (.int ((p0 &&& (2147483647 : Int32)) % (10 : Int32))), .unset, .unset, .unset] [(.int ((p0 &&& (2147483647 : Int32)) % (10 : Int32)))])) _
        refine st84 _ ?_
        show Steps p.tables e below (T84.setTop (mkF m 12 #[.val (.int p0), .val (.int ((p0 &&& (2147483647 : Int32)) % (10 : Int32))), .unset, .unset, .unset] [(.ref (u 3))])) _
        refine XS.astoreN X84.here hx rfl (hb hby at_12) rfl rfl (l' := #[.val (.int p0), .val (.int ((p0 &&& (2147483647 : Int32)) % (10 : Int32))), .val (.ref (u 3)), .unset, .unset]) rfl ?_
        show Steps p.tables e below (T84.setTop (mkF m 13 #[.val (.int p0), .val (.int ((p0 &&& (2147483647 : Int32)) % (10 : Int32))), .val (.ref (u 3)), .unset, .unset] [])) _
        refine XS.aloadN X84.here hx rfl (hb hby at_13) rfl rfl ?_
        show Steps p.tables e below (T84.setTop (mkF m 14 #[.val (.int p0), .val (.int ((p0 &&& (2147483647 : Int32)) % (10 : Int32))), .val (.ref (u 3)), .unset, .unset] [(.ref (u 3))])) _
        refine st90.trans ?_
        show Steps p.tables e below (T90.setTop (mkF m 17 #[.val (.int p0), .val (.int ((p0 &&& (2147483647 : Int32)) % (10 : Int32))), .val (.ref (u 3)), .unset, .unset] [(.int (2 : Int32))])) _
        refine XS.istoreN X90.here hx rfl (hb hby at_17) rfl (l' := #[.val (.int p0), .val (.int ((p0 &&& (2147483647 : Int32)) % (10 : Int32))), .val (.ref (u 3)), .val (.int (2 : Int32)), .unset]) rfl ?_
        show Steps p.tables e below (T90.setTop (mkF m 18 #[.val (.int p0), .val (.int ((p0 &&& (2147483647 : Int32)) % (10 : Int32))), .val (.ref (u 3)), .val (.int (2 : Int32)), .unset] [])) _
        refine XS.iloadN X90.here hx rfl (hb hby at_18) rfl ?_
        show Steps p.tables e below (T90.setTop (mkF m 19 #[.val (.int p0), .val (.int ((p0 &&& (2147483647 : Int32)) % (10 : Int32))), .val (.ref (u 3)), .val (.int (2 : Int32)), .unset] [(.int (2 : Int32))])) _
        refine XS.iconst X90.here hx rfl (hb hby at_19) ?_
        show Steps p.tables e below (T90.setTop (mkF m 20 #[.val (.int p0), .val (.int ((p0 &&& (2147483647 : Int32)) % (10 : Int32))), .val (.ref (u 3)), .val (.int (2 : Int32)), .unset] [(.int (1 : Int32)), (.int (2 : Int32))])) _
        refine XS.icmpYes X90.here hx rfl (pc0 := 20) (pc' := 30) rfl (hb hby at_20) rfl (feq (by decide : ¬ ((2 : Int32) = (1 : Int32)))).2 (by decide) (by decide) ?_
        show Steps p.tables e below (T90.setTop (mkF m 30 #[.val (.int p0), .val (.int ((p0 &&& (2147483647 : Int32)) % (10 : Int32))), .val (.ref (u 3)), .val (.int (2 : Int32)), .unset] [])) _
        refine XS.iloadN X90.here hx rfl (hb hby at_30) rfl ?_
        show Steps p.tables e below (T90.setTop (mkF m 31 #[.val (.int p0), .val (.int ((p0 &&& (2147483647 : Int32)) % (10 : Int32))), .val (.ref (u 3)), .val (.int (2 : Int32)), .unset] [(.int (2 : Int32))])) _
        refine XS.iconst X90.here hx rfl (hb hby at_31) ?_
        show Steps p.tables e below (T90.setTop (mkF m 32 #[.val (.int p0), .val (.int ((p0 &&& (2147483647 : Int32)) % (10 : Int32))), .val (.ref (u 3)), .val (.int (2 : Int32)), .unset] [(.int (3 : Int32)), (.int (2 : Int32))])) _
        refine XS.icmpYes X90.here hx rfl (pc0 := 32) (pc' := 42) rfl (hb hby at_32) rfl (feq (by decide : ¬ ((2 : Int32) = (3 : Int32)))).2 (by decide) (by decide) ?_
        show Steps p.tables e below (T90.setTop (mkF m 42 #[.val (.int p0), .val (.int ((p0 &&& (2147483647 : Int32)) % (10 : Int32))), .val (.ref (u 3)), .val (.int (2 : Int32)), .unset] [])) _
        refine XS.iloadN X90.here hx rfl (hb hby at_42) rfl ?_
        show Steps p.tables e below (T90.setTop (mkF m 43 #[.val (.int p0), .val (.int ((p0 &&& (2147483647 : Int32)) % (10 : Int32))), .val (.ref (u 3)), .val (.int (2 : Int32)), .unset] [(.int (2 : Int32))])) _
        refine XS.iconst X90.here hx rfl (hb hby at_43) ?_
        show Steps p.tables e below (T90.setTop (mkF m 44 #[.val (.int p0), .val (.int ((p0 &&& (2147483647 : Int32)) % (10 : Int32))), .val (.ref (u 3)), .val (.int (2 : Int32)), .unset] [(.int (2 : Int32)), (.int (2 : Int32))])) _
        refine XS.icmpNo X90.here hx rfl (hb hby at_44) rfl (teq (by decide : (2 : Int32) = (2 : Int32))).2 ?_
        show Steps p.tables e below (T90.setTop (mkF m 47 #[.val (.int p0), .val (.int ((p0 &&& (2147483647 : Int32)) % (10 : Int32))), .val (.ref (u 3)), .val (.int (2 : Int32)), .unset] [])) _
        refine XS.iconst X90.here hx rfl (hb hby at_47) ?_
        show Steps p.tables e below (T90.setTop (mkF m 48 #[.val (.int p0), .val (.int ((p0 &&& (2147483647 : Int32)) % (10 : Int32))), .val (.ref (u 3)), .val (.int (2 : Int32)), .unset] [(.int (1 : Int32))])) _
        refine XS.istore X90.here hx rfl (hb hby at_48) rfl (l' := #[.val (.int p0), .val (.int ((p0 &&& (2147483647 : Int32)) % (10 : Int32))), .val (.ref (u 3)), .val (.int (2 : Int32)), .val (.int (1 : Int32))]) rfl ?_
        show Steps p.tables e below (T90.setTop (mkF m 50 #[.val (.int p0), .val (.int ((p0 &&& (2147483647 : Int32)) % (10 : Int32))), .val (.ref (u 3)), .val (.int (2 : Int32)), .val (.int (1 : Int32))] [])) _
        refine XS.goto X90.here hx rfl (pc0 := 50) (pc' := 58) rfl (hb hby at_50) (by decide) (by decide) ?_
        show Steps p.tables e below (T90.setTop (mkF m 58 #[.val (.int p0), .val (.int ((p0 &&& (2147483647 : Int32)) % (10 : Int32))), .val (.ref (u 3)), .val (.int (2 : Int32)), .val (.int (1 : Int32))] [])) _
        refine XS.aloadN X90.here hx rfl (hb hby at_58) rfl rfl ?_
        show Steps p.tables e below (T90.setTop (mkF m 59 #[.val (.int p0), .val (.int ((p0 &&& (2147483647 : Int32)) % (10 : Int32))), .val (.ref (u 3)), .val (.int (2 : Int32)), .val (.int (1 : Int32))] [(.ref (u 3))])) _
        refine st91 _ ?_
        show Steps p.tables e below (T91.setTop (mkF m 62 #[.val (.int p0), .val (.int ((p0 &&& (2147483647 : Int32)) % (10 : Int32))), .val (.ref (u 3)), .val (.int (2 : Int32)), .val (.int (1 : Int32))] [(.int (1 : Int32))])) _
        refine XS.iload X91.here hx rfl (hb hby at_62) rfl ?_
        show Steps p.tables e below (T91.setTop (mkF m 64 #[.val (.int p0), .val (.int ((p0 &&& (2147483647 : Int32)) % (10 : Int32))), .val (.ref (u 3)), .val (.int (2 : Int32)), .val (.int (1 : Int32))] [(.int (1 : Int32)), (.int (1 : Int32))])) _
        refine XS.icmpNo X91.here hx rfl (hb hby at_64) rfl (teq (by decide : (1 : Int32) = (1 : Int32))).2 ?_
        show Steps p.tables e below (T91.setTop (mkF m 67 #[.val (.int p0), .val (.int ((p0 &&& (2147483647 : Int32)) % (10 : Int32))), .val (.ref (u 3)), .val (.int (2 : Int32)), .val (.int (1 : Int32))] [])) _
        refine XS.iconst X91.here hx rfl (hb hby at_67) ?_
        show Steps p.tables e below (T91.setTop (mkF m 68 #[.val (.int p0), .val (.int ((p0 &&& (2147483647 : Int32)) % (10 : Int32))), .val (.ref (u 3)), .val (.int (2 : Int32)), .val (.int (1 : Int32))] [(.int (1 : Int32))])) _
        refine XS.goto X91.here hx rfl (pc0 := 68) (pc' := 72) rfl (hb hby at_68) (by decide) (by decide) ?_
        show Steps p.tables e below (T91.setTop (mkF m 72 #[.val (.int p0), .val (.int ((p0 &&& (2147483647 : Int32)) % (10 : Int32))), .val (.ref (u 3)), .val (.int (2 : Int32)), .val (.int (1 : Int32))] [(.int (1 : Int32))])) _
        exact retN X91 hx (t := .boolean) Bd.returns (by simp) (hb hby at_72) hr
      · show own_Q0 Z u p0 h0 n0 _ T91.heap _
        rw [e91]
        exact ⟨rfl, N91, trivial⟩
    · --
      by_cases hc93 : ((p0 &&& (2147483647 : Int32)) % (10 : Int32)) = (2 : Int32)
      · --
        obtain rfl : vr84 = some (.ref (u 6)) := hv84.trans (by unfold own_r1; rw [if_neg hc85, if_neg hc89, if_pos hc93])
        obtain ⟨cq94, kq94, q94a, q94b, q94c⟩ := isOf hZ e84 (B.2.2.2.2.2.2.2.2.2.2.2.2.1.ext O.2)
        obtain ⟨vr94, _, ⟨T94, L94, k94, n94⟩, -, X94, ⟨Lc94, hQ94, l94, y94, z94⟩, st94⟩ := X84.virtualBack hx (y := (⟨"com/example/smazzata/smazzata/card/Rank", "captureValue", "()I"⟩ : MethodName)) (z := (⟨"com/example/smazzata/smazzata/card/Rank", "captureValue", "()I"⟩ : MethodName)) hown (mvT hZ (hw _ (List.mem_of_getElem? (i := 8) rfl))) (mvT hZ (hw _ (List.mem_of_getElem? (i := 9) rfl))) (notFace_of_selects (args := #[]) (mvT hZ (hw _ (List.mem_of_getElem? (i := 11) rfl)))) (mvT hZ (hw _ (List.mem_of_getElem? (i := 11) rfl))) (mvT hZ (hw _ (List.mem_of_getElem? (i := 10) rfl))) (by decide) (backOf (W := 0) (rm2 l Z a0 hw [] u (u 6) (3 : Int32) B h0 n0 O (B.2.2.2.2.2.2.2.2.2.2.2.2.2.2.2.2.2.2.2.2.2.2.2.2.2.2.2.2.2.2.2.2.1.ext O.2)) hZ (hw _ (List.mem_of_getElem? (i := 12) rfl)) (hw _ (List.mem_of_getElem? (i := 6) rfl)) (by decide) (by decide)) q94a q94c (g := (mkF m 14 #[.val (.int p0), .val (.int ((p0 &&& (2147483647 : Int32)) % (10 : Int32))), .val (.ref (u 6)), .unset, .unset] [(.ref (u 6))])) rfl (by rw [hml]; rfl) (Steps.refl _) (argsL := []) (rest := []) (lenOf own_pd0 rfl) rfl (by show 2 * 0 + _ ≤ _; exact Nat.le_of_eq rfl) (hb hby at_14) (fun _ _ => ⟨rfl, e84, (by decide : 0 + 0 ≤ _), (by decide : 0 + 0 ≤ _)⟩)
        dsimp only [Pt.U, Pt.locs, Pt.cells, Pt.slots] at X94 l94 y94 z94 st94 hQ94
        subst l94 y94 z94
        obtain ⟨rfl, N94q, e94⟩ := hQ94
        have N94 := Fr.app N84 N94q
        obtain ⟨vr95, _, ⟨T95, L95, k95, n95⟩, -, X95, ⟨Lc95, hQ95, l95, y95, z95⟩, st95⟩ := Jvm.LawKit.callS X94 hx (y := (⟨"com/example/smazzata/smazzata/briscola/Briscola", "strength", "(Lcom/example/smazzata/smazzata/card/Rank;)I"⟩ : MethodName)) hown (mvT hZ (hw _ (List.mem_of_getElem? (i := 15) rfl))) (mvT hZ (hw _ (List.mem_of_getElem? (i := 16) rfl))) (mvT hZ (hw _ (List.mem_of_getElem? (i := 17) rfl))) (mvT hZ (hw _ (List.mem_of_getElem? (i := 18) rfl))) (by decide) (backOf (W := 0) (rms6 l Z a0 hw [] u  B h0 n0 O ) hZ (hw _ (List.mem_of_getElem? (i := 18) rfl)) (hw _ (List.mem_of_getElem? (i := 17) rfl)) (by decide) (by decide)) (g := (mkF m 59 #[.val (.int p0), .val (.int ((p0 &&& (2147483647 : Int32)) % (10 : Int32))), .val (.ref (u 6)), .val (.int (3 : Int32)), .val (.int (9 : Int32))] [(.ref (u 6))])) rfl (by rw [hml]; rfl) (argsL := [(.ref (u 6))]) (rest := []) (lenOf own_pd2 rfl) rfl (by show 2 * 0 + _ ≤ _; exact Nat.le_of_eq rfl) (hb hby at_59) (fun _ _ => ⟨rfl, e94, (by decide : 0 + 0 ≤ _), (by decide : 0 + 0 ≤ _)⟩)
        dsimp only [Pt.U, Pt.locs, Pt.cells, Pt.slots] at X95 l95 y95 z95 st95 hQ95
        subst l95 y95 z95
        obtain ⟨rfl, N95q, e95⟩ := hQ95
        have N95 := Fr.app N94 N95q
        obtain ⟨fs, hr, hrun, hended, hW, hsame⟩ := X95.leave (v := some (.int (1 : Int32))) (fun h => by rw [Bd.returns] at h; cases h)
        refine ⟨_, _, pre83 _ ?_, hrun, hended, _, _, rfl, ?_, ⟨_, rfl⟩, hW, hsame.mono (by decide) (by decide)⟩
        · show Steps p.tables e below (s₁.setTop (mkF m 9 #[.val (.int p0), .val (.int ((p0 &&& (2147483647 : Int32)) % (10 : Int32))), .unset, .unset, .unset] [(.int ((p0 &&& (2147483647 : Int32)) % (10 : Int32)))])) _
          refine st84 _ ?_
          show Steps p.tables e below (T84.setTop (mkF m 12 #[.val (.int p0), .val (.int ((p0 &&& (2147483647 : Int32)) % (10 : Int32))), .unset, .unset, .unset] [(.ref (u 6))])) _
          refine XS.astoreN X84.here hx rfl (hb hby at_12) rfl rfl (l' := #[.val (.int p0), .val (.int ((p0 &&& (2147483647 : Int32)) % (10 : Int32))), .val (.ref (u 6)), .unset, .unset]) rfl ?_
          show Steps p.tables e below (T84.setTop (mkF m 13 #[.val (.int p0), .val (.int ((p0 &&& (2147483647 : Int32)) % (10 : Int32))), .val (.ref (u 6)), .unset, .unset] [])) _
          refine XS.aloadN X84.here hx rfl (hb hby at_13) rfl rfl ?_
          show Steps p.tables e below (T84.setTop (mkF m 14 #[.val (.int p0), .val (.int ((p0 &&& (2147483647 : Int32)) % (10 : Int32))), .val (.ref (u 6)), .unset, .unset] [(.ref (u 6))])) _
          refine st94.trans ?_
          show Steps p.tables e below (T94.setTop (mkF m 17 #[.val (.int p0), .val (.int ((p0 &&& (2147483647 : Int32)) % (10 : Int32))), .val (.ref (u 6)), .unset, .unset] [(.int (3 : Int32))])) _
          refine XS.istoreN X94.here hx rfl (hb hby at_17) rfl (l' := #[.val (.int p0), .val (.int ((p0 &&& (2147483647 : Int32)) % (10 : Int32))), .val (.ref (u 6)), .val (.int (3 : Int32)), .unset]) rfl ?_
          show Steps p.tables e below (T94.setTop (mkF m 18 #[.val (.int p0), .val (.int ((p0 &&& (2147483647 : Int32)) % (10 : Int32))), .val (.ref (u 6)), .val (.int (3 : Int32)), .unset] [])) _
          refine XS.iloadN X94.here hx rfl (hb hby at_18) rfl ?_
          show Steps p.tables e below (T94.setTop (mkF m 19 #[.val (.int p0), .val (.int ((p0 &&& (2147483647 : Int32)) % (10 : Int32))), .val (.ref (u 6)), .val (.int (3 : Int32)), .unset] [(.int (3 : Int32))])) _
          refine XS.iconst X94.here hx rfl (hb hby at_19) ?_
          show Steps p.tables e below (T94.setTop (mkF m 20 #[.val (.int p0), .val (.int ((p0 &&& (2147483647 : Int32)) % (10 : Int32))), .val (.ref (u 6)), .val (.int (3 : Int32)), .unset] [(.int (1 : Int32)), (.int (3 : Int32))])) _
          refine XS.icmpYes X94.here hx rfl (pc0 := 20) (pc' := 30) rfl (hb hby at_20) rfl (feq (by decide : ¬ ((3 : Int32) = (1 : Int32)))).2 (by decide) (by decide) ?_
          show Steps p.tables e below (T94.setTop (mkF m 30 #[.val (.int p0), .val (.int ((p0 &&& (2147483647 : Int32)) % (10 : Int32))), .val (.ref (u 6)), .val (.int (3 : Int32)), .unset] [])) _
          refine XS.iloadN X94.here hx rfl (hb hby at_30) rfl ?_
          show Steps p.tables e below (T94.setTop (mkF m 31 #[.val (.int p0), .val (.int ((p0 &&& (2147483647 : Int32)) % (10 : Int32))), .val (.ref (u 6)), .val (.int (3 : Int32)), .unset] [(.int (3 : Int32))])) _
          refine XS.iconst X94.here hx rfl (hb hby at_31) ?_
          show Steps p.tables e below (T94.setTop (mkF m 32 #[.val (.int p0), .val (.int ((p0 &&& (2147483647 : Int32)) % (10 : Int32))), .val (.ref (u 6)), .val (.int (3 : Int32)), .unset] [(.int (3 : Int32)), (.int (3 : Int32))])) _
          refine XS.icmpNo X94.here hx rfl (hb hby at_32) rfl (teq (by decide : (3 : Int32) = (3 : Int32))).2 ?_
          show Steps p.tables e below (T94.setTop (mkF m 35 #[.val (.int p0), .val (.int ((p0 &&& (2147483647 : Int32)) % (10 : Int32))), .val (.ref (u 6)), .val (.int (3 : Int32)), .unset] [])) _
          refine XS.bipush X94.here hx rfl (hb hby at_35) ?_
          show Steps p.tables e below (T94.setTop (mkF m 37 #[.val (.int p0), .val (.int ((p0 &&& (2147483647 : Int32)) % (10 : Int32))), .val (.ref (u 6)), .val (.int (3 : Int32)), .unset] [(.int (9 : Int32))])) _
          refine XS.istore X94.here hx rfl (hb hby at_37) rfl (l' := #[.val (.int p0), .val (.int ((p0 &&& (2147483647 : Int32)) % (10 : Int32))), .val (.ref (u 6)), .val (.int (3 : Int32)), .val (.int (9 : Int32))]) rfl ?_
          show Steps p.tables e below (T94.setTop (mkF m 39 #[.val (.int p0), .val (.int ((p0 &&& (2147483647 : Int32)) % (10 : Int32))), .val (.ref (u 6)), .val (.int (3 : Int32)), .val (.int (9 : Int32))] [])) _
          refine XS.goto X94.here hx rfl (pc0 := 39) (pc' := 58) rfl (hb hby at_39) (by decide) (by decide) ?_
          show Steps p.tables e below (T94.setTop (mkF m 58 #[.val (.int p0), .val (.int ((p0 &&& (2147483647 : Int32)) % (10 : Int32))), .val (.ref (u 6)), .val (.int (3 : Int32)), .val (.int (9 : Int32))] [])) _
          refine XS.aloadN X94.here hx rfl (hb hby at_58) rfl rfl ?_
          show Steps p.tables e below (T94.setTop (mkF m 59 #[.val (.int p0), .val (.int ((p0 &&& (2147483647 : Int32)) % (10 : Int32))), .val (.ref (u 6)), .val (.int (3 : Int32)), .val (.int (9 : Int32))] [(.ref (u 6))])) _
          refine st95 _ ?_
          show Steps p.tables e below (T95.setTop (mkF m 62 #[.val (.int p0), .val (.int ((p0 &&& (2147483647 : Int32)) % (10 : Int32))), .val (.ref (u 6)), .val (.int (3 : Int32)), .val (.int (9 : Int32))] [(.int (9 : Int32))])) _
          refine XS.iload X95.here hx rfl (hb hby at_62) rfl ?_
          show Steps p.tables e below (T95.setTop (mkF m 64 #[.val (.int p0), .val (.int ((p0 &&& (2147483647 : Int32)) % (10 : Int32))), .val (.ref (u 6)), .val (.int (3 : Int32)), .val (.int (9 : Int32))] [(.int (9 : Int32)), (.int (9 : Int32))])) _
          refine XS.icmpNo X95.here hx rfl (hb hby at_64) rfl (teq (by decide : (9 : Int32) = (9 : Int32))).2 ?_
          show Steps p.tables e below (T95.setTop (mkF m 67 #[.val (.int p0), .val (.int ((p0 &&& (2147483647 : Int32)) % (10 : Int32))), .val (.ref (u 6)), .val (.int (3 : Int32)), .val (.int (9 : Int32))] [])) _
          refine XS.iconst X95.here hx rfl (hb hby at_67) ?_
          show Steps p.tables e below (T95.setTop (mkF m 68 #[.val (.int p0), .val (.int ((p0 &&& (2147483647 : Int32)) % (10 : Int32))), .val (.ref (u 6)), .val (.int (3 : Int32)), .val (.int (9 : Int32))] [(.int (1 : Int32))])) _
          refine XS.goto X95.here hx rfl (pc0 := 68) (pc' := 72) rfl (hb hby at_68) (by decide) (by decide) ?_
          show Steps p.tables e below (T95.setTop (mkF m 72 #[.val (.int p0), .val (.int ((p0 &&& (2147483647 : Int32)) % (10 : Int32))), .val (.ref (u 6)), .val (.int (3 : Int32)), .val (.int (9 : Int32))] [(.int (1 : Int32))])) _
          exact retN X95 hx (t := .boolean) Bd.returns (by simp) (hb hby at_72) hr
        · show own_Q0 Z u p0 h0 n0 _ T95.heap _
          rw [e95]
          exact ⟨rfl, N95, trivial⟩
      · --
        by_cases hc97 : ((p0 &&& (2147483647 : Int32)) % (10 : Int32)) = (3 : Int32)
        · --
          obtain rfl : vr84 = some (.ref (u 2)) := hv84.trans (by unfold own_r1; rw [if_neg hc85, if_neg hc89, if_neg hc93, if_pos hc97])
          obtain ⟨cq98, kq98, q98a, q98b, q98c⟩ := isOf hZ e84 (B.2.2.2.2.1.ext O.2)
          obtain ⟨vr98, _, ⟨T98, L98, k98, n98⟩, -, X98, ⟨Lc98, hQ98, l98, y98, z98⟩, st98⟩ := X84.virtualBack hx (y := (⟨"com/example/smazzata/smazzata/card/Rank", "captureValue", "()I"⟩ : MethodName)) (z := (⟨"com/example/smazzata/smazzata/card/Rank", "captureValue", "()I"⟩ : MethodName)) hown (mvT hZ (hw _ (List.mem_of_getElem? (i := 8) rfl))) (mvT hZ (hw _ (List.mem_of_getElem? (i := 9) rfl))) (notFace_of_selects (args := #[]) (mvT hZ (hw _ (List.mem_of_getElem? (i := 11) rfl)))) (mvT hZ (hw _ (List.mem_of_getElem? (i := 11) rfl))) (mvT hZ (hw _ (List.mem_of_getElem? (i := 10) rfl))) (by decide) (backOf (W := 0) (rm2 l Z a0 hw [] u (u 2) (4 : Int32) B h0 n0 O (B.2.2.2.2.2.2.2.2.2.2.2.2.2.2.2.2.2.2.2.2.2.2.2.2.1.ext O.2)) hZ (hw _ (List.mem_of_getElem? (i := 12) rfl)) (hw _ (List.mem_of_getElem? (i := 6) rfl)) (by decide) (by decide)) q98a q98c (g := (mkF m 14 #[.val (.int p0), .val (.int ((p0 &&& (2147483647 : Int32)) % (10 : Int32))), .val (.ref (u 2)), .unset, .unset] [(.ref (u 2))])) rfl (by rw [hml]; rfl) (Steps.refl _) (argsL := []) (rest := []) (lenOf own_pd0 rfl) rfl (by show 2 * 0 + _ ≤ _; exact Nat.le_of_eq rfl) (hb hby at_14) (fun _ _ => ⟨rfl, e84, (by decide : 0 + 0 ≤ _), (by decide : 0 + 0 ≤ _)⟩)
          dsimp only [Pt.U, Pt.locs, Pt.cells, Pt.slots] at X98 l98 y98 z98 st98 hQ98
          subst l98 y98 z98
          obtain ⟨rfl, N98q, e98⟩ := hQ98
          have N98 := Fr.app N84 N98q
          obtain ⟨vr99, _, ⟨T99, L99, k99, n99⟩, -, X99, ⟨Lc99, hQ99, l99, y99, z99⟩, st99⟩ := Jvm.LawKit.callS X98 hx (y := (⟨"com/example/smazzata/smazzata/briscola/Briscola", "strength", "(Lcom/example/smazzata/smazzata/card/Rank;)I"⟩ : MethodName)) hown (mvT hZ (hw _ (List.mem_of_getElem? (i := 15) rfl))) (mvT hZ (hw _ (List.mem_of_getElem? (i := 16) rfl))) (mvT hZ (hw _ (List.mem_of_getElem? (i := 17) rfl))) (mvT hZ (hw _ (List.mem_of_getElem? (i := 18) rfl))) (by decide) (backOf (W := 0) (rms2 l Z a0 hw [] u  B h0 n0 O ) hZ (hw _ (List.mem_of_getElem? (i := 18) rfl)) (hw _ (List.mem_of_getElem? (i := 17) rfl)) (by decide) (by decide)) (g := (mkF m 59 #[.val (.int p0), .val (.int ((p0 &&& (2147483647 : Int32)) % (10 : Int32))), .val (.ref (u 2)), .val (.int (4 : Int32)), .val (.int (2 : Int32))] [(.ref (u 2))])) rfl (by rw [hml]; rfl) (argsL := [(.ref (u 2))]) (rest := []) (lenOf own_pd2 rfl) rfl (by show 2 * 0 + _ ≤ _; exact Nat.le_of_eq rfl) (hb hby at_59) (fun _ _ => ⟨rfl, e98, (by decide : 0 + 0 ≤ _), (by decide : 0 + 0 ≤ _)⟩)
          dsimp only [Pt.U, Pt.locs, Pt.cells, Pt.slots] at X99 l99 y99 z99 st99 hQ99
          subst l99 y99 z99
          obtain ⟨rfl, N99q, e99⟩ := hQ99
          have N99 := Fr.app N98 N99q
          obtain ⟨fs, hr, hrun, hended, hW, hsame⟩ := X99.leave (v := some (.int (1 : Int32))) (fun h => by rw [Bd.returns] at h; cases h)
          refine ⟨_, _, pre83 _ ?_, hrun, hended, _, _, rfl, ?_, ⟨_, rfl⟩, hW, hsame.mono (by decide) (by decide)⟩
          · show Steps p.tables e below (s₁.setTop (mkF m 9 #[.val (.int p0), .val (.int ((p0 &&& (2147483647 : Int32)) % (10 : Int32))), .unset, .unset, .unset] [(.int ((p0 &&& (2147483647 : Int32)) % (10 : Int32)))])) _
            refine st84 _ ?_
            show Steps p.tables e below (T84.setTop (mkF m 12 #[.val (.int p0), .val (.int ((p0 &&& (2147483647 : Int32)) % (10 : Int32))), .unset, .unset, .unset] [(.ref (u 2))])) _
            refine XS.astoreN X84.here hx rfl (hb hby at_12) rfl rfl (l' := #[.val (.int p0), .val (.int ((p0 &&& (2147483647 : Int32)) % (10 : Int32))), .val (.ref (u 2)), .unset, .unset]) rfl ?_
            show Steps p.tables e below (T84.setTop (mkF m 13 #[.val (.int p0), .val (.int ((p0 &&& (2147483647 : Int32)) % (10 : Int32))), .val (.ref (u 2)), .unset, .unset] [])) _
            refine XS.aloadN X84.here hx rfl (hb hby at_13) rfl rfl ?_
            show Steps p.tables e below (T84.setTop (mkF m 14 #[.val (.int p0), .val (.int ((p0 &&& (2147483647 : Int32)) % (10 : Int32))), .val (.ref (u 2)), .unset, .unset] [(.ref (u 2))])) _
            refine st98.trans ?_
            show Steps p.tables e below (T98.setTop (mkF m 17 #[.val (.int p0), .val (.int ((p0 &&& (2147483647 : Int32)) % (10 : Int32))), .val (.ref (u 2)), .unset, .unset] [(.int (4 : Int32))])) _
            refine XS.istoreN X98.here hx rfl (hb hby at_17) rfl (l' := #[.val (.int p0), .val (.int ((p0 &&& (2147483647 : Int32)) % (10 : Int32))), .val (.ref (u 2)), .val (.int (4 : Int32)), .unset]) rfl ?_
            show Steps p.tables e below (T98.setTop (mkF m 18 #[.val (.int p0), .val (.int ((p0 &&& (2147483647 : Int32)) % (10 : Int32))), .val (.ref (u 2)), .val (.int (4 : Int32)), .unset] [])) _
            refine XS.iloadN X98.here hx rfl (hb hby at_18) rfl ?_
            show Steps p.tables e below (T98.setTop (mkF m 19 #[.val (.int p0), .val (.int ((p0 &&& (2147483647 : Int32)) % (10 : Int32))), .val (.ref (u 2)), .val (.int (4 : Int32)), .unset] [(.int (4 : Int32))])) _
            refine XS.iconst X98.here hx rfl (hb hby at_19) ?_
            show Steps p.tables e below (T98.setTop (mkF m 20 #[.val (.int p0), .val (.int ((p0 &&& (2147483647 : Int32)) % (10 : Int32))), .val (.ref (u 2)), .val (.int (4 : Int32)), .unset] [(.int (1 : Int32)), (.int (4 : Int32))])) _
            refine XS.icmpYes X98.here hx rfl (pc0 := 20) (pc' := 30) rfl (hb hby at_20) rfl (feq (by decide : ¬ ((4 : Int32) = (1 : Int32)))).2 (by decide) (by decide) ?_
            show Steps p.tables e below (T98.setTop (mkF m 30 #[.val (.int p0), .val (.int ((p0 &&& (2147483647 : Int32)) % (10 : Int32))), .val (.ref (u 2)), .val (.int (4 : Int32)), .unset] [])) _
            refine XS.iloadN X98.here hx rfl (hb hby at_30) rfl ?_
            show Steps p.tables e below (T98.setTop (mkF m 31 #[.val (.int p0), .val (.int ((p0 &&& (2147483647 : Int32)) % (10 : Int32))), .val (.ref (u 2)), .val (.int (4 : Int32)), .unset] [(.int (4 : Int32))])) _
            refine XS.iconst X98.here hx rfl (hb hby at_31) ?_
            show Steps p.tables e below (T98.setTop (mkF m 32 #[.val (.int p0), .val (.int ((p0 &&& (2147483647 : Int32)) % (10 : Int32))), .val (.ref (u 2)), .val (.int (4 : Int32)), .unset] [(.int (3 : Int32)), (.int (4 : Int32))])) _
            refine XS.icmpYes X98.here hx rfl (pc0 := 32) (pc' := 42) rfl (hb hby at_32) rfl (feq (by decide : ¬ ((4 : Int32) = (3 : Int32)))).2 (by decide) (by decide) ?_
            show Steps p.tables e below (T98.setTop (mkF m 42 #[.val (.int p0), .val (.int ((p0 &&& (2147483647 : Int32)) % (10 : Int32))), .val (.ref (u 2)), .val (.int (4 : Int32)), .unset] [])) _
            refine XS.iloadN X98.here hx rfl (hb hby at_42) rfl ?_
            show Steps p.tables e below (T98.setTop (mkF m 43 #[.val (.int p0), .val (.int ((p0 &&& (2147483647 : Int32)) % (10 : Int32))), .val (.ref (u 2)), .val (.int (4 : Int32)), .unset] [(.int (4 : Int32))])) _
            refine XS.iconst X98.here hx rfl (hb hby at_43) ?_
            show Steps p.tables e below (T98.setTop (mkF m 44 #[.val (.int p0), .val (.int ((p0 &&& (2147483647 : Int32)) % (10 : Int32))), .val (.ref (u 2)), .val (.int (4 : Int32)), .unset] [(.int (2 : Int32)), (.int (4 : Int32))])) _
            refine XS.icmpYes X98.here hx rfl (pc0 := 44) (pc' := 53) rfl (hb hby at_44) rfl (feq (by decide : ¬ ((4 : Int32) = (2 : Int32)))).2 (by decide) (by decide) ?_
            show Steps p.tables e below (T98.setTop (mkF m 53 #[.val (.int p0), .val (.int ((p0 &&& (2147483647 : Int32)) % (10 : Int32))), .val (.ref (u 2)), .val (.int (4 : Int32)), .unset] [])) _
            refine XS.iloadN X98.here hx rfl (hb hby at_53) rfl ?_
            show Steps p.tables e below (T98.setTop (mkF m 54 #[.val (.int p0), .val (.int ((p0 &&& (2147483647 : Int32)) % (10 : Int32))), .val (.ref (u 2)), .val (.int (4 : Int32)), .unset] [(.int (4 : Int32))])) _
            refine XS.iconst X98.here hx rfl (hb hby at_54) ?_
            show Steps p.tables e below (T98.setTop (mkF m 55 #[.val (.int p0), .val (.int ((p0 &&& (2147483647 : Int32)) % (10 : Int32))), .val (.ref (u 2)), .val (.int (4 : Int32)), .unset] [(.int (2 : Int32)), (.int (4 : Int32))])) _
            refine XS.isub X98.here hx rfl (hb hby at_55) rfl ?_
            show Steps p.tables e below (T98.setTop (mkF m 56 #[.val (.int p0), .val (.int ((p0 &&& (2147483647 : Int32)) % (10 : Int32))), .val (.ref (u 2)), .val (.int (4 : Int32)), .unset] [(.int (2 : Int32))])) _
            refine XS.istore X98.here hx rfl (hb hby at_56) rfl (l' := #[.val (.int p0), .val (.int ((p0 &&& (2147483647 : Int32)) % (10 : Int32))), .val (.ref (u 2)), .val (.int (4 : Int32)), .val (.int (2 : Int32))]) rfl ?_
            show Steps p.tables e below (T98.setTop (mkF m 58 #[.val (.int p0), .val (.int ((p0 &&& (2147483647 : Int32)) % (10 : Int32))), .val (.ref (u 2)), .val (.int (4 : Int32)), .val (.int (2 : Int32))] [])) _
            refine XS.aloadN X98.here hx rfl (hb hby at_58) rfl rfl ?_
            show Steps p.tables e below (T98.setTop (mkF m 59 #[.val (.int p0), .val (.int ((p0 &&& (2147483647 : Int32)) % (10 : Int32))), .val (.ref (u 2)), .val (.int (4 : Int32)), .val (.int (2 : Int32))] [(.ref (u 2))])) _
            refine st99 _ ?_
            show Steps p.tables e below (T99.setTop (mkF m 62 #[.val (.int p0), .val (.int ((p0 &&& (2147483647 : Int32)) % (10 : Int32))), .val (.ref (u 2)), .val (.int (4 : Int32)), .val (.int (2 : Int32))] [(.int (2 : Int32))])) _
            refine XS.iload X99.here hx rfl (hb hby at_62) rfl ?_
            show Steps p.tables e below (T99.setTop (mkF m 64 #[.val (.int p0), .val (.int ((p0 &&& (2147483647 : Int32)) % (10 : Int32))), .val (.ref (u 2)), .val (.int (4 : Int32)), .val (.int (2 : Int32))] [(.int (2 : Int32)), (.int (2 : Int32))])) _
            refine XS.icmpNo X99.here hx rfl (hb hby at_64) rfl (teq (by decide : (2 : Int32) = (2 : Int32))).2 ?_
            show Steps p.tables e below (T99.setTop (mkF m 67 #[.val (.int p0), .val (.int ((p0 &&& (2147483647 : Int32)) % (10 : Int32))), .val (.ref (u 2)), .val (.int (4 : Int32)), .val (.int (2 : Int32))] [])) _
            refine XS.iconst X99.here hx rfl (hb hby at_67) ?_
            show Steps p.tables e below (T99.setTop (mkF m 68 #[.val (.int p0), .val (.int ((p0 &&& (2147483647 : Int32)) % (10 : Int32))), .val (.ref (u 2)), .val (.int (4 : Int32)), .val (.int (2 : Int32))] [(.int (1 : Int32))])) _
            refine XS.goto X99.here hx rfl (pc0 := 68) (pc' := 72) rfl (hb hby at_68) (by decide) (by decide) ?_
            show Steps p.tables e below (T99.setTop (mkF m 72 #[.val (.int p0), .val (.int ((p0 &&& (2147483647 : Int32)) % (10 : Int32))), .val (.ref (u 2)), .val (.int (4 : Int32)), .val (.int (2 : Int32))] [(.int (1 : Int32))])) _
            exact retN X99 hx (t := .boolean) Bd.returns (by simp) (hb hby at_72) hr
          · show own_Q0 Z u p0 h0 n0 _ T99.heap _
            rw [e99]
            exact ⟨rfl, N99, trivial⟩
        · --
          by_cases hc101 : ((p0 &&& (2147483647 : Int32)) % (10 : Int32)) = (4 : Int32)
          · --
            obtain rfl : vr84 = some (.ref (u 4)) := hv84.trans (by unfold own_r1; rw [if_neg hc85, if_neg hc89, if_neg hc93, if_neg hc97, if_pos hc101])
            obtain ⟨cq102, kq102, q102a, q102b, q102c⟩ := isOf hZ e84 (B.2.2.2.2.2.2.2.2.1.ext O.2)
            obtain ⟨vr102, _, ⟨T102, L102, k102, n102⟩, -, X102, ⟨Lc102, hQ102, l102, y102, z102⟩, st102⟩ := X84.virtualBack hx (y := (⟨"com/example/smazzata/smazzata/card/Rank", "captureValue", "()I"⟩ : MethodName)) (z := (⟨"com/example/smazzata/smazzata/card/Rank", "captureValue", "()I"⟩ : MethodName)) hown (mvT hZ (hw _ (List.mem_of_getElem? (i := 8) rfl))) (mvT hZ (hw _ (List.mem_of_getElem? (i := 9) rfl))) (notFace_of_selects (args := #[]) (mvT hZ (hw _ (List.mem_of_getElem? (i := 11) rfl)))) (mvT hZ (hw _ (List.mem_of_getElem? (i := 11) rfl))) (mvT hZ (hw _ (List.mem_of_getElem? (i := 10) rfl))) (by decide) (backOf (W := 0) (rm2 l Z a0 hw [] u (u 4) (5 : Int32) B h0 n0 O (B.2.2.2.2.2.2.2.2.2.2.2.2.2.2.2.2.2.2.2.2.2.2.2.2.2.2.2.2.1.ext O.2)) hZ (hw _ (List.mem_of_getElem? (i := 12) rfl)) (hw _ (List.mem_of_getElem? (i := 6) rfl)) (by decide) (by decide)) q102a q102c (g := (mkF m 14 #[.val (.int p0), .val (.int ((p0 &&& (2147483647 : Int32)) % (10 : Int32))), .val (.ref (u 4)), .unset, .unset] [(.ref (u 4))])) rfl (by rw [hml]; rfl) (Steps.refl _) (argsL := []) (rest := []) (lenOf own_pd0 rfl) rfl (by show 2 * 0 + _ ≤ _; exact Nat.le_of_eq rfl) (hb hby at_14) (fun _ _ => ⟨rfl, e84, (by decide : 0 + 0 ≤ _), (by decide : 0 + 0 ≤ _)⟩)
            dsimp only [Pt.U, Pt.locs, Pt.cells, Pt.slots] at X102 l102 y102 z102 st102 hQ102
            subst l102 y102 z102
            obtain ⟨rfl, N102q, e102⟩ := hQ102
            have N102 := Fr.app N84 N102q
            obtain ⟨vr103, _, ⟨T103, L103, k103, n103⟩, -, X103, ⟨Lc103, hQ103, l103, y103, z103⟩, st103⟩ := Jvm.LawKit.callS X102 hx (y := (⟨"com/example/smazzata/smazzata/briscola/Briscola", "strength", "(Lcom/example/smazzata/smazzata/card/Rank;)I"⟩ : MethodName)) hown (mvT hZ (hw _ (List.mem_of_getElem? (i := 15) rfl))) (mvT hZ (hw _ (List.mem_of_getElem? (i := 16) rfl))) (mvT hZ (hw _ (List.mem_of_getElem? (i := 17) rfl))) (mvT hZ (hw _ (List.mem_of_getElem? (i := 18) rfl))) (by decide) (backOf (W := 0) (rms4 l Z a0 hw [] u  B h0 n0 O ) hZ (hw _ (List.mem_of_getElem? (i := 18) rfl)) (hw _ (List.mem_of_getElem? (i := 17) rfl)) (by decide) (by decide)) (g := (mkF m 59 #[.val (.int p0), .val (.int ((p0 &&& (2147483647 : Int32)) % (10 : Int32))), .val (.ref (u 4)), .val (.int (5 : Int32)), .val (.int (3 : Int32))] [(.ref (u 4))])) rfl (by rw [hml]; rfl) (argsL := [(.ref (u 4))]) (rest := []) (lenOf own_pd2 rfl) rfl (by show 2 * 0 + _ ≤ _; exact Nat.le_of_eq rfl) (hb hby at_59) (fun _ _ => ⟨rfl, e102, (by decide : 0 + 0 ≤ _), (by decide : 0 + 0 ≤ _)⟩)
            dsimp only [Pt.U, Pt.locs, Pt.cells, Pt.slots] at X103 l103 y103 z103 st103 hQ103
            subst l103 y103 z103
            obtain ⟨rfl, N103q, e103⟩ := hQ103
            have N103 := Fr.app N102 N103q
            obtain ⟨fs, hr, hrun, hended, hW, hsame⟩ := X103.leave (v := some (.int (1 : Int32))) (fun h => by rw [Bd.returns] at h; cases h)
            refine ⟨_, _, pre83 _ ?_, hrun, hended, _, _, rfl, ?_, ⟨_, rfl⟩, hW, hsame.mono (by decide) (by decide)⟩
            · show Steps p.tables e below (s₁.setTop (mkF m 9 #[.val (.int p0), .val (.int ((p0 &&& (2147483647 : Int32)) % (10 : Int32))), .unset, .unset, .unset] [(.int ((p0 &&& (2147483647 : Int32)) % (10 : Int32)))])) _
              refine st84 _ ?_
              show Steps p.tables e below (T84.setTop (mkF m 12 #[.val (.int p0), .val (.int ((p0 &&& (2147483647 : Int32)) % (10 : Int32))), .unset, .unset, .unset] [(.ref (u 4))])) _
              refine XS.astoreN X84.here hx rfl (hb hby at_12) rfl rfl (l' := #[.val (.int p0), .val (.int ((p0 &&& (2147483647 : Int32)) % (10 : Int32))), .val (.ref (u 4)), .unset, .unset]) rfl ?_
              show Steps p.tables e below (T84.setTop (mkF m 13 #[.val (.int p0), .val (.int ((p0 &&& (2147483647 : Int32)) % (10 : Int32))), .val (.ref (u 4)), .unset, .unset] [])) _
              refine XS.aloadN X84.here hx rfl (hb hby at_13) rfl rfl ?_
              show Steps p.tables e below (T84.setTop (mkF m 14 #[.val (.int p0), .val (.int ((p0 &&& (2147483647 : Int32)) % (10 : Int32))), .val (.ref (u 4)), .unset, .unset] [(.ref (u 4))])) _
              refine st102.trans ?_
              show Steps p.tables e below (T102.setTop (mkF m 17 #[.val (.int p0), .val (.int ((p0 &&& (2147483647 : Int32)) % (10 : Int32))), .val (.ref (u 4)), .unset, .unset] [(.int (5 : Int32))])) _
              refine XS.istoreN X102.here hx rfl (hb hby at_17) rfl (l' := #[.val (.int p0), .val (.int ((p0 &&& (2147483647 : Int32)) % (10 : Int32))), .val (.ref (u 4)), .val (.int (5 : Int32)), .unset]) rfl ?_
              show Steps p.tables e below (T102.setTop (mkF m 18 #[.val (.int p0), .val (.int ((p0 &&& (2147483647 : Int32)) % (10 : Int32))), .val (.ref (u 4)), .val (.int (5 : Int32)), .unset] [])) _
              refine XS.iloadN X102.here hx rfl (hb hby at_18) rfl ?_
              show Steps p.tables e below (T102.setTop (mkF m 19 #[.val (.int p0), .val (.int ((p0 &&& (2147483647 : Int32)) % (10 : Int32))), .val (.ref (u 4)), .val (.int (5 : Int32)), .unset] [(.int (5 : Int32))])) _
              refine XS.iconst X102.here hx rfl (hb hby at_19) ?_
              show Steps p.tables e below (T102.setTop (mkF m 20 #[.val (.int p0), .val (.int ((p0 &&& (2147483647 : Int32)) % (10 : Int32))), .val (.ref (u 4)), .val (.int (5 : Int32)), .unset] [(.int (1 : Int32)), (.int (5 : Int32))])) _
              refine XS.icmpYes X102.here hx rfl (pc0 := 20) (pc' := 30) rfl (hb hby at_20) rfl (feq (by decide : ¬ ((5 : Int32) = (1 : Int32)))).2 (by decide) (by decide) ?_
              show Steps p.tables e below (T102.setTop (mkF m 30 #[.val (.int p0), .val (.int ((p0 &&& (2147483647 : Int32)) % (10 : Int32))), .val (.ref (u 4)), .val (.int (5 : Int32)), .unset] [])) _
              refine XS.iloadN X102.here hx rfl (hb hby at_30) rfl ?_
              show Steps p.tables e below (T102.setTop (mkF m 31 #[.val (.int p0), .val (.int ((p0 &&& (2147483647 : Int32)) % (10 : Int32))), .val (.ref (u 4)), .val (.int (5 : Int32)), .unset] [(.int (5 : Int32))])) _
              refine XS.iconst X102.here hx rfl (hb hby at_31) ?_
              show Steps p.tables e below (T102.setTop (mkF m 32 #[.val (.int p0), .val (.int ((p0 &&& (2147483647 : Int32)) % (10 : Int32))), .val (.ref (u 4)), .val (.int (5 : Int32)), .unset] [(.int (3 : Int32)), (.int (5 : Int32))])) _
              refine XS.icmpYes X102.here hx rfl (pc0 := 32) (pc' := 42) rfl (hb hby at_32) rfl (feq (by decide : ¬ ((5 : Int32) = (3 : Int32)))).2 (by decide) (by decide) ?_
              show Steps p.tables e below (T102.setTop (mkF m 42 #[.val (.int p0), .val (.int ((p0 &&& (2147483647 : Int32)) % (10 : Int32))), .val (.ref (u 4)), .val (.int (5 : Int32)), .unset] [])) _
              refine XS.iloadN X102.here hx rfl (hb hby at_42) rfl ?_
              show Steps p.tables e below (T102.setTop (mkF m 43 #[.val (.int p0), .val (.int ((p0 &&& (2147483647 : Int32)) % (10 : Int32))), .val (.ref (u 4)), .val (.int (5 : Int32)), .unset] [(.int (5 : Int32))])) _
              refine XS.iconst X102.here hx rfl (hb hby at_43) ?_
              show Steps p.tables e below (T102.setTop (mkF m 44 #[.val (.int p0), .val (.int ((p0 &&& (2147483647 : Int32)) % (10 : Int32))), .val (.ref (u 4)), .val (.int (5 : Int32)), .unset] [(.int (2 : Int32)), (.int (5 : Int32))])) _
              refine XS.icmpYes X102.here hx rfl (pc0 := 44) (pc' := 53) rfl (hb hby at_44) rfl (feq (by decide : ¬ ((5 : Int32) = (2 : Int32)))).2 (by decide) (by decide) ?_
              show Steps p.tables e below (T102.setTop (mkF m 53 #[.val (.int p0), .val (.int ((p0 &&& (2147483647 : Int32)) % (10 : Int32))), .val (.ref (u 4)), .val (.int (5 : Int32)), .unset] [])) _
              refine XS.iloadN X102.here hx rfl (hb hby at_53) rfl ?_
              show Steps p.tables e below (T102.setTop (mkF m 54 #[.val (.int p0), .val (.int ((p0 &&& (2147483647 : Int32)) % (10 : Int32))), .val (.ref (u 4)), .val (.int (5 : Int32)), .unset] [(.int (5 : Int32))])) _
              refine XS.iconst X102.here hx rfl (hb hby at_54) ?_
              show Steps p.tables e below (T102.setTop (mkF m 55 #[.val (.int p0), .val (.int ((p0 &&& (2147483647 : Int32)) % (10 : Int32))), .val (.ref (u 4)), .val (.int (5 : Int32)), .unset] [(.int (2 : Int32)), (.int (5 : Int32))])) _
              refine XS.isub X102.here hx rfl (hb hby at_55) rfl ?_
              show Steps p.tables e below (T102.setTop (mkF m 56 #[.val (.int p0), .val (.int ((p0 &&& (2147483647 : Int32)) % (10 : Int32))), .val (.ref (u 4)), .val (.int (5 : Int32)), .unset] [(.int (3 : Int32))])) _
              refine XS.istore X102.here hx rfl (hb hby at_56) rfl (l' := #[.val (.int p0), .val (.int ((p0 &&& (2147483647 : Int32)) % (10 : Int32))), .val (.ref (u 4)), .val (.int (5 : Int32)), .val (.int (3 : Int32))]) rfl ?_
              show Steps p.tables e below (T102.setTop (mkF m 58 #[.val (.int p0), .val (.int ((p0 &&& (2147483647 : Int32)) % (10 : Int32))), .val (.ref (u 4)), .val (.int (5 : Int32)), .val (.int (3 : Int32))] [])) _
              refine XS.aloadN X102.here hx rfl (hb hby at_58) rfl rfl ?_
              show Steps p.tables e below (T102.setTop (mkF m 59 #[.val (.int p0), .val (.int ((p0 &&& (2147483647 : Int32)) % (10 : Int32))), .val (.ref (u 4)), .val (.int (5 : Int32)), .val (.int (3 : Int32))] [(.ref (u 4))])) _
              refine st103 _ ?_
              show Steps p.tables e below (T103.setTop (mkF m 62 #[.val (.int p0), .val (.int ((p0 &&& (2147483647 : Int32)) % (10 : Int32))), .val (.ref (u 4)), .val (.int (5 : Int32)), .val (.int (3 : Int32))] [(.int (3 : Int32))])) _
              refine XS.iload X103.here hx rfl (hb hby at_62) rfl ?_
              show Steps p.tables e below (T103.setTop (mkF m 64 #[.val (.int p0), .val (.int ((p0 &&& (2147483647 : Int32)) % (10 : Int32))), .val (.ref (u 4)), .val (.int (5 : Int32)), .val (.int (3 : Int32))] [(.int (3 : Int32)), (.int (3 : Int32))])) _
              refine XS.icmpNo X103.here hx rfl (hb hby at_64) rfl (teq (by decide : (3 : Int32) = (3 : Int32))).2 ?_
              show Steps p.tables e below (T103.setTop (mkF m 67 #[.val (.int p0), .val (.int ((p0 &&& (2147483647 : Int32)) % (10 : Int32))), .val (.ref (u 4)), .val (.int (5 : Int32)), .val (.int (3 : Int32))] [])) _
              refine XS.iconst X103.here hx rfl (hb hby at_67) ?_
              show Steps p.tables e below (T103.setTop (mkF m 68 #[.val (.int p0), .val (.int ((p0 &&& (2147483647 : Int32)) % (10 : Int32))), .val (.ref (u 4)), .val (.int (5 : Int32)), .val (.int (3 : Int32))] [(.int (1 : Int32))])) _
              refine XS.goto X103.here hx rfl (pc0 := 68) (pc' := 72) rfl (hb hby at_68) (by decide) (by decide) ?_
              show Steps p.tables e below (T103.setTop (mkF m 72 #[.val (.int p0), .val (.int ((p0 &&& (2147483647 : Int32)) % (10 : Int32))), .val (.ref (u 4)), .val (.int (5 : Int32)), .val (.int (3 : Int32))] [(.int (1 : Int32))])) _
              exact retN X103 hx (t := .boolean) Bd.returns (by simp) (hb hby at_72) hr
            · show own_Q0 Z u p0 h0 n0 _ T103.heap _
              rw [e103]
              exact ⟨rfl, N103, trivial⟩
          · --
            by_cases hc105 : ((p0 &&& (2147483647 : Int32)) % (10 : Int32)) = (5 : Int32)
            · --
              obtain rfl : vr84 = some (.ref (u 9)) := hv84.trans (by unfold own_r1; rw [if_neg hc85, if_neg hc89, if_neg hc93, if_neg hc97, if_neg hc101, if_pos hc105])
              obtain ⟨cq106, kq106, q106a, q106b, q106c⟩ := isOf hZ e84 (B.2.2.2.2.2.2.2.2.2.2.2.2.2.2.2.2.2.2.1.ext O.2)
              obtain ⟨vr106, _, ⟨T106, L106, k106, n106⟩, -, X106, ⟨Lc106, hQ106, l106, y106, z106⟩, st106⟩ := X84.virtualBack hx (y := (⟨"com/example/smazzata/smazzata/card/Rank", "captureValue", "()I"⟩ : MethodName)) (z := (⟨"com/example/smazzata/smazzata/card/Rank", "captureValue", "()I"⟩ : MethodName)) hown (mvT hZ (hw _ (List.mem_of_getElem? (i := 8) rfl))) (mvT hZ (hw _ (List.mem_of_getElem? (i := 9) rfl))) (notFace_of_selects (args := #[]) (mvT hZ (hw _ (List.mem_of_getElem? (i := 11) rfl)))) (mvT hZ (hw _ (List.mem_of_getElem? (i := 11) rfl))) (mvT hZ (hw _ (List.mem_of_getElem? (i := 10) rfl))) (by decide) (backOf (W := 0) (rm2 l Z a0 hw [] u (u 9) (6 : Int32) B h0 n0 O (B.2.2.2.2.2.2.2.2.2.2.2.2.2.2.2.2.2.2.2.2.2.2.2.2.2.2.2.2.2.2.2.2.2.2.2.2.2.2.1.ext O.2)) hZ (hw _ (List.mem_of_getElem? (i := 12) rfl)) (hw _ (List.mem_of_getElem? (i := 6) rfl)) (by decide) (by decide)) q106a q106c (g := (mkF m 14 #[.val (.int p0), .val (.int ((p0 &&& (2147483647 : Int32)) % (10 : Int32))), .val (.ref (u 9)), .unset, .unset] [(.ref (u 9))])) rfl (by rw [hml]; rfl) (Steps.refl _) (argsL := []) (rest := []) (lenOf own_pd0 rfl) rfl (by show 2 * 0 + _ ≤ _; exact Nat.le_of_eq rfl) (hb hby at_14) (fun _ _ => ⟨rfl, e84, (by decide : 0 + 0 ≤ _), (by decide : 0 + 0 ≤ _)⟩)
              dsimp only [Pt.U, Pt.locs, Pt.cells, Pt.slots] at X106 l106 y106 z106 st106 hQ106
              subst l106 y106 z106
              obtain ⟨rfl, N106q, e106⟩ := hQ106
              have N106 := Fr.app N84 N106q
              obtain ⟨vr107, _, ⟨T107, L107, k107, n107⟩, -, X107, ⟨Lc107, hQ107, l107, y107, z107⟩, st107⟩ := Jvm.LawKit.callS X106 hx (y := (⟨"com/example/smazzata/smazzata/briscola/Briscola", "strength", "(Lcom/example/smazzata/smazzata/card/Rank;)I"⟩ : MethodName)) hown (mvT hZ (hw _ (List.mem_of_getElem? (i := 15) rfl))) (mvT hZ (hw _ (List.mem_of_getElem? (i := 16) rfl))) (mvT hZ (hw _ (List.mem_of_getElem? (i := 17) rfl))) (mvT hZ (hw _ (List.mem_of_getElem? (i := 18) rfl))) (by decide) (backOf (W := 0) (rms9 l Z a0 hw [] u  B h0 n0 O ) hZ (hw _ (List.mem_of_getElem? (i := 18) rfl)) (hw _ (List.mem_of_getElem? (i := 17) rfl)) (by decide) (by decide)) (g := (mkF m 59 #[.val (.int p0), .val (.int ((p0 &&& (2147483647 : Int32)) % (10 : Int32))), .val (.ref (u 9)), .val (.int (6 : Int32)), .val (.int (4 : Int32))] [(.ref (u 9))])) rfl (by rw [hml]; rfl) (argsL := [(.ref (u 9))]) (rest := []) (lenOf own_pd2 rfl) rfl (by show 2 * 0 + _ ≤ _; exact Nat.le_of_eq rfl) (hb hby at_59) (fun _ _ => ⟨rfl, e106, (by decide : 0 + 0 ≤ _), (by decide : 0 + 0 ≤ _)⟩)
              dsimp only [Pt.U, Pt.locs, Pt.cells, Pt.slots] at X107 l107 y107 z107 st107 hQ107
              subst l107 y107 z107
              obtain ⟨rfl, N107q, e107⟩ := hQ107
              have N107 := Fr.app N106 N107q
              obtain ⟨fs, hr, hrun, hended, hW, hsame⟩ := X107.leave (v := some (.int (1 : Int32))) (fun h => by rw [Bd.returns] at h; cases h)
              refine ⟨_, _, pre83 _ ?_, hrun, hended, _, _, rfl, ?_, ⟨_, rfl⟩, hW, hsame.mono (by decide) (by decide)⟩
              · show Steps p.tables e below (s₁.setTop (mkF m 9 #[.val (.int p0), .val (.int ((p0 &&& (2147483647 : Int32)) % (10 : Int32))), .unset, .unset, .unset] [(.int ((p0 &&& (2147483647 : Int32)) % (10 : Int32)))])) _
                refine st84 _ ?_
                show Steps p.tables e below (T84.setTop (mkF m 12 #[.val (.int p0), .val (.int ((p0 &&& (2147483647 : Int32)) % (10 : Int32))), .unset, .unset, .unset] [(.ref (u 9))])) _
                refine XS.astoreN X84.here hx rfl (hb hby at_12) rfl rfl (l' := #[.val (.int p0), .val (.int ((p0 &&& (2147483647 : Int32)) % (10 : Int32))), .val (.ref (u 9)), .unset, .unset]) rfl ?_
                show Steps p.tables e below (T84.setTop (mkF m 13 #[.val (.int p0), .val (.int ((p0 &&& (2147483647 : Int32)) % (10 : Int32))), .val (.ref (u 9)), .unset, .unset] [])) _
                refine XS.aloadN X84.here hx rfl (hb hby at_13) rfl rfl ?_
                show Steps p.tables e below (T84.setTop (mkF m 14 #[.val (.int p0), .val (.int ((p0 &&& (2147483647 : Int32)) % (10 : Int32))), .val (.ref (u 9)), .unset, .unset] [(.ref (u 9))])) _
                refine st106.trans ?_
                show Steps p.tables e below (T106.setTop (mkF m 17 #[.val (.int p0), .val (.int ((p0 &&& (2147483647 : Int32)) % (10 : Int32))), .val (.ref (u 9)), .unset, .unset] [(.int (6 : Int32))])) _
                refine XS.istoreN X106.here hx rfl (hb hby at_17) rfl (l' := #[.val (.int p0), .val (.int ((p0 &&& (2147483647 : Int32)) % (10 : Int32))), .val (.ref (u 9)), .val (.int (6 : Int32)), .unset]) rfl ?_
                show Steps p.tables e below (T106.setTop (mkF m 18 #[.val (.int p0), .val (.int ((p0 &&& (2147483647 : Int32)) % (10 : Int32))), .val (.ref (u 9)), .val (.int (6 : Int32)), .unset] [])) _
                refine XS.iloadN X106.here hx rfl (hb hby at_18) rfl ?_
                show Steps p.tables e below (T106.setTop (mkF m 19 #[.val (.int p0), .val (.int ((p0 &&& (2147483647 : Int32)) % (10 : Int32))), .val (.ref (u 9)), .val (.int (6 : Int32)), .unset] [(.int (6 : Int32))])) _
                refine XS.iconst X106.here hx rfl (hb hby at_19) ?_
                show Steps p.tables e below (T106.setTop (mkF m 20 #[.val (.int p0), .val (.int ((p0 &&& (2147483647 : Int32)) % (10 : Int32))), .val (.ref (u 9)), .val (.int (6 : Int32)), .unset] [(.int (1 : Int32)), (.int (6 : Int32))])) _
                refine XS.icmpYes X106.here hx rfl (pc0 := 20) (pc' := 30) rfl (hb hby at_20) rfl (feq (by decide : ¬ ((6 : Int32) = (1 : Int32)))).2 (by decide) (by decide) ?_
                show Steps p.tables e below (T106.setTop (mkF m 30 #[.val (.int p0), .val (.int ((p0 &&& (2147483647 : Int32)) % (10 : Int32))), .val (.ref (u 9)), .val (.int (6 : Int32)), .unset] [])) _
                refine XS.iloadN X106.here hx rfl (hb hby at_30) rfl ?_
                show Steps p.tables e below (T106.setTop (mkF m 31 #[.val (.int p0), .val (.int ((p0 &&& (2147483647 : Int32)) % (10 : Int32))), .val (.ref (u 9)), .val (.int (6 : Int32)), .unset] [(.int (6 : Int32))])) _
                refine XS.iconst X106.here hx rfl (hb hby at_31) ?_
                show Steps p.tables e below (T106.setTop (mkF m 32 #[.val (.int p0), .val (.int ((p0 &&& (2147483647 : Int32)) % (10 : Int32))), .val (.ref (u 9)), .val (.int (6 : Int32)), .unset] [(.int (3 : Int32)), (.int (6 : Int32))])) _
                refine XS.icmpYes X106.here hx rfl (pc0 := 32) (pc' := 42) rfl (hb hby at_32) rfl (feq (by decide : ¬ ((6 : Int32) = (3 : Int32)))).2 (by decide) (by decide) ?_
                show Steps p.tables e below (T106.setTop (mkF m 42 #[.val (.int p0), .val (.int ((p0 &&& (2147483647 : Int32)) % (10 : Int32))), .val (.ref (u 9)), .val (.int (6 : Int32)), .unset] [])) _
                refine XS.iloadN X106.here hx rfl (hb hby at_42) rfl ?_
                show Steps p.tables e below (T106.setTop (mkF m 43 #[.val (.int p0), .val (.int ((p0 &&& (2147483647 : Int32)) % (10 : Int32))), .val (.ref (u 9)), .val (.int (6 : Int32)), .unset] [(.int (6 : Int32))])) _
                refine XS.iconst X106.here hx rfl (hb hby at_43) ?_
                show Steps p.tables e below (T106.setTop (mkF m 44 #[.val (.int p0), .val (.int ((p0 &&& (2147483647 : Int32)) % (10 : Int32))), .val (.ref (u 9)), .val (.int (6 : Int32)), .unset] [(.int (2 : Int32)), (.int (6 : Int32))])) _
                refine XS.icmpYes X106.here hx rfl (pc0 := 44) (pc' := 53) rfl (hb hby at_44) rfl (feq (by decide : ¬ ((6 : Int32) = (2 : Int32)))).2 (by decide) (by decide) ?_
                show Steps p.tables e below (T106.setTop (mkF m 53 #[.val (.int p0), .val (.int ((p0 &&& (2147483647 : Int32)) % (10 : Int32))), .val (.ref (u 9)), .val (.int (6 : Int32)), .unset] [])) _
                refine XS.iloadN X106.here hx rfl (hb hby at_53) rfl ?_
                show Steps p.tables e below (T106.setTop (mkF m 54 #[.val (.int p0), .val (.int ((p0 &&& (2147483647 : Int32)) % (10 : Int32))), .val (.ref (u 9)), .val (.int (6 : Int32)), .unset] [(.int (6 : Int32))])) _
                refine XS.iconst X106.here hx rfl (hb hby at_54) ?_
                show Steps p.tables e below (T106.setTop (mkF m 55 #[.val (.int p0), .val (.int ((p0 &&& (2147483647 : Int32)) % (10 : Int32))), .val (.ref (u 9)), .val (.int (6 : Int32)), .unset] [(.int (2 : Int32)), (.int (6 : Int32))])) _
                refine XS.isub X106.here hx rfl (hb hby at_55) rfl ?_
                show Steps p.tables e below (T106.setTop (mkF m 56 #[.val (.int p0), .val (.int ((p0 &&& (2147483647 : Int32)) % (10 : Int32))), .val (.ref (u 9)), .val (.int (6 : Int32)), .unset] [(.int (4 : Int32))])) _
                refine XS.istore X106.here hx rfl (hb hby at_56) rfl (l' := #[.val (.int p0), .val (.int ((p0 &&& (2147483647 : Int32)) % (10 : Int32))), .val (.ref (u 9)), .val (.int (6 : Int32)), .val (.int (4 : Int32))]) rfl ?_
                show Steps p.tables e below (T106.setTop (mkF m 58 #[.val (.int p0), .val (.int ((p0 &&& (2147483647 : Int32)) % (10 : Int32))), .val (.ref (u 9)), .val (.int (6 : Int32)), .val (.int (4 : Int32))] [])) _
                refine XS.aloadN X106.here hx rfl (hb hby at_58) rfl rfl ?_
                show Steps p.tables e below (T106.setTop (mkF m 59 #[.val (.int p0), .val (.int ((p0 &&& (2147483647 : Int32)) % (10 : Int32))), .val (.ref (u 9)), .val (.int (6 : Int32)), .val (.int (4 : Int32))] [(.ref (u 9))])) _
                refine st107 _ ?_
                show Steps p.tables e below (T107.setTop (mkF m 62 #[.val (.int p0), .val (.int ((p0 &&& (2147483647 : Int32)) % (10 : Int32))), .val (.ref (u 9)), .val (.int (6 : Int32)), .val (.int (4 : Int32))] [(.int (4 : Int32))])) _
                refine XS.iload X107.here hx rfl (hb hby at_62) rfl ?_
                show Steps p.tables e below (T107.setTop (mkF m 64 #[.val (.int p0), .val (.int ((p0 &&& (2147483647 : Int32)) % (10 : Int32))), .val (.ref (u 9)), .val (.int (6 : Int32)), .val (.int (4 : Int32))] [(.int (4 : Int32)), (.int (4 : Int32))])) _
                refine XS.icmpNo X107.here hx rfl (hb hby at_64) rfl (teq (by decide : (4 : Int32) = (4 : Int32))).2 ?_
                show Steps p.tables e below (T107.setTop (mkF m 67 #[.val (.int p0), .val (.int ((p0 &&& (2147483647 : Int32)) % (10 : Int32))), .val (.ref (u 9)), .val (.int (6 : Int32)), .val (.int (4 : Int32))] [])) _
                refine XS.iconst X107.here hx rfl (hb hby at_67) ?_
                show Steps p.tables e below (T107.setTop (mkF m 68 #[.val (.int p0), .val (.int ((p0 &&& (2147483647 : Int32)) % (10 : Int32))), .val (.ref (u 9)), .val (.int (6 : Int32)), .val (.int (4 : Int32))] [(.int (1 : Int32))])) _
                refine XS.goto X107.here hx rfl (pc0 := 68) (pc' := 72) rfl (hb hby at_68) (by decide) (by decide) ?_
                show Steps p.tables e below (T107.setTop (mkF m 72 #[.val (.int p0), .val (.int ((p0 &&& (2147483647 : Int32)) % (10 : Int32))), .val (.ref (u 9)), .val (.int (6 : Int32)), .val (.int (4 : Int32))] [(.int (1 : Int32))])) _
                exact retN X107 hx (t := .boolean) Bd.returns (by simp) (hb hby at_72) hr
              · show own_Q0 Z u p0 h0 n0 _ T107.heap _
                rw [e107]
                exact ⟨rfl, N107, trivial⟩
            · --
              by_cases hc109 : ((p0 &&& (2147483647 : Int32)) % (10 : Int32)) = (6 : Int32)
              · --
                obtain rfl : vr84 = some (.ref (u 10)) := hv84.trans (by unfold own_r1; rw [if_neg hc85, if_neg hc89, if_neg hc93, if_neg hc97, if_neg hc101, if_neg hc105, if_pos hc109])
                obtain ⟨cq110, kq110, q110a, q110b, q110c⟩ := isOf hZ e84 (B.2.2.2.2.2.2.2.2.2.2.2.2.2.2.2.2.2.2.2.2.1.ext O.2)
                obtain ⟨vr110, _, ⟨T110, L110, k110, n110⟩, -, X110, ⟨Lc110, hQ110, l110, y110, z110⟩, st110⟩ := X84.virtualBack hx (y := (⟨"com/example/smazzata/smazzata/card/Rank", "captureValue", "()I"⟩ : MethodName)) (z := (⟨"com/example/smazzata/smazzata/card/Rank", "captureValue", "()I"⟩ : MethodName)) hown (mvT hZ (hw _ (List.mem_of_getElem? (i := 8) rfl))) (mvT hZ (hw _ (List.mem_of_getElem? (i := 9) rfl))) (notFace_of_selects (args := #[]) (mvT hZ (hw _ (List.mem_of_getElem? (i := 11) rfl)))) (mvT hZ (hw _ (List.mem_of_getElem? (i := 11) rfl))) (mvT hZ (hw _ (List.mem_of_getElem? (i := 10) rfl))) (by decide) (backOf (W := 0) (rm2 l Z a0 hw [] u (u 10) (7 : Int32) B h0 n0 O (B.2.2.2.2.2.2.2.2.2.2.2.2.2.2.2.2.2.2.2.2.2.2.2.2.2.2.2.2.2.2.2.2.2.2.2.2.2.2.2.2.1.ext O.2)) hZ (hw _ (List.mem_of_getElem? (i := 12) rfl)) (hw _ (List.mem_of_getElem? (i := 6) rfl)) (by decide) (by decide)) q110a q110c (g := (mkF m 14 #[.val (.int p0), .val (.int ((p0 &&& (2147483647 : Int32)) % (10 : Int32))), .val (.ref (u 10)), .unset, .unset] [(.ref (u 10))])) rfl (by rw [hml]; rfl) (Steps.refl _) (argsL := []) (rest := []) (lenOf own_pd0 rfl) rfl (by show 2 * 0 + _ ≤ _; exact Nat.le_of_eq rfl) (hb hby at_14) (fun _ _ => ⟨rfl, e84, (by decide : 0 + 0 ≤ _), (by decide : 0 + 0 ≤ _)⟩)
                dsimp only [Pt.U, Pt.locs, Pt.cells, Pt.slots] at X110 l110 y110 z110 st110 hQ110
                subst l110 y110 z110
                obtain ⟨rfl, N110q, e110⟩ := hQ110
                have N110 := Fr.app N84 N110q
                obtain ⟨vr111, _, ⟨T111, L111, k111, n111⟩, -, X111, ⟨Lc111, hQ111, l111, y111, z111⟩, st111⟩ := Jvm.LawKit.callS X110 hx (y := (⟨"com/example/smazzata/smazzata/briscola/Briscola", "strength", "(Lcom/example/smazzata/smazzata/card/Rank;)I"⟩ : MethodName)) hown (mvT hZ (hw _ (List.mem_of_getElem? (i := 15) rfl))) (mvT hZ (hw _ (List.mem_of_getElem? (i := 16) rfl))) (mvT hZ (hw _ (List.mem_of_getElem? (i := 17) rfl))) (mvT hZ (hw _ (List.mem_of_getElem? (i := 18) rfl))) (by decide) (backOf (W := 0) (rms10 l Z a0 hw [] u  B h0 n0 O ) hZ (hw _ (List.mem_of_getElem? (i := 18) rfl)) (hw _ (List.mem_of_getElem? (i := 17) rfl)) (by decide) (by decide)) (g := (mkF m 59 #[.val (.int p0), .val (.int ((p0 &&& (2147483647 : Int32)) % (10 : Int32))), .val (.ref (u 10)), .val (.int (7 : Int32)), .val (.int (5 : Int32))] [(.ref (u 10))])) rfl (by rw [hml]; rfl) (argsL := [(.ref (u 10))]) (rest := []) (lenOf own_pd2 rfl) rfl (by show 2 * 0 + _ ≤ _; exact Nat.le_of_eq rfl) (hb hby at_59) (fun _ _ => ⟨rfl, e110, (by decide : 0 + 0 ≤ _), (by decide : 0 + 0 ≤ _)⟩)
                dsimp only [Pt.U, Pt.locs, Pt.cells, Pt.slots] at X111 l111 y111 z111 st111 hQ111
                subst l111 y111 z111
                obtain ⟨rfl, N111q, e111⟩ := hQ111
                have N111 := Fr.app N110 N111q
                obtain ⟨fs, hr, hrun, hended, hW, hsame⟩ := X111.leave (v := some (.int (1 : Int32))) (fun h => by rw [Bd.returns] at h; cases h)
                refine ⟨_, _, pre83 _ ?_, hrun, hended, _, _, rfl, ?_, ⟨_, rfl⟩, hW, hsame.mono (by decide) (by decide)⟩
                · show Steps p.tables e below (s₁.setTop (mkF m 9 #[.val (.int p0), .val (.int ((p0 &&& (2147483647 : Int32)) % (10 : Int32))), .unset, .unset, .unset] [(.int ((p0 &&& (2147483647 : Int32)) % (10 : Int32)))])) _
                  refine st84 _ ?_
                  show Steps p.tables e below (T84.setTop (mkF m 12 #[.val (.int p0), .val (.int ((p0 &&& (2147483647 : Int32)) % (10 : Int32))), .unset, .unset, .unset] [(.ref (u 10))])) _
                  refine XS.astoreN X84.here hx rfl (hb hby at_12) rfl rfl (l' := #[.val (.int p0), .val (.int ((p0 &&& (2147483647 : Int32)) % (10 : Int32))), .val (.ref (u 10)), .unset, .unset]) rfl ?_
                  show Steps p.tables e below (T84.setTop (mkF m 13 #[.val (.int p0), .val (.int ((p0 &&& (2147483647 : Int32)) % (10 : Int32))), .val (.ref (u 10)), .unset, .unset] [])) _
                  refine XS.aloadN X84.here hx rfl (hb hby at_13) rfl rfl ?_
                  show Steps p.tables e below (T84.setTop (mkF m 14 #[.val (.int p0), .val (.int ((p0 &&& (2147483647 : Int32)) % (10 : Int32))), .val (.ref (u 10)), .unset, .unset] [(.ref (u 10))])) _
                  refine st110.trans ?_
                  show Steps p.tables e below (T110.setTop (mkF m 17 #[.val (.int p0), .val (.int ((p0 &&& (2147483647 : Int32)) % (10 : Int32))), .val (.ref (u 10)), .unset, .unset] [(.int (7 : Int32))])) _
                  refine XS.istoreN X110.here hx rfl (hb hby at_17) rfl (l' := #[.val (.int p0), .val (.int ((p0 &&& (2147483647 : Int32)) % (10 : Int32))), .val (.ref (u 10)), .val (.int (7 : Int32)), .unset]) rfl ?_
                  show Steps p.tables e below (T110.setTop (mkF m 18 #[.val (.int p0), .val (.int ((p0 &&& (2147483647 : Int32)) % (10 : Int32))), .val (.ref (u 10)), .val (.int (7 : Int32)), .unset] [])) _
                  refine XS.iloadN X110.here hx rfl (hb hby at_18) rfl ?_
                  show Steps p.tables e below (T110.setTop (mkF m 19 #[.val (.int p0), .val (.int ((p0 &&& (2147483647 : Int32)) % (10 : Int32))), .val (.ref (u 10)), .val (.int (7 : Int32)), .unset] [(.int (7 : Int32))])) _
                  refine XS.iconst X110.here hx rfl (hb hby at_19) ?_
                  show Steps p.tables e below (T110.setTop (mkF m 20 #[.val (.int p0), .val (.int ((p0 &&& (2147483647 : Int32)) % (10 : Int32))), .val (.ref (u 10)), .val (.int (7 : Int32)), .unset] [(.int (1 : Int32)), (.int (7 : Int32))])) _
                  refine XS.icmpYes X110.here hx rfl (pc0 := 20) (pc' := 30) rfl (hb hby at_20) rfl (feq (by decide : ¬ ((7 : Int32) = (1 : Int32)))).2 (by decide) (by decide) ?_
                  show Steps p.tables e below (T110.setTop (mkF m 30 #[.val (.int p0), .val (.int ((p0 &&& (2147483647 : Int32)) % (10 : Int32))), .val (.ref (u 10)), .val (.int (7 : Int32)), .unset] [])) _
                  refine XS.iloadN X110.here hx rfl (hb hby at_30) rfl ?_
                  show Steps p.tables e below (T110.setTop (mkF m 31 #[.val (.int p0), .val (.int ((p0 &&& (2147483647 : Int32)) % (10 : Int32))), .val (.ref (u 10)), .val (.int (7 : Int32)), .unset] [(.int (7 : Int32))])) _
                  refine XS.iconst X110.here hx rfl (hb hby at_31) ?_
                  show Steps p.tables e below (T110.setTop (mkF m 32 #[.val (.int p0), .val (.int ((p0 &&& (2147483647 : Int32)) % (10 : Int32))), .val (.ref (u 10)), .val (.int (7 : Int32)), .unset] [(.int (3 : Int32)), (.int (7 : Int32))])) _
                  refine XS.icmpYes X110.here hx rfl (pc0 := 32) (pc' := 42) rfl (hb hby at_32) rfl (feq (by decide : ¬ ((7 : Int32) = (3 : Int32)))).2 (by decide) (by decide) ?_
                  show Steps p.tables e below (T110.setTop (mkF m 42 #[.val (.int p0), .val (.int ((p0 &&& (2147483647 : Int32)) % (10 : Int32))), .val (.ref (u 10)), .val (.int (7 : Int32)), .unset] [])) _
                  refine XS.iloadN X110.here hx rfl (hb hby at_42) rfl ?_
                  show Steps p.tables e below (T110.setTop (mkF m 43 #[.val (.int p0), .val (.int ((p0 &&& (2147483647 : Int32)) % (10 : Int32))), .val (.ref (u 10)), .val (.int (7 : Int32)), .unset] [(.int (7 : Int32))])) _
                  refine XS.iconst X110.here hx rfl (hb hby at_43) ?_
                  show Steps p.tables e below (T110.setTop (mkF m 44 #[.val (.int p0), .val (.int ((p0 &&& (2147483647 : Int32)) % (10 : Int32))), .val (.ref (u 10)), .val (.int (7 : Int32)), .unset] [(.int (2 : Int32)), (.int (7 : Int32))])) _
                  refine XS.icmpYes X110.here hx rfl (pc0 := 44) (pc' := 53) rfl (hb hby at_44) rfl (feq (by decide : ¬ ((7 : Int32) = (2 : Int32)))).2 (by decide) (by decide) ?_
                  show Steps p.tables e below (T110.setTop (mkF m 53 #[.val (.int p0), .val (.int ((p0 &&& (2147483647 : Int32)) % (10 : Int32))), .val (.ref (u 10)), .val (.int (7 : Int32)), .unset] [])) _
                  refine XS.iloadN X110.here hx rfl (hb hby at_53) rfl ?_
                  show Steps p.tables e below (T110.setTop (mkF m 54 #[.val (.int p0), .val (.int ((p0 &&& (2147483647 : Int32)) % (10 : Int32))), .val (.ref (u 10)), .val (.int (7 : Int32)), .unset] [(.int (7 : Int32))])) _
                  refine XS.iconst X110.here hx rfl (hb hby at_54) ?_
                  show Steps p.tables e below (T110.setTop (mkF m 55 #[.val (.int p0), .val (.int ((p0 &&& (2147483647 : Int32)) % (10 : Int32))), .val (.ref (u 10)), .val (.int (7 : Int32)), .unset] [(.int (2 : Int32)), (.int (7 : Int32))])) _
                  refine XS.isub X110.here hx rfl (hb hby at_55) rfl ?_
                  show Steps p.tables e below (T110.setTop (mkF m 56 #[.val (.int p0), .val (.int ((p0 &&& (2147483647 : Int32)) % (10 : Int32))), .val (.ref (u 10)), .val (.int (7 : Int32)), .unset] [(.int (5 : Int32))])) _
                  refine XS.istore X110.here hx rfl (hb hby at_56) rfl (l' := #[.val (.int p0), .val (.int ((p0 &&& (2147483647 : Int32)) % (10 : Int32))), .val (.ref (u 10)), .val (.int (7 : Int32)), .val (.int (5 : Int32))]) rfl ?_
                  show Steps p.tables e below (T110.setTop (mkF m 58 #[.val (.int p0), .val (.int ((p0 &&& (2147483647 : Int32)) % (10 : Int32))), .val (.ref (u 10)), .val (.int (7 : Int32)), .val (.int (5 : Int32))] [])) _
                  refine XS.aloadN X110.here hx rfl (hb hby at_58) rfl rfl ?_
                  show Steps p.tables e below (T110.setTop (mkF m 59 #[.val (.int p0), .val (.int ((p0 &&& (2147483647 : Int32)) % (10 : Int32))), .val (.ref (u 10)), .val (.int (7 : Int32)), .val (.int (5 : Int32))] [(.ref (u 10))])) _
                  refine st111 _ ?_
                  show Steps p.tables e below (T111.setTop (mkF m 62 #[.val (.int p0), .val (.int ((p0 &&& (2147483647 : Int32)) % (10 : Int32))), .val (.ref (u 10)), .val (.int (7 : Int32)), .val (.int (5 : Int32))] [(.int (5 : Int32))])) _
                  refine XS.iload X111.here hx rfl (hb hby at_62) rfl ?_
                  show Steps p.tables e below (T111.setTop (mkF m 64 #[.val (.int p0), .val (.int ((p0 &&& (2147483647 : Int32)) % (10 : Int32))), .val (.ref (u 10)), .val (.int (7 : Int32)), .val (.int (5 : Int32))] [(.int (5 : Int32)), (.int (5 : Int32))])) _
                  refine XS.icmpNo X111.here hx rfl (hb hby at_64) rfl (teq (by decide : (5 : Int32) = (5 : Int32))).2 ?_
                  show Steps p.tables e below (T111.setTop (mkF m 67 #[.val (.int p0), .val (.int ((p0 &&& (2147483647 : Int32)) % (10 : Int32))), .val (.ref (u 10)), .val (.int (7 : Int32)), .val (.int (5 : Int32))] [])) _
                  refine XS.iconst X111.here hx rfl (hb hby at_67) ?_
                  show Steps p.tables e below (T111.setTop (mkF m 68 #[.val (.int p0), .val (.int ((p0 &&& (2147483647 : Int32)) % (10 : Int32))), .val (.ref (u 10)), .val (.int (7 : Int32)), .val (.int (5 : Int32))] [(.int (1 : Int32))])) _
                  refine XS.goto X111.here hx rfl (pc0 := 68) (pc' := 72) rfl (hb hby at_68) (by decide) (by decide) ?_
                  show Steps p.tables e below (T111.setTop (mkF m 72 #[.val (.int p0), .val (.int ((p0 &&& (2147483647 : Int32)) % (10 : Int32))), .val (.ref (u 10)), .val (.int (7 : Int32)), .val (.int (5 : Int32))] [(.int (1 : Int32))])) _
                  exact retN X111 hx (t := .boolean) Bd.returns (by simp) (hb hby at_72) hr
                · show own_Q0 Z u p0 h0 n0 _ T111.heap _
                  rw [e111]
                  exact ⟨rfl, N111, trivial⟩
              · --
                by_cases hc113 : ((p0 &&& (2147483647 : Int32)) % (10 : Int32)) = (7 : Int32)
                · --
                  obtain rfl : vr84 = some (.ref (u 5)) := hv84.trans (by unfold own_r1; rw [if_neg hc85, if_neg hc89, if_neg hc93, if_neg hc97, if_neg hc101, if_neg hc105, if_neg hc109, if_pos hc113])
                  obtain ⟨cq114, kq114, q114a, q114b, q114c⟩ := isOf hZ e84 (B.2.2.2.2.2.2.2.2.2.2.1.ext O.2)
                  obtain ⟨vr114, _, ⟨T114, L114, k114, n114⟩, -, X114, ⟨Lc114, hQ114, l114, y114, z114⟩, st114⟩ := X84.virtualBack hx (y := (⟨"com/example/smazzata/smazzata/card/Rank", "captureValue", "()I"⟩ : MethodName)) (z := (⟨"com/example/smazzata/smazzata/card/Rank", "captureValue", "()I"⟩ : MethodName)) hown (mvT hZ (hw _ (List.mem_of_getElem? (i := 8) rfl))) (mvT hZ (hw _ (List.mem_of_getElem? (i := 9) rfl))) (notFace_of_selects (args := #[]) (mvT hZ (hw _ (List.mem_of_getElem? (i := 11) rfl)))) (mvT hZ (hw _ (List.mem_of_getElem? (i := 11) rfl))) (mvT hZ (hw _ (List.mem_of_getElem? (i := 10) rfl))) (by decide) (backOf (W := 0) (rm2 l Z a0 hw [] u (u 5) (8 : Int32) B h0 n0 O (B.2.2.2.2.2.2.2.2.2.2.2.2.2.2.2.2.2.2.2.2.2.2.2.2.2.2.2.2.2.2.1.ext O.2)) hZ (hw _ (List.mem_of_getElem? (i := 12) rfl)) (hw _ (List.mem_of_getElem? (i := 6) rfl)) (by decide) (by decide)) q114a q114c (g := (mkF m 14 #[.val (.int p0), .val (.int ((p0 &&& (2147483647 : Int32)) % (10 : Int32))), .val (.ref (u 5)), .unset, .unset] [(.ref (u 5))])) rfl (by rw [hml]; rfl) (Steps.refl _) (argsL := []) (rest := []) (lenOf own_pd0 rfl) rfl (by show 2 * 0 + _ ≤ _; exact Nat.le_of_eq rfl) (hb hby at_14) (fun _ _ => ⟨rfl, e84, (by decide : 0 + 0 ≤ _), (by decide : 0 + 0 ≤ _)⟩)
                  dsimp only [Pt.U, Pt.locs, Pt.cells, Pt.slots] at X114 l114 y114 z114 st114 hQ114
                  subst l114 y114 z114
                  obtain ⟨rfl, N114q, e114⟩ := hQ114
                  have N114 := Fr.app N84 N114q
                  obtain ⟨vr115, _, ⟨T115, L115, k115, n115⟩, -, X115, ⟨Lc115, hQ115, l115, y115, z115⟩, st115⟩ := Jvm.LawKit.callS X114 hx (y := (⟨"com/example/smazzata/smazzata/briscola/Briscola", "strength", "(Lcom/example/smazzata/smazzata/card/Rank;)I"⟩ : MethodName)) hown (mvT hZ (hw _ (List.mem_of_getElem? (i := 15) rfl))) (mvT hZ (hw _ (List.mem_of_getElem? (i := 16) rfl))) (mvT hZ (hw _ (List.mem_of_getElem? (i := 17) rfl))) (mvT hZ (hw _ (List.mem_of_getElem? (i := 18) rfl))) (by decide) (backOf (W := 0) (rms5 l Z a0 hw [] u  B h0 n0 O ) hZ (hw _ (List.mem_of_getElem? (i := 18) rfl)) (hw _ (List.mem_of_getElem? (i := 17) rfl)) (by decide) (by decide)) (g := (mkF m 59 #[.val (.int p0), .val (.int ((p0 &&& (2147483647 : Int32)) % (10 : Int32))), .val (.ref (u 5)), .val (.int (8 : Int32)), .val (.int (6 : Int32))] [(.ref (u 5))])) rfl (by rw [hml]; rfl) (argsL := [(.ref (u 5))]) (rest := []) (lenOf own_pd2 rfl) rfl (by show 2 * 0 + _ ≤ _; exact Nat.le_of_eq rfl) (hb hby at_59) (fun _ _ => ⟨rfl, e114, (by decide : 0 + 0 ≤ _), (by decide : 0 + 0 ≤ _)⟩)
                  dsimp only [Pt.U, Pt.locs, Pt.cells, Pt.slots] at X115 l115 y115 z115 st115 hQ115
                  subst l115 y115 z115
                  obtain ⟨rfl, N115q, e115⟩ := hQ115
                  have N115 := Fr.app N114 N115q
                  obtain ⟨fs, hr, hrun, hended, hW, hsame⟩ := X115.leave (v := some (.int (1 : Int32))) (fun h => by rw [Bd.returns] at h; cases h)
                  refine ⟨_, _, pre83 _ ?_, hrun, hended, _, _, rfl, ?_, ⟨_, rfl⟩, hW, hsame.mono (by decide) (by decide)⟩
                  · show Steps p.tables e below (s₁.setTop (mkF m 9 #[.val (.int p0), .val (.int ((p0 &&& (2147483647 : Int32)) % (10 : Int32))), .unset, .unset, .unset] [(.int ((p0 &&& (2147483647 : Int32)) % (10 : Int32)))])) _
                    refine st84 _ ?_
                    show Steps p.tables e below (T84.setTop (mkF m 12 #[.val (.int p0), .val (.int ((p0 &&& (2147483647 : Int32)) % (10 : Int32))), .unset, .unset, .unset] [(.ref (u 5))])) _
                    refine XS.astoreN X84.here hx rfl (hb hby at_12) rfl rfl (l' := #[.val (.int p0), .val (.int ((p0 &&& (2147483647 : Int32)) % (10 : Int32))), .val (.ref (u 5)), .unset, .unset]) rfl ?_
                    show Steps p.tables e below (T84.setTop (mkF m 13 #[.val (.int p0), .val (.int ((p0 &&& (2147483647 : Int32)) % (10 : Int32))), .val (.ref (u 5)), .unset, .unset] [])) _
                    refine XS.aloadN X84.here hx rfl (hb hby at_13) rfl rfl ?_
                    show Steps p.tables e below (T84.setTop (mkF m 14 #[.val (.int p0), .val (.int ((p0 &&& (2147483647 : Int32)) % (10 : Int32))), .val (.ref (u 5)), .unset, .unset] [(.ref (u 5))])) _
                    refine st114.trans ?_
                    show Steps p.tables e below (T114.setTop (mkF m 17 #[.val (.int p0), .val (.int ((p0 &&& (2147483647 : Int32)) % (10 : Int32))), .val (.ref (u 5)), .unset, .unset] [(.int (8 : Int32))])) _
                    refine XS.istoreN X114.here hx rfl (hb hby at_17) rfl (l' := #[.val (.int p0), .val (.int ((p0 &&& (2147483647 : Int32)) % (10 : Int32))), .val (.ref (u 5)), .val (.int (8 : Int32)), .unset]) rfl ?_
                    show Steps p.tables e below (T114.setTop (mkF m 18 #[.val (.int p0), .val (.int ((p0 &&& (2147483647 : Int32)) % (10 : Int32))), .val (.ref (u 5)), .val (.int (8 : Int32)), .unset] [])) _
                    refine XS.iloadN X114.here hx rfl (hb hby at_18) rfl ?_
                    show Steps p.tables e below (T114.setTop (mkF m 19 #[.val (.int p0), .val (.int ((p0 &&& (2147483647 : Int32)) % (10 : Int32))), .val (.ref (u 5)), .val (.int (8 : Int32)), .unset] [(.int (8 : Int32))])) _
                    refine XS.iconst X114.here hx rfl (hb hby at_19) ?_
                    show Steps p.tables e below (T114.setTop (mkF m 20 #[.val (.int p0), .val (.int ((p0 &&& (2147483647 : Int32)) % (10 : Int32))), .val (.ref (u 5)), .val (.int (8 : Int32)), .unset] [(.int (1 : Int32)), (.int (8 : Int32))])) _
                    refine XS.icmpYes X114.here hx rfl (pc0 := 20) (pc' := 30) rfl (hb hby at_20) rfl (feq (by decide : ¬ ((8 : Int32) = (1 : Int32)))).2 (by decide) (by decide) ?_
                    show Steps p.tables e below (T114.setTop (mkF m 30 #[.val (.int p0), .val (.int ((p0 &&& (2147483647 : Int32)) % (10 : Int32))), .val (.ref (u 5)), .val (.int (8 : Int32)), .unset] [])) _
                    refine XS.iloadN X114.here hx rfl (hb hby at_30) rfl ?_
                    show Steps p.tables e below (T114.setTop (mkF m 31 #[.val (.int p0), .val (.int ((p0 &&& (2147483647 : Int32)) % (10 : Int32))), .val (.ref (u 5)), .val (.int (8 : Int32)), .unset] [(.int (8 : Int32))])) _
                    refine XS.iconst X114.here hx rfl (hb hby at_31) ?_
                    show Steps p.tables e below (T114.setTop (mkF m 32 #[.val (.int p0), .val (.int ((p0 &&& (2147483647 : Int32)) % (10 : Int32))), .val (.ref (u 5)), .val (.int (8 : Int32)), .unset] [(.int (3 : Int32)), (.int (8 : Int32))])) _
                    refine XS.icmpYes X114.here hx rfl (pc0 := 32) (pc' := 42) rfl (hb hby at_32) rfl (feq (by decide : ¬ ((8 : Int32) = (3 : Int32)))).2 (by decide) (by decide) ?_
                    show Steps p.tables e below (T114.setTop (mkF m 42 #[.val (.int p0), .val (.int ((p0 &&& (2147483647 : Int32)) % (10 : Int32))), .val (.ref (u 5)), .val (.int (8 : Int32)), .unset] [])) _
                    refine XS.iloadN X114.here hx rfl (hb hby at_42) rfl ?_
                    show Steps p.tables e below (T114.setTop (mkF m 43 #[.val (.int p0), .val (.int ((p0 &&& (2147483647 : Int32)) % (10 : Int32))), .val (.ref (u 5)), .val (.int (8 : Int32)), .unset] [(.int (8 : Int32))])) _
                    refine XS.iconst X114.here hx rfl (hb hby at_43) ?_
                    show Steps p.tables e below (T114.setTop (mkF m 44 #[.val (.int p0), .val (.int ((p0 &&& (2147483647 : Int32)) % (10 : Int32))), .val (.ref (u 5)), .val (.int (8 : Int32)), .unset] [(.int (2 : Int32)), (.int (8 : Int32))])) _
                    refine XS.icmpYes X114.here hx rfl (pc0 := 44) (pc' := 53) rfl (hb hby at_44) rfl (feq (by decide : ¬ ((8 : Int32) = (2 : Int32)))).2 (by decide) (by decide) ?_
                    show Steps p.tables e below (T114.setTop (mkF m 53 #[.val (.int p0), .val (.int ((p0 &&& (2147483647 : Int32)) % (10 : Int32))), .val (.ref (u 5)), .val (.int (8 : Int32)), .unset] [])) _
                    refine XS.iloadN X114.here hx rfl (hb hby at_53) rfl ?_
                    show Steps p.tables e below (T114.setTop (mkF m 54 #[.val (.int p0), .val (.int ((p0 &&& (2147483647 : Int32)) % (10 : Int32))), .val (.ref (u 5)), .val (.int (8 : Int32)), .unset] [(.int (8 : Int32))])) _
                    refine XS.iconst X114.here hx rfl (hb hby at_54) ?_
                    show Steps p.tables e below (T114.setTop (mkF m 55 #[.val (.int p0), .val (.int ((p0 &&& (2147483647 : Int32)) % (10 : Int32))), .val (.ref (u 5)), .val (.int (8 : Int32)), .unset] [(.int (2 : Int32)), (.int (8 : Int32))])) _
                    refine XS.isub X114.here hx rfl (hb hby at_55) rfl ?_
                    show Steps p.tables e below (T114.setTop (mkF m 56 #[.val (.int p0), .val (.int ((p0 &&& (2147483647 : Int32)) % (10 : Int32))), .val (.ref (u 5)), .val (.int (8 : Int32)), .unset] [(.int (6 : Int32))])) _
                    refine XS.istore X114.here hx rfl (hb hby at_56) rfl (l' := #[.val (.int p0), .val (.int ((p0 &&& (2147483647 : Int32)) % (10 : Int32))), .val (.ref (u 5)), .val (.int (8 : Int32)), .val (.int (6 : Int32))]) rfl ?_
                    show Steps p.tables e below (T114.setTop (mkF m 58 #[.val (.int p0), .val (.int ((p0 &&& (2147483647 : Int32)) % (10 : Int32))), .val (.ref (u 5)), .val (.int (8 : Int32)), .val (.int (6 : Int32))] [])) _
                    refine XS.aloadN X114.here hx rfl (hb hby at_58) rfl rfl ?_
                    show Steps p.tables e below (T114.setTop (mkF m 59 #[.val (.int p0), .val (.int ((p0 &&& (2147483647 : Int32)) % (10 : Int32))), .val (.ref (u 5)), .val (.int (8 : Int32)), .val (.int (6 : Int32))] [(.ref (u 5))])) _
                    refine st115 _ ?_
                    show Steps p.tables e below (T115.setTop (mkF m 62 #[.val (.int p0), .val (.int ((p0 &&& (2147483647 : Int32)) % (10 : Int32))), .val (.ref (u 5)), .val (.int (8 : Int32)), .val (.int (6 : Int32))] [(.int (6 : Int32))])) _
                    refine XS.iload X115.here hx rfl (hb hby at_62) rfl ?_
                    show Steps p.tables e below (T115.setTop (mkF m 64 #[.val (.int p0), .val (.int ((p0 &&& (2147483647 : Int32)) % (10 : Int32))), .val (.ref (u 5)), .val (.int (8 : Int32)), .val (.int (6 : Int32))] [(.int (6 : Int32)), (.int (6 : Int32))])) _
                    refine XS.icmpNo X115.here hx rfl (hb hby at_64) rfl (teq (by decide : (6 : Int32) = (6 : Int32))).2 ?_
                    show Steps p.tables e below (T115.setTop (mkF m 67 #[.val (.int p0), .val (.int ((p0 &&& (2147483647 : Int32)) % (10 : Int32))), .val (.ref (u 5)), .val (.int (8 : Int32)), .val (.int (6 : Int32))] [])) _
                    refine XS.iconst X115.here hx rfl (hb hby at_67) ?_
                    show Steps p.tables e below (T115.setTop (mkF m 68 #[.val (.int p0), .val (.int ((p0 &&& (2147483647 : Int32)) % (10 : Int32))), .val (.ref (u 5)), .val (.int (8 : Int32)), .val (.int (6 : Int32))] [(.int (1 : Int32))])) _
                    refine XS.goto X115.here hx rfl (pc0 := 68) (pc' := 72) rfl (hb hby at_68) (by decide) (by decide) ?_
                    show Steps p.tables e below (T115.setTop (mkF m 72 #[.val (.int p0), .val (.int ((p0 &&& (2147483647 : Int32)) % (10 : Int32))), .val (.ref (u 5)), .val (.int (8 : Int32)), .val (.int (6 : Int32))] [(.int (1 : Int32))])) _
                    exact retN X115 hx (t := .boolean) Bd.returns (by simp) (hb hby at_72) hr
                  · show own_Q0 Z u p0 h0 n0 _ T115.heap _
                    rw [e115]
                    exact ⟨rfl, N115, trivial⟩
                · --
                  by_cases hc117 : ((p0 &&& (2147483647 : Int32)) % (10 : Int32)) = (8 : Int32)
                  · --
                    obtain rfl : vr84 = some (.ref (u 7)) := hv84.trans (by unfold own_r1; rw [if_neg hc85, if_neg hc89, if_neg hc93, if_neg hc97, if_neg hc101, if_neg hc105, if_neg hc109, if_neg hc113, if_pos hc117])
                    obtain ⟨cq118, kq118, q118a, q118b, q118c⟩ := isOf hZ e84 (B.2.2.2.2.2.2.2.2.2.2.2.2.2.2.1.ext O.2)
                    obtain ⟨vr118, _, ⟨T118, L118, k118, n118⟩, -, X118, ⟨Lc118, hQ118, l118, y118, z118⟩, st118⟩ := X84.virtualBack hx (y := (⟨"com/example/smazzata/smazzata/card/Rank", "captureValue", "()I"⟩ : MethodName)) (z := (⟨"com/example/smazzata/smazzata/card/Rank", "captureValue", "()I"⟩ : MethodName)) hown (mvT hZ (hw _ (List.mem_of_getElem? (i := 8) rfl))) (mvT hZ (hw _ (List.mem_of_getElem? (i := 9) rfl))) (notFace_of_selects (args := #[]) (mvT hZ (hw _ (List.mem_of_getElem? (i := 11) rfl)))) (mvT hZ (hw _ (List.mem_of_getElem? (i := 11) rfl))) (mvT hZ (hw _ (List.mem_of_getElem? (i := 10) rfl))) (by decide) (backOf (W := 0) (rm2 l Z a0 hw [] u (u 7) (9 : Int32) B h0 n0 O (B.2.2.2.2.2.2.2.2.2.2.2.2.2.2.2.2.2.2.2.2.2.2.2.2.2.2.2.2.2.2.2.2.2.2.1.ext O.2)) hZ (hw _ (List.mem_of_getElem? (i := 12) rfl)) (hw _ (List.mem_of_getElem? (i := 6) rfl)) (by decide) (by decide)) q118a q118c (g := (mkF m 14 #[.val (.int p0), .val (.int ((p0 &&& (2147483647 : Int32)) % (10 : Int32))), .val (.ref (u 7)), .unset, .unset] [(.ref (u 7))])) rfl (by rw [hml]; rfl) (Steps.refl _) (argsL := []) (rest := []) (lenOf own_pd0 rfl) rfl (by show 2 * 0 + _ ≤ _; exact Nat.le_of_eq rfl) (hb hby at_14) (fun _ _ => ⟨rfl, e84, (by decide : 0 + 0 ≤ _), (by decide : 0 + 0 ≤ _)⟩)
                    dsimp only [Pt.U, Pt.locs, Pt.cells, Pt.slots] at X118 l118 y118 z118 st118 hQ118
                    subst l118 y118 z118
                    obtain ⟨rfl, N118q, e118⟩ := hQ118
                    have N118 := Fr.app N84 N118q
                    obtain ⟨vr119, _, ⟨T119, L119, k119, n119⟩, -, X119, ⟨Lc119, hQ119, l119, y119, z119⟩, st119⟩ := Jvm.LawKit.callS X118 hx (y := (⟨"com/example/smazzata/smazzata/briscola/Briscola", "strength", "(Lcom/example/smazzata/smazzata/card/Rank;)I"⟩ : MethodName)) hown (mvT hZ (hw _ (List.mem_of_getElem? (i := 15) rfl))) (mvT hZ (hw _ (List.mem_of_getElem? (i := 16) rfl))) (mvT hZ (hw _ (List.mem_of_getElem? (i := 17) rfl))) (mvT hZ (hw _ (List.mem_of_getElem? (i := 18) rfl))) (by decide) (backOf (W := 0) (rms7 l Z a0 hw [] u  B h0 n0 O ) hZ (hw _ (List.mem_of_getElem? (i := 18) rfl)) (hw _ (List.mem_of_getElem? (i := 17) rfl)) (by decide) (by decide)) (g := (mkF m 59 #[.val (.int p0), .val (.int ((p0 &&& (2147483647 : Int32)) % (10 : Int32))), .val (.ref (u 7)), .val (.int (9 : Int32)), .val (.int (7 : Int32))] [(.ref (u 7))])) rfl (by rw [hml]; rfl) (argsL := [(.ref (u 7))]) (rest := []) (lenOf own_pd2 rfl) rfl (by show 2 * 0 + _ ≤ _; exact Nat.le_of_eq rfl) (hb hby at_59) (fun _ _ => ⟨rfl, e118, (by decide : 0 + 0 ≤ _), (by decide : 0 + 0 ≤ _)⟩)
                    dsimp only [Pt.U, Pt.locs, Pt.cells, Pt.slots] at X119 l119 y119 z119 st119 hQ119
                    subst l119 y119 z119
                    obtain ⟨rfl, N119q, e119⟩ := hQ119
                    have N119 := Fr.app N118 N119q
                    obtain ⟨fs, hr, hrun, hended, hW, hsame⟩ := X119.leave (v := some (.int (1 : Int32))) (fun h => by rw [Bd.returns] at h; cases h)
                    refine ⟨_, _, pre83 _ ?_, hrun, hended, _, _, rfl, ?_, ⟨_, rfl⟩, hW, hsame.mono (by decide) (by decide)⟩
                    · show Steps p.tables e below (s₁.setTop (mkF m 9 #[.val (.int p0), .val (.int ((p0 &&& (2147483647 : Int32)) % (10 : Int32))), .unset, .unset, .unset] [(.int ((p0 &&& (2147483647 : Int32)) % (10 : Int32)))])) _
                      refine st84 _ ?_
                      show Steps p.tables e below (T84.setTop (mkF m 12 #[.val (.int p0), .val (.int ((p0 &&& (2147483647 : Int32)) % (10 : Int32))), .unset, .unset, .unset] [(.ref (u 7))])) _
                      refine XS.astoreN X84.here hx rfl (hb hby at_12) rfl rfl (l' := #[.val (.int p0), .val (.int ((p0 &&& (2147483647 : Int32)) % (10 : Int32))), .val (.ref (u 7)), .unset, .unset]) rfl ?_
                      show Steps p.tables e below (T84.setTop (mkF m 13 #[.val (.int p0), .val (.int ((p0 &&& (2147483647 : Int32)) % (10 : Int32))), .val (.ref (u 7)), .unset, .unset] [])) _
                      refine XS.aloadN X84.here hx rfl (hb hby at_13) rfl rfl ?_
                      show Steps p.tables e below (T84.setTop (mkF m 14 #[.val (.int p0), .val (.int ((p0 &&& (2147483647 : Int32)) % (10 : Int32))), .val (.ref (u 7)), .unset, .unset] [(.ref (u 7))])) _
                      refine st118.trans ?_
                      show Steps p.tables e below (T118.setTop (mkF m 17 #[.val (.int p0), .val (.int ((p0 &&& (2147483647 : Int32)) % (10 : Int32))), .val (.ref (u 7)), .unset, .unset] [(.int (9 : Int32))])) _
                      refine XS.istoreN X118.here hx rfl (hb hby at_17) rfl (l' := #[.val (.int p0), .val (.int ((p0 &&& (2147483647 : Int32)) % (10 : Int32))), .val (.ref (u 7)), .val (.int (9 : Int32)), .unset]) rfl ?_
                      show Steps p.tables e below (T118.setTop (mkF m 18 #[.val (.int p0), .val (.int ((p0 &&& (2147483647 : Int32)) % (10 : Int32))), .val (.ref (u 7)), .val (.int (9 : Int32)), .unset] [])) _
                      refine XS.iloadN X118.here hx rfl (hb hby at_18) rfl ?_
                      show Steps p.tables e below (T118.setTop (mkF m 19 #[.val (.int p0), .val (.int ((p0 &&& (2147483647 : Int32)) % (10 : Int32))), .val (.ref (u 7)), .val (.int (9 : Int32)), .unset] [(.int (9 : Int32))])) _
                      refine XS.iconst X118.here hx rfl (hb hby at_19) ?_
                      show Steps p.tables e below (T118.setTop (mkF m 20 #[.val (.int p0), .val (.int ((p0 &&& (2147483647 : Int32)) % (10 : Int32))), .val (.ref (u 7)), .val (.int (9 : Int32)), .unset] [(.int (1 : Int32)), (.int (9 : Int32))])) _
                      refine XS.icmpYes X118.here hx rfl (pc0 := 20) (pc' := 30) rfl (hb hby at_20) rfl (feq (by decide : ¬ ((9 : Int32) = (1 : Int32)))).2 (by decide) (by decide) ?_
                      show Steps p.tables e below (T118.setTop (mkF m 30 #[.val (.int p0), .val (.int ((p0 &&& (2147483647 : Int32)) % (10 : Int32))), .val (.ref (u 7)), .val (.int (9 : Int32)), .unset] [])) _
                      refine XS.iloadN X118.here hx rfl (hb hby at_30) rfl ?_
                      show Steps p.tables e below (T118.setTop (mkF m 31 #[.val (.int p0), .val (.int ((p0 &&& (2147483647 : Int32)) % (10 : Int32))), .val (.ref (u 7)), .val (.int (9 : Int32)), .unset] [(.int (9 : Int32))])) _
                      refine XS.iconst X118.here hx rfl (hb hby at_31) ?_
                      show Steps p.tables e below (T118.setTop (mkF m 32 #[.val (.int p0), .val (.int ((p0 &&& (2147483647 : Int32)) % (10 : Int32))), .val (.ref (u 7)), .val (.int (9 : Int32)), .unset] [(.int (3 : Int32)), (.int (9 : Int32))])) _
                      refine XS.icmpYes X118.here hx rfl (pc0 := 32) (pc' := 42) rfl (hb hby at_32) rfl (feq (by decide : ¬ ((9 : Int32) = (3 : Int32)))).2 (by decide) (by decide) ?_
                      show Steps p.tables e below (T118.setTop (mkF m 42 #[.val (.int p0), .val (.int ((p0 &&& (2147483647 : Int32)) % (10 : Int32))), .val (.ref (u 7)), .val (.int (9 : Int32)), .unset] [])) _
                      refine XS.iloadN X118.here hx rfl (hb hby at_42) rfl ?_
                      show Steps p.tables e below (T118.setTop (mkF m 43 #[.val (.int p0), .val (.int ((p0 &&& (2147483647 : Int32)) % (10 : Int32))), .val (.ref (u 7)), .val (.int (9 : Int32)), .unset] [(.int (9 : Int32))])) _
                      refine XS.iconst X118.here hx rfl (hb hby at_43) ?_
                      show Steps p.tables e below (T118.setTop (mkF m 44 #[.val (.int p0), .val (.int ((p0 &&& (2147483647 : Int32)) % (10 : Int32))), .val (.ref (u 7)), .val (.int (9 : Int32)), .unset] [(.int (2 : Int32)), (.int (9 : Int32))])) _
                      refine XS.icmpYes X118.here hx rfl (pc0 := 44) (pc' := 53) rfl (hb hby at_44) rfl (feq (by decide : ¬ ((9 : Int32) = (2 : Int32)))).2 (by decide) (by decide) ?_
                      show Steps p.tables e below (T118.setTop (mkF m 53 #[.val (.int p0), .val (.int ((p0 &&& (2147483647 : Int32)) % (10 : Int32))), .val (.ref (u 7)), .val (.int (9 : Int32)), .unset] [])) _
                      refine XS.iloadN X118.here hx rfl (hb hby at_53) rfl ?_
                      show Steps p.tables e below (T118.setTop (mkF m 54 #[.val (.int p0), .val (.int ((p0 &&& (2147483647 : Int32)) % (10 : Int32))), .val (.ref (u 7)), .val (.int (9 : Int32)), .unset] [(.int (9 : Int32))])) _
                      refine XS.iconst X118.here hx rfl (hb hby at_54) ?_
                      show Steps p.tables e below (T118.setTop (mkF m 55 #[.val (.int p0), .val (.int ((p0 &&& (2147483647 : Int32)) % (10 : Int32))), .val (.ref (u 7)), .val (.int (9 : Int32)), .unset] [(.int (2 : Int32)), (.int (9 : Int32))])) _
                      refine XS.isub X118.here hx rfl (hb hby at_55) rfl ?_
                      show Steps p.tables e below (T118.setTop (mkF m 56 #[.val (.int p0), .val (.int ((p0 &&& (2147483647 : Int32)) % (10 : Int32))), .val (.ref (u 7)), .val (.int (9 : Int32)), .unset] [(.int (7 : Int32))])) _
                      refine XS.istore X118.here hx rfl (hb hby at_56) rfl (l' := #[.val (.int p0), .val (.int ((p0 &&& (2147483647 : Int32)) % (10 : Int32))), .val (.ref (u 7)), .val (.int (9 : Int32)), .val (.int (7 : Int32))]) rfl ?_
                      show Steps p.tables e below (T118.setTop (mkF m 58 #[.val (.int p0), .val (.int ((p0 &&& (2147483647 : Int32)) % (10 : Int32))), .val (.ref (u 7)), .val (.int (9 : Int32)), .val (.int (7 : Int32))] [])) _
                      refine XS.aloadN X118.here hx rfl (hb hby at_58) rfl rfl ?_
                      show Steps p.tables e below (T118.setTop (mkF m 59 #[.val (.int p0), .val (.int ((p0 &&& (2147483647 : Int32)) % (10 : Int32))), .val (.ref (u 7)), .val (.int (9 : Int32)), .val (.int (7 : Int32))] [(.ref (u 7))])) _
                      refine st119 _ ?_
                      show Steps p.tables e below (T119.setTop (mkF m 62 #[.val (.int p0), .val (.int ((p0 &&& (2147483647 : Int32)) % (10 : Int32))), .val (.ref (u 7)), .val (.int (9 : Int32)), .val (.int (7 : Int32))] [(.int (7 : Int32))])) _
                      refine XS.iload X119.here hx rfl (hb hby at_62) rfl ?_
                      show Steps p.tables e below (T119.setTop (mkF m 64 #[.val (.int p0), .val (.int ((p0 &&& (2147483647 : Int32)) % (10 : Int32))), .val (.ref (u 7)), .val (.int (9 : Int32)), .val (.int (7 : Int32))] [(.int (7 : Int32)), (.int (7 : Int32))])) _
                      refine XS.icmpNo X119.here hx rfl (hb hby at_64) rfl (teq (by decide : (7 : Int32) = (7 : Int32))).2 ?_
                      show Steps p.tables e below (T119.setTop (mkF m 67 #[.val (.int p0), .val (.int ((p0 &&& (2147483647 : Int32)) % (10 : Int32))), .val (.ref (u 7)), .val (.int (9 : Int32)), .val (.int (7 : Int32))] [])) _
                      refine XS.iconst X119.here hx rfl (hb hby at_67) ?_
                      show Steps p.tables e below (T119.setTop (mkF m 68 #[.val (.int p0), .val (.int ((p0 &&& (2147483647 : Int32)) % (10 : Int32))), .val (.ref (u 7)), .val (.int (9 : Int32)), .val (.int (7 : Int32))] [(.int (1 : Int32))])) _
                      refine XS.goto X119.here hx rfl (pc0 := 68) (pc' := 72) rfl (hb hby at_68) (by decide) (by decide) ?_
                      show Steps p.tables e below (T119.setTop (mkF m 72 #[.val (.int p0), .val (.int ((p0 &&& (2147483647 : Int32)) % (10 : Int32))), .val (.ref (u 7)), .val (.int (9 : Int32)), .val (.int (7 : Int32))] [(.int (1 : Int32))])) _
                      exact retN X119 hx (t := .boolean) Bd.returns (by simp) (hb hby at_72) hr
                    · show own_Q0 Z u p0 h0 n0 _ T119.heap _
                      rw [e119]
                      exact ⟨rfl, N119, trivial⟩
                  · --
                    obtain rfl : vr84 = some (.ref (u 8)) := hv84.trans (by unfold own_r1; rw [if_neg hc85, if_neg hc89, if_neg hc93, if_neg hc97, if_neg hc101, if_neg hc105, if_neg hc109, if_neg hc113, if_neg hc117])
                    obtain ⟨cq121, kq121, q121a, q121b, q121c⟩ := isOf hZ e84 (B.2.2.2.2.2.2.2.2.2.2.2.2.2.2.2.2.1.ext O.2)
                    obtain ⟨vr121, _, ⟨T121, L121, k121, n121⟩, -, X121, ⟨Lc121, hQ121, l121, y121, z121⟩, st121⟩ := X84.virtualBack hx (y := (⟨"com/example/smazzata/smazzata/card/Rank", "captureValue", "()I"⟩ : MethodName)) (z := (⟨"com/example/smazzata/smazzata/card/Rank", "captureValue", "()I"⟩ : MethodName)) hown (mvT hZ (hw _ (List.mem_of_getElem? (i := 8) rfl))) (mvT hZ (hw _ (List.mem_of_getElem? (i := 9) rfl))) (notFace_of_selects (args := #[]) (mvT hZ (hw _ (List.mem_of_getElem? (i := 11) rfl)))) (mvT hZ (hw _ (List.mem_of_getElem? (i := 11) rfl))) (mvT hZ (hw _ (List.mem_of_getElem? (i := 10) rfl))) (by decide) (backOf (W := 0) (rm2 l Z a0 hw [] u (u 8) (10 : Int32) B h0 n0 O (B.2.2.2.2.2.2.2.2.2.2.2.2.2.2.2.2.2.2.2.2.2.2.2.2.2.2.2.2.2.2.2.2.2.2.2.2.1.ext O.2)) hZ (hw _ (List.mem_of_getElem? (i := 12) rfl)) (hw _ (List.mem_of_getElem? (i := 6) rfl)) (by decide) (by decide)) q121a q121c (g := (mkF m 14 #[.val (.int p0), .val (.int ((p0 &&& (2147483647 : Int32)) % (10 : Int32))), .val (.ref (u 8)), .unset, .unset] [(.ref (u 8))])) rfl (by rw [hml]; rfl) (Steps.refl _) (argsL := []) (rest := []) (lenOf own_pd0 rfl) rfl (by show 2 * 0 + _ ≤ _; exact Nat.le_of_eq rfl) (hb hby at_14) (fun _ _ => ⟨rfl, e84, (by decide : 0 + 0 ≤ _), (by decide : 0 + 0 ≤ _)⟩)
                    dsimp only [Pt.U, Pt.locs, Pt.cells, Pt.slots] at X121 l121 y121 z121 st121 hQ121
                    subst l121 y121 z121
                    obtain ⟨rfl, N121q, e121⟩ := hQ121
                    have N121 := Fr.app N84 N121q
                    obtain ⟨vr122, _, ⟨T122, L122, k122, n122⟩, -, X122, ⟨Lc122, hQ122, l122, y122, z122⟩, st122⟩ := Jvm.LawKit.callS X121 hx (y := (⟨"com/example/smazzata/smazzata/briscola/Briscola", "strength", "(Lcom/example/smazzata/smazzata/card/Rank;)I"⟩ : MethodName)) hown (mvT hZ (hw _ (List.mem_of_getElem? (i := 15) rfl))) (mvT hZ (hw _ (List.mem_of_getElem? (i := 16) rfl))) (mvT hZ (hw _ (List.mem_of_getElem? (i := 17) rfl))) (mvT hZ (hw _ (List.mem_of_getElem? (i := 18) rfl))) (by decide) (backOf (W := 0) (rms8 l Z a0 hw [] u  B h0 n0 O ) hZ (hw _ (List.mem_of_getElem? (i := 18) rfl)) (hw _ (List.mem_of_getElem? (i := 17) rfl)) (by decide) (by decide)) (g := (mkF m 59 #[.val (.int p0), .val (.int ((p0 &&& (2147483647 : Int32)) % (10 : Int32))), .val (.ref (u 8)), .val (.int (10 : Int32)), .val (.int (8 : Int32))] [(.ref (u 8))])) rfl (by rw [hml]; rfl) (argsL := [(.ref (u 8))]) (rest := []) (lenOf own_pd2 rfl) rfl (by show 2 * 0 + _ ≤ _; exact Nat.le_of_eq rfl) (hb hby at_59) (fun _ _ => ⟨rfl, e121, (by decide : 0 + 0 ≤ _), (by decide : 0 + 0 ≤ _)⟩)
                    dsimp only [Pt.U, Pt.locs, Pt.cells, Pt.slots] at X122 l122 y122 z122 st122 hQ122
                    subst l122 y122 z122
                    obtain ⟨rfl, N122q, e122⟩ := hQ122
                    have N122 := Fr.app N121 N122q
                    obtain ⟨fs, hr, hrun, hended, hW, hsame⟩ := X122.leave (v := some (.int (1 : Int32))) (fun h => by rw [Bd.returns] at h; cases h)
                    refine ⟨_, _, pre83 _ ?_, hrun, hended, _, _, rfl, ?_, ⟨_, rfl⟩, hW, hsame.mono (by decide) (by decide)⟩
                    · show Steps p.tables e below (s₁.setTop (mkF m 9 #[.val (.int p0), .val (.int ((p0 &&& (2147483647 : Int32)) % (10 : Int32))), .unset, .unset, .unset] [(.int ((p0 &&& (2147483647 : Int32)) % (10 : Int32)))])) _
                      refine st84 _ ?_
                      show Steps p.tables e below (T84.setTop (mkF m 12 #[.val (.int p0), .val (.int ((p0 &&& (2147483647 : Int32)) % (10 : Int32))), .unset, .unset, .unset] [(.ref (u 8))])) _
                      refine XS.astoreN X84.here hx rfl (hb hby at_12) rfl rfl (l' := #[.val (.int p0), .val (.int ((p0 &&& (2147483647 : Int32)) % (10 : Int32))), .val (.ref (u 8)), .unset, .unset]) rfl ?_
                      show Steps p.tables e below (T84.setTop (mkF m 13 #[.val (.int p0), .val (.int ((p0 &&& (2147483647 : Int32)) % (10 : Int32))), .val (.ref (u 8)), .unset, .unset] [])) _
                      refine XS.aloadN X84.here hx rfl (hb hby at_13) rfl rfl ?_
                      show Steps p.tables e below (T84.setTop (mkF m 14 #[.val (.int p0), .val (.int ((p0 &&& (2147483647 : Int32)) % (10 : Int32))), .val (.ref (u 8)), .unset, .unset] [(.ref (u 8))])) _
                      refine st121.trans ?_
                      show Steps p.tables e below (T121.setTop (mkF m 17 #[.val (.int p0), .val (.int ((p0 &&& (2147483647 : Int32)) % (10 : Int32))), .val (.ref (u 8)), .unset, .unset] [(.int (10 : Int32))])) _
                      refine XS.istoreN X121.here hx rfl (hb hby at_17) rfl (l' := #[.val (.int p0), .val (.int ((p0 &&& (2147483647 : Int32)) % (10 : Int32))), .val (.ref (u 8)), .val (.int (10 : Int32)), .unset]) rfl ?_
                      show Steps p.tables e below (T121.setTop (mkF m 18 #[.val (.int p0), .val (.int ((p0 &&& (2147483647 : Int32)) % (10 : Int32))), .val (.ref (u 8)), .val (.int (10 : Int32)), .unset] [])) _
                      refine XS.iloadN X121.here hx rfl (hb hby at_18) rfl ?_
                      show Steps p.tables e below (T121.setTop (mkF m 19 #[.val (.int p0), .val (.int ((p0 &&& (2147483647 : Int32)) % (10 : Int32))), .val (.ref (u 8)), .val (.int (10 : Int32)), .unset] [(.int (10 : Int32))])) _
                      refine XS.iconst X121.here hx rfl (hb hby at_19) ?_
                      show Steps p.tables e below (T121.setTop (mkF m 20 #[.val (.int p0), .val (.int ((p0 &&& (2147483647 : Int32)) % (10 : Int32))), .val (.ref (u 8)), .val (.int (10 : Int32)), .unset] [(.int (1 : Int32)), (.int (10 : Int32))])) _
                      refine XS.icmpYes X121.here hx rfl (pc0 := 20) (pc' := 30) rfl (hb hby at_20) rfl (feq (by decide : ¬ ((10 : Int32) = (1 : Int32)))).2 (by decide) (by decide) ?_
                      show Steps p.tables e below (T121.setTop (mkF m 30 #[.val (.int p0), .val (.int ((p0 &&& (2147483647 : Int32)) % (10 : Int32))), .val (.ref (u 8)), .val (.int (10 : Int32)), .unset] [])) _
                      refine XS.iloadN X121.here hx rfl (hb hby at_30) rfl ?_
                      show Steps p.tables e below (T121.setTop (mkF m 31 #[.val (.int p0), .val (.int ((p0 &&& (2147483647 : Int32)) % (10 : Int32))), .val (.ref (u 8)), .val (.int (10 : Int32)), .unset] [(.int (10 : Int32))])) _
                      refine XS.iconst X121.here hx rfl (hb hby at_31) ?_
                      show Steps p.tables e below (T121.setTop (mkF m 32 #[.val (.int p0), .val (.int ((p0 &&& (2147483647 : Int32)) % (10 : Int32))), .val (.ref (u 8)), .val (.int (10 : Int32)), .unset] [(.int (3 : Int32)), (.int (10 : Int32))])) _
                      refine XS.icmpYes X121.here hx rfl (pc0 := 32) (pc' := 42) rfl (hb hby at_32) rfl (feq (by decide : ¬ ((10 : Int32) = (3 : Int32)))).2 (by decide) (by decide) ?_
                      show Steps p.tables e below (T121.setTop (mkF m 42 #[.val (.int p0), .val (.int ((p0 &&& (2147483647 : Int32)) % (10 : Int32))), .val (.ref (u 8)), .val (.int (10 : Int32)), .unset] [])) _
                      refine XS.iloadN X121.here hx rfl (hb hby at_42) rfl ?_
                      show Steps p.tables e below (T121.setTop (mkF m 43 #[.val (.int p0), .val (.int ((p0 &&& (2147483647 : Int32)) % (10 : Int32))), .val (.ref (u 8)), .val (.int (10 : Int32)), .unset] [(.int (10 : Int32))])) _
                      refine XS.iconst X121.here hx rfl (hb hby at_43) ?_
                      show Steps p.tables e below (T121.setTop (mkF m 44 #[.val (.int p0), .val (.int ((p0 &&& (2147483647 : Int32)) % (10 : Int32))), .val (.ref (u 8)), .val (.int (10 : Int32)), .unset] [(.int (2 : Int32)), (.int (10 : Int32))])) _
                      refine XS.icmpYes X121.here hx rfl (pc0 := 44) (pc' := 53) rfl (hb hby at_44) rfl (feq (by decide : ¬ ((10 : Int32) = (2 : Int32)))).2 (by decide) (by decide) ?_
                      show Steps p.tables e below (T121.setTop (mkF m 53 #[.val (.int p0), .val (.int ((p0 &&& (2147483647 : Int32)) % (10 : Int32))), .val (.ref (u 8)), .val (.int (10 : Int32)), .unset] [])) _
                      refine XS.iloadN X121.here hx rfl (hb hby at_53) rfl ?_
                      show Steps p.tables e below (T121.setTop (mkF m 54 #[.val (.int p0), .val (.int ((p0 &&& (2147483647 : Int32)) % (10 : Int32))), .val (.ref (u 8)), .val (.int (10 : Int32)), .unset] [(.int (10 : Int32))])) _
                      refine XS.iconst X121.here hx rfl (hb hby at_54) ?_
                      show Steps p.tables e below (T121.setTop (mkF m 55 #[.val (.int p0), .val (.int ((p0 &&& (2147483647 : Int32)) % (10 : Int32))), .val (.ref (u 8)), .val (.int (10 : Int32)), .unset] [(.int (2 : Int32)), (.int (10 : Int32))])) _
                      refine XS.isub X121.here hx rfl (hb hby at_55) rfl ?_
                      show Steps p.tables e below (T121.setTop (mkF m 56 #[.val (.int p0), .val (.int ((p0 &&& (2147483647 : Int32)) % (10 : Int32))), .val (.ref (u 8)), .val (.int (10 : Int32)), .unset] [(.int (8 : Int32))])) _
                      refine XS.istore X121.here hx rfl (hb hby at_56) rfl (l' := #[.val (.int p0), .val (.int ((p0 &&& (2147483647 : Int32)) % (10 : Int32))), .val (.ref (u 8)), .val (.int (10 : Int32)), .val (.int (8 : Int32))]) rfl ?_
                      show Steps p.tables e below (T121.setTop (mkF m 58 #[.val (.int p0), .val (.int ((p0 &&& (2147483647 : Int32)) % (10 : Int32))), .val (.ref (u 8)), .val (.int (10 : Int32)), .val (.int (8 : Int32))] [])) _
                      refine XS.aloadN X121.here hx rfl (hb hby at_58) rfl rfl ?_
                      show Steps p.tables e below (T121.setTop (mkF m 59 #[.val (.int p0), .val (.int ((p0 &&& (2147483647 : Int32)) % (10 : Int32))), .val (.ref (u 8)), .val (.int (10 : Int32)), .val (.int (8 : Int32))] [(.ref (u 8))])) _
                      refine st122 _ ?_
                      show Steps p.tables e below (T122.setTop (mkF m 62 #[.val (.int p0), .val (.int ((p0 &&& (2147483647 : Int32)) % (10 : Int32))), .val (.ref (u 8)), .val (.int (10 : Int32)), .val (.int (8 : Int32))] [(.int (8 : Int32))])) _
                      refine XS.iload X122.here hx rfl (hb hby at_62) rfl ?_
                      show Steps p.tables e below (T122.setTop (mkF m 64 #[.val (.int p0), .val (.int ((p0 &&& (2147483647 : Int32)) % (10 : Int32))), .val (.ref (u 8)), .val (.int (10 : Int32)), .val (.int (8 : Int32))] [(.int (8 : Int32)), (.int (8 : Int32))])) _
                      refine XS.icmpNo X122.here hx rfl (hb hby at_64) rfl (teq (by decide : (8 : Int32) = (8 : Int32))).2 ?_
                      show Steps p.tables e below (T122.setTop (mkF m 67 #[.val (.int p0), .val (.int ((p0 &&& (2147483647 : Int32)) % (10 : Int32))), .val (.ref (u 8)), .val (.int (10 : Int32)), .val (.int (8 : Int32))] [])) _
                      refine XS.iconst X122.here hx rfl (hb hby at_67) ?_
                      show Steps p.tables e below (T122.setTop (mkF m 68 #[.val (.int p0), .val (.int ((p0 &&& (2147483647 : Int32)) % (10 : Int32))), .val (.ref (u 8)), .val (.int (10 : Int32)), .val (.int (8 : Int32))] [(.int (1 : Int32))])) _
                      refine XS.goto X122.here hx rfl (pc0 := 68) (pc' := 72) rfl (hb hby at_68) (by decide) (by decide) ?_
                      show Steps p.tables e below (T122.setTop (mkF m 72 #[.val (.int p0), .val (.int ((p0 &&& (2147483647 : Int32)) % (10 : Int32))), .val (.ref (u 8)), .val (.int (10 : Int32)), .val (.int (8 : Int32))] [(.int (1 : Int32))])) _
                      exact retN X122 hx (t := .boolean) Bd.returns (by simp) (hb hby at_72) hr
                    · show own_Q0 Z u p0 h0 n0 _ T122.heap _
                      rw [e122]
                      exact ⟨rfl, N122, trivial⟩
set_option maxRecDepth 65536 in
set_option maxHeartbeats 40000000 in
theorem comes_1 {Post : Tables → Env → Array Value → State → Outcome → State → Prop} (hpost : ∀ tb e args s v u, (limb_1_1.after args s (.returned v) u = true ∧ limb_1_2.after args s (.returned v) u = true ∧ True) → FrameEnd s (.returned v) u (Jvm.fieldLocs frame_1_writes args s ++ Jvm.arrayLocs frame_1_arrays args s ++ Jvm.staticLocs frame_1_statics s) 0 0 → Post tb e args s (.returned v) u) :
    ArmFor flags0 classFile x code maxLocals ret World_1 tables_1 room_1 Calls_1 rest_1 Pre_1 Post := by
  intro l hfl _ _ p e ha hc hk s m args below hf hA hF happ hP
  obtain ⟨hcalls, hrest, hpre⟩ := hP
  obtain ⟨-, -, -, hnamed, -, -, -, hat⟩ := (Spec.applies_iff hf).mp happ
  obtain ⟨hg, hn⟩ := and_e (Cond.before_iff.mp (show (Jvm.Cond.and given_1 narrow_1).before args s = true from hpre))
  obtain ⟨g0, gr0⟩ := and_e hg
  have g1 := gr0
  obtain ⟨w0, rfl⟩ : ∃ w0 : Value, args = #[w0] := by
    have hs : args.size = 1 := by simpa [Cond.value, given_1] using g0
    obtain ⟨L⟩ := args
    match L, hs with
    | [w0], _ => exact ⟨w0, rfl⟩
  have hw := fun d (hd : d ∈ tables_1) => atoms_spec (ws := Jvm.Cond.code x code maxLocals ret :: tables_1) hat d (List.mem_cons_of_mem _ hd)
  have hfit : Fit s := fun {y c} hc i hi => by
    obtain ⟨ha, rfl⟩ := Array.getElem?_eq_some_iff.mp hc
    have q := List.all_eq_true.mp ((Array.all_eq_true_iff_forall_mem.mp hF) _ (Array.getElem_mem ha)) i (List.mem_range.mpr hi)
    simpa [Array.getElem?_eq_getElem hi] using q
  obtain ⟨i0, ei0⟩ := is_v g1
  obtain rfl : w0 = (.int i0) := Option.some.inj ei0
  obtain ⟨b0, hn0⟩ := and_e hn
  obtain ⟨b1, hn1⟩ := and_e hn0
  obtain ⟨b2, hn2⟩ := and_e hn1
  obtain ⟨b3, hn3⟩ := and_e hn2
  obtain ⟨b4, hn4⟩ := and_e hn3
  obtain ⟨b5, hn5⟩ := and_e hn4
  obtain ⟨b6, hn6⟩ := and_e hn5
  obtain ⟨b7, hn7⟩ := and_e hn6
  obtain ⟨b8, hn8⟩ := and_e hn7
  obtain ⟨b9, hn9⟩ := and_e hn8
  obtain ⟨b10, hn10⟩ := and_e hn9
  obtain ⟨b11, hn11⟩ := and_e hn10
  obtain ⟨b12, hn12⟩ := and_e hn11
  obtain ⟨b13, hn13⟩ := and_e hn12
  obtain ⟨b14, hn14⟩ := and_e hn13
  obtain ⟨b15, hn15⟩ := and_e hn14
  obtain ⟨b16, hn16⟩ := and_e hn15
  obtain ⟨b17, hn17⟩ := and_e hn16
  obtain ⟨b18, hn18⟩ := and_e hn17
  obtain ⟨b19, hn19⟩ := and_e hn18
  obtain ⟨b20, hn20⟩ := and_e hn19
  obtain ⟨b21, hn21⟩ := and_e hn20
  obtain ⟨b22, hn22⟩ := and_e hn21
  obtain ⟨b23, hn23⟩ := and_e hn22
  obtain ⟨b24, hn24⟩ := and_e hn23
  obtain ⟨b25, hn25⟩ := and_e hn24
  obtain ⟨b26, hn26⟩ := and_e hn25
  obtain ⟨b27, hn27⟩ := and_e hn26
  obtain ⟨b28, hn28⟩ := and_e hn27
  obtain ⟨b29, hn29⟩ := and_e hn28
  obtain ⟨b30, hn30⟩ := and_e hn29
  obtain ⟨b31, hn31⟩ := and_e hn30
  obtain ⟨b32, hn32⟩ := and_e hn31
  obtain ⟨b33, hn33⟩ := and_e hn32
  obtain ⟨b34, hn34⟩ := and_e hn33
  obtain ⟨b35, hn35⟩ := and_e hn34
  obtain ⟨b36, hn36⟩ := and_e hn35
  obtain ⟨b37, hn37⟩ := and_e hn36
  obtain ⟨b38, hn38⟩ := and_e hn37
  obtain ⟨b39, hn39⟩ := and_e hn38
  obtain ⟨b40, hn40⟩ := and_e hn39
  have b41 := hn40
  obtain ⟨x0, v0⟩ := exa_v b0
  obtain ⟨x1, v1⟩ := arr_v b2
  obtain ⟨x2, v2⟩ := exa_v b5
  obtain ⟨x3, v3⟩ := exa_v b8
  obtain ⟨x4, v4⟩ := exa_v b11
  obtain ⟨x5, v5⟩ := exa_v b14
  obtain ⟨x6, v6⟩ := exa_v b17
  obtain ⟨x7, v7⟩ := exa_v b20
  obtain ⟨x8, v8⟩ := exa_v b23
  obtain ⟨x9, v9⟩ := exa_v b26
  obtain ⟨x10, v10⟩ := exa_v b29
  obtain ⟨c1, A1⟩ := Arr.start v1 b2
  obtain ⟨l1, m1⟩ := own_len v1 A1.1 b3
  have B : own_Base s (fun i => ([x0, x1, x2, x3, x4, x5, x6, x7, x8, x9, x10] : List Addr).getD i 0) := ⟨Sta.start v0 (Or.inr ⟨(hw _ (List.mem_of_getElem? (i := 6) rfl)), (hw _ (List.mem_of_getElem? (i := 7) rfl))⟩),
    Exa.start v0 b0,
    Sta.start v1 (Or.inr ⟨(hw _ (List.mem_of_getElem? (i := 20) rfl)), (hw _ (List.mem_of_getElem? (i := 21) rfl))⟩),
    Sta.start v2 (Or.inr ⟨(hw _ (List.mem_of_getElem? (i := 6) rfl)), (hw _ (List.mem_of_getElem? (i := 32) rfl))⟩),
    Exa.start v2 b5,
    Sta.start v3 (Or.inr ⟨(hw _ (List.mem_of_getElem? (i := 6) rfl)), (hw _ (List.mem_of_getElem? (i := 34) rfl))⟩),
    Exa.start v3 b8,
    Sta.start v4 (Or.inr ⟨(hw _ (List.mem_of_getElem? (i := 6) rfl)), (hw _ (List.mem_of_getElem? (i := 36) rfl))⟩),
    Exa.start v4 b11,
    Sta.start v5 (Or.inr ⟨(hw _ (List.mem_of_getElem? (i := 6) rfl)), (hw _ (List.mem_of_getElem? (i := 38) rfl))⟩),
    Exa.start v5 b14,
    Sta.start v6 (Or.inr ⟨(hw _ (List.mem_of_getElem? (i := 6) rfl)), (hw _ (List.mem_of_getElem? (i := 40) rfl))⟩),
    Exa.start v6 b17,
    Sta.start v7 (Or.inr ⟨(hw _ (List.mem_of_getElem? (i := 6) rfl)), (hw _ (List.mem_of_getElem? (i := 42) rfl))⟩),
    Exa.start v7 b20,
    Sta.start v8 (Or.inr ⟨(hw _ (List.mem_of_getElem? (i := 6) rfl)), (hw _ (List.mem_of_getElem? (i := 44) rfl))⟩),
    Exa.start v8 b23,
    Sta.start v9 (Or.inr ⟨(hw _ (List.mem_of_getElem? (i := 6) rfl)), (hw _ (List.mem_of_getElem? (i := 46) rfl))⟩),
    Exa.start v9 b26,
    Sta.start v10 (Or.inr ⟨(hw _ (List.mem_of_getElem? (i := 6) rfl)), (hw _ (List.mem_of_getElem? (i := 48) rfl))⟩),
    Exa.start v10 b29,
    own_fld v0 b1 rfl,
    own_fld v0 b4 rfl,
    ⟨_, Arv.start hfit A1 l1 m1 (by decide) (by decide) ⟨own_elem v1 A1.1 b32 rfl, own_elem v1 A1.1 b33 rfl, own_elem v1 A1.1 b34 rfl, own_elem v1 A1.1 b35 rfl, own_elem v1 A1.1 b36 rfl, own_elem v1 A1.1 b37 rfl, own_elem v1 A1.1 b38 rfl, own_elem v1 A1.1 b39 rfl, own_elem v1 A1.1 b40 rfl, own_elem v1 A1.1 b41 rfl, trivial⟩⟩,
    own_fld v2 b6 rfl,
    own_fld v2 b7 rfl,
    own_fld v3 b9 rfl,
    own_fld v3 b10 rfl,
    own_fld v4 b12 rfl,
    own_fld v4 b13 rfl,
    own_fld v5 b15 rfl,
    own_fld v5 b16 rfl,
    own_fld v6 b18 rfl,
    own_fld v6 b19 rfl,
    own_fld v7 b21 rfl,
    own_fld v7 b22 rfl,
    own_fld v8 b24 rfl,
    own_fld v8 b25 rfl,
    own_fld v9 b27 rfl,
    own_fld v9 b28 rfl,
    own_fld v10 b30 rfl,
    own_fld v10 b31 rfl⟩
  obtain ⟨n, o, h1, h2, h3, _, L, rfl, ⟨rfl, N, -⟩, hq⟩ := rm0 l s _ hw tables_1 (fun i => ([x0, x1, x2, x3, x4, x5, x6, x7, x8, x9, x10] : List Addr).getD i 0) i0 B s.heap s.heap.size (Old.start s)  p e ha hc hk s m _ below hf ((Spec.applies_iff_loose hf).mp happ).1 ⟨rfl, State.Warmed39.refl s, rfl⟩ trivial
  refine ⟨n, _, h1, h2, h3, hpost _ _ _ _ _ _ ⟨Cond.after_iff.mpr rfl, Cond.after_iff.mpr (eq_i res_at (Term.int_eval (1)) rfl), trivial⟩ ⟨hq.1, hq.2.1, (hq.2.2.sift fun y hy => Or.inr (N y hy)).mono (by decide) (by decide)⟩⟩
theorem main_1_1 : Claimed_1_1 := comes_1 fun _ _ _ _ _ _ h hF => ⟨h.1, hF⟩
theorem main_1_2 : Claimed_1_2 := comes_1 fun _ _ _ _ _ _ h hF => ⟨h.2.1, hF⟩
end Jvm.Pilot.@@N@@
namespace Jvm.Pilot.@@N@@
open Jvm Jvm.ClassFile Sem Op Lib Jvm.Free Jvm.Stand Jvm.Pilot.@@N@@.Jvm.D
/-! MADE BY PROGRAM (witnessworld.py) out of the Statement's table words and the real class files: 15 classes; the members and pool entries that the words name. The judged class is class 1, her method 1. -/
namespace start1
open Jvm.ClassFile
def u (s : String) : CpInfo := .utf8 (stringToUtf16 s)
/-- a pool by its gaps: so many unusable entries, then the entry; so many at the end -/
def gap : Nat → List CpInfo → List CpInfo
  | 0, r => r
  | n + 1, r => .unusable :: gap n r
def poolList (es : List (Nat × CpInfo)) (last : Nat) : List CpInfo := es.foldr (fun e r => gap e.1 (e.2 :: r)) (gap last [])
def pool (es : List (Nat × CpInfo)) (last : Nat) : Array CpInfo := ⟨poolList es last⟩
def fileOf (pool : Array CpInfo) (this : Nat) (attrs : Array Attribute := #[]) (ms : Array MethodInfo := #[]) (fl : Nat := 33) (sup : Nat := 0) (ifs : Array Nat := #[]) (fds : Array FieldInfo := #[]) : ClassFile where
  minorVersion := 0
  majorVersion := 65
  constantPool := pool
  accessFlags := fl
  thisClass := this
  superClass := sup
  interfaces := ifs
  fields := fds
  methods := ms
  attributes := attrs
def plain (name : String) (sup : Option ClassId) : Class where
  name := name
  kind := .ordinary
  loader := none
  accessFlags := 33
  super := sup
  interfaces := #[]
  cf := none
  fields := #[]
  methods := #[]
  instanceTypes := #[]
  staticTypes := #[]
  resolved := #[]
  callSites := []
  init := .initialized
  statics := none
  mirror := none

def pool0 : Array CpInfo := pool [(5, u "<init>"), (0, u "()V"), (1, .class_ 10), (1, u "java/lang/Object")] 113

def k0m0 : Method := { name := "<init>", desc := "()V", sig := { parameters := [], returnType := none }, accessFlags := 1, code := none }
/-- java/lang/Object -/
def k0 : Class := { plain "java/lang/Object" none with
  accessFlags := 33
  interfaces := #[]
  cf := some (fileOf pool0 8 #[] #[{ accessFlags := 1, nameIndex := 5, descriptorIndex := 6, attributes := #[] }] 33 0 #[] #[])
  fields := #[]
  methods := #[k0m0]
  instanceTypes := #[]
  staticTypes := #[]
  resolved := Array.replicate 124 none
  statics := none }

def pool1 : Array CpInfo := pool [(2, .class_ 4), (1, u "java/lang/Object"), (0, u "<init>"), (0, u "()V"), (0, .integer 2147483647), (0, .methodref 9 10), (0, .class_ 11), (0, .nameAndType 12 13), (0, u "com/example/smazzata/smazzata/briscola/BriscolaStrengthPinLaw"), (0, u "pick"), (0, u "(I)Lcom/example/smazzata/smazzata/card/Rank;"), (0, .methodref 15 16), (0, .class_ 17), (0, .nameAndType 18 19), (0, u "com/example/smazzata/smazzata/card/Rank"), (0, u "captureValue"), (0, u "()I"), (0, .methodref 21 22), (0, .class_ 23), (0, .nameAndType 24 25), (0, u "com/example/smazzata/smazzata/briscola/Briscola"), (0, u "strength"), (0, u "(Lcom/example/smazzata/smazzata/card/Rank;)I"), (0, .fieldref 15 27), (0, .nameAndType 28 29), (0, u "ACE"), (0, u "Lcom/example/smazzata/smazzata/card/Rank;"), (0, .fieldref 15 31), (0, .nameAndType 32 29), (0, u "TWO"), (0, .fieldref 15 34), (0, .nameAndType 35 29), (0, u "THREE"), (0, .fieldref 15 37), (0, .nameAndType 38 29), (0, u "FOUR"), (0, .fieldref 15 40), (0, .nameAndType 41 29), (0, u "FIVE"), (0, .fieldref 15 43), (0, .nameAndType 44 29), (0, u "SIX"), (0, .fieldref 15 46), (0, .nameAndType 47 29), (0, u "SEVEN"), (0, .fieldref 15 49), (0, .nameAndType 50 29), (0, u "JACK"), (0, .fieldref 15 52), (0, .nameAndType 53 29), (0, u "QUEEN"), (0, .fieldref 15 55), (0, .nameAndType 56 29), (0, u "KING"), (2, u "law"), (0, u "(I)Z")] 3

def k1m0 : Method := { name := "<init>", desc := "()V", sig := { parameters := [], returnType := none }, accessFlags := 1, code := none }
def k1c1 : Code := { maxStack := 2, maxLocals := 5, code := code, exceptionTable := #[], attributes := #[] }
def k1m1 : Method := { name := "law", desc := "(I)Z", sig := { parameters := [.int], returnType := some .boolean }, accessFlags := 9, code := some k1c1 }
def k1c2 : Code := { maxStack := 2, maxLocals := 1, code := method_3_code, exceptionTable := #[], attributes := #[] }
def k1m2 : Method := { name := "pick", desc := "(I)Lcom/example/smazzata/smazzata/card/Rank;", sig := { parameters := [.int], returnType := some (.object "com/example/smazzata/smazzata/card/Rank") }, accessFlags := 10, code := some k1c2 }
/-- com/example/smazzata/smazzata/briscola/BriscolaStrengthPinLaw -/
def k1 : Class := { plain "com/example/smazzata/smazzata/briscola/BriscolaStrengthPinLaw" (some 0) with
  accessFlags := 49
  interfaces := #[]
  cf := some (fileOf pool1 9 #[] #[{ accessFlags := 1, nameIndex := 5, descriptorIndex := 6, attributes := #[] }, { accessFlags := 9, nameIndex := 59, descriptorIndex := 60, attributes := #[] }, { accessFlags := 10, nameIndex := 12, descriptorIndex := 13, attributes := #[] }] 49 2 #[] #[])
  fields := #[]
  methods := #[k1m0, k1m1, k1m2]
  instanceTypes := #[]
  staticTypes := #[]
  resolved := Array.replicate 64 none
  statics := none }

def pool2 : Array CpInfo := pool [(1, .class_ 2), (0, u "java/lang/constant/Constable"), (0, .class_ 4), (0, u "java/lang/Object")] 6

/-- java/lang/constant/Constable -/
def k2 : Class := { plain "java/lang/constant/Constable" (some 0) with
  accessFlags := 1537
  interfaces := #[]
  cf := some (fileOf pool2 1 #[] #[] 1537 3 #[] #[])
  fields := #[]
  methods := #[]
  instanceTypes := #[]
  staticTypes := #[]
  resolved := Array.replicate 11 none
  statics := none }

def pool3 : Array CpInfo := pool [(1, .class_ 2), (0, u "java/lang/Comparable"), (0, .class_ 4), (0, u "java/lang/Object")] 7

/-- java/lang/Comparable -/
def k3 : Class := { plain "java/lang/Comparable" (some 0) with
  accessFlags := 1537
  interfaces := #[]
  cf := some (fileOf pool3 1 #[] #[] 1537 3 #[] #[])
  fields := #[]
  methods := #[]
  instanceTypes := #[]
  staticTypes := #[]
  resolved := Array.replicate 12 none
  statics := none }

def pool4 : Array CpInfo := pool [(1, .class_ 2), (0, u "java/io/Serializable"), (0, .class_ 4), (0, u "java/lang/Object")] 2

/-- java/io/Serializable -/
def k4 : Class := { plain "java/io/Serializable" (some 0) with
  accessFlags := 1537
  interfaces := #[]
  cf := some (fileOf pool4 1 #[] #[] 1537 3 #[] #[])
  fields := #[]
  methods := #[]
  instanceTypes := #[]
  staticTypes := #[]
  resolved := Array.replicate 7 none
  statics := none }

def pool5 : Array CpInfo := pool [(2, .class_ 4), (1, u "java/lang/Enum"), (0, u "name"), (0, u "Ljava/lang/String;"), (0, .fieldref 2 8), (0, .nameAndType 9 10), (0, u "ordinal"), (0, u "I"), (1, .class_ 14), (1, u "java/lang/Object"), (4, u "hash"), (86, .class_ 108), (1, u "java/lang/Enum$EnumDesc"), (2, .class_ 112), (0, u "java/lang/constant/Constable"), (0, .class_ 114), (0, u "java/lang/Comparable"), (0, .class_ 116), (0, u "java/io/Serializable"), (9, u "()I")] 77

def k5c0 : Code := { maxStack := 1, maxLocals := 1, code := jdk_37_method_2_code, exceptionTable := #[], attributes := #[] }
def k5m0 : Method := { name := "ordinal", desc := "()I", sig := { parameters := [], returnType := some .int }, accessFlags := 17, code := some k5c0 }
/-- java/lang/Enum -/
def k5 : Class := { plain "java/lang/Enum" (some 0) with
  accessFlags := 1057
  interfaces := #[2, 3, 4]
  cf := some (fileOf pool5 2 #[.nestMembers #[106]] #[{ accessFlags := 17, nameIndex := 9, descriptorIndex := 126, attributes := #[] }] 1057 12 #[111, 113, 115] #[{ accessFlags := 18, nameIndex := 5, descriptorIndex := 6, attributes := #[] }, { accessFlags := 18, nameIndex := 9, descriptorIndex := 10, attributes := #[] }, { accessFlags := 2, nameIndex := 19, descriptorIndex := 10, attributes := #[] }])
  fields := #[{ name := "name", type := (.object "java/lang/String"), accessFlags := 18, slot := 0, constantValue := 0 }, { name := "ordinal", type := .int, accessFlags := 18, slot := 1, constantValue := 0 }, { name := "hash", type := .int, accessFlags := 2, slot := 2, constantValue := 0 }]
  methods := #[k5m0]
  instanceTypes := #[(.object "java/lang/String"), .int, .int]
  staticTypes := #[]
  resolved := Array.replicate 204 none
  statics := none }

def pool6 : Array CpInfo := pool [(1, .class_ 2), (0, u "com/example/smazzata/smazzata/card/Rank"), (2, u "ACE"), (0, u "Lcom/example/smazzata/smazzata/card/Rank;"), (2, u "TWO"), (2, u "THREE"), (2, u "FOUR"), (2, u "FIVE"), (2, u "SIX"), (2, u "SEVEN"), (2, u "JACK"), (2, u "QUEEN"), (2, u "KING"), (2, u "$VALUES"), (0, u "[Lcom/example/smazzata/smazzata/card/Rank;"), (6, .class_ 46), (1, u "java/lang/Enum"), (8, u "code"), (0, u "C"), (0, .fieldref 1 58), (0, .nameAndType 59 60), (0, u "captureValue"), (0, u "I"), (27, u "()I")] 8

def k6c0 : Code := { maxStack := 1, maxLocals := 1, code := prog_13_method_5_code, exceptionTable := #[], attributes := #[] }
def k6m0 : Method := { name := "captureValue", desc := "()I", sig := { parameters := [], returnType := some .int }, accessFlags := 1, code := some k6c0 }
/-- com/example/smazzata/smazzata/card/Rank -/
def k6 : Class := { plain "com/example/smazzata/smazzata/card/Rank" (some 5) with
  accessFlags := 16433
  interfaces := #[]
  cf := some (fileOf pool6 1 #[] #[{ accessFlags := 1, nameIndex := 59, descriptorIndex := 88, attributes := #[] }] 16433 44 #[] #[{ accessFlags := 16409, nameIndex := 5, descriptorIndex := 6, attributes := #[] }, { accessFlags := 16409, nameIndex := 9, descriptorIndex := 6, attributes := #[] }, { accessFlags := 16409, nameIndex := 12, descriptorIndex := 6, attributes := #[] }, { accessFlags := 16409, nameIndex := 15, descriptorIndex := 6, attributes := #[] }, { accessFlags := 16409, nameIndex := 18, descriptorIndex := 6, attributes := #[] }, { accessFlags := 16409, nameIndex := 21, descriptorIndex := 6, attributes := #[] }, { accessFlags := 16409, nameIndex := 24, descriptorIndex := 6, attributes := #[] }, { accessFlags := 16409, nameIndex := 27, descriptorIndex := 6, attributes := #[] }, { accessFlags := 16409, nameIndex := 30, descriptorIndex := 6, attributes := #[] }, { accessFlags := 16409, nameIndex := 33, descriptorIndex := 6, attributes := #[] }, { accessFlags := 18, nameIndex := 55, descriptorIndex := 56, attributes := #[] }, { accessFlags := 18, nameIndex := 59, descriptorIndex := 60, attributes := #[] }, { accessFlags := 4122, nameIndex := 36, descriptorIndex := 37, attributes := #[] }])
  fields := #[{ name := "ACE", type := (.object "com/example/smazzata/smazzata/card/Rank"), accessFlags := 16409, slot := 0, constantValue := 0 }, { name := "TWO", type := (.object "com/example/smazzata/smazzata/card/Rank"), accessFlags := 16409, slot := 1, constantValue := 0 }, { name := "THREE", type := (.object "com/example/smazzata/smazzata/card/Rank"), accessFlags := 16409, slot := 2, constantValue := 0 }, { name := "FOUR", type := (.object "com/example/smazzata/smazzata/card/Rank"), accessFlags := 16409, slot := 3, constantValue := 0 }, { name := "FIVE", type := (.object "com/example/smazzata/smazzata/card/Rank"), accessFlags := 16409, slot := 4, constantValue := 0 }, { name := "SIX", type := (.object "com/example/smazzata/smazzata/card/Rank"), accessFlags := 16409, slot := 5, constantValue := 0 }, { name := "SEVEN", type := (.object "com/example/smazzata/smazzata/card/Rank"), accessFlags := 16409, slot := 6, constantValue := 0 }, { name := "JACK", type := (.object "com/example/smazzata/smazzata/card/Rank"), accessFlags := 16409, slot := 7, constantValue := 0 }, { name := "QUEEN", type := (.object "com/example/smazzata/smazzata/card/Rank"), accessFlags := 16409, slot := 8, constantValue := 0 }, { name := "KING", type := (.object "com/example/smazzata/smazzata/card/Rank"), accessFlags := 16409, slot := 9, constantValue := 0 }, { name := "code", type := .char, accessFlags := 18, slot := 3, constantValue := 0 }, { name := "captureValue", type := .int, accessFlags := 18, slot := 4, constantValue := 0 }, { name := "$VALUES", type := (.array (.object "com/example/smazzata/smazzata/card/Rank")), accessFlags := 4122, slot := 10, constantValue := 0 }]
  methods := #[k6m0]
  instanceTypes := #[(.object "java/lang/String"), .int, .int, .char, .int]
  staticTypes := #[(.object "com/example/smazzata/smazzata/card/Rank"), (.object "com/example/smazzata/smazzata/card/Rank"), (.object "com/example/smazzata/smazzata/card/Rank"), (.object "com/example/smazzata/smazzata/card/Rank"), (.object "com/example/smazzata/smazzata/card/Rank"), (.object "com/example/smazzata/smazzata/card/Rank"), (.object "com/example/smazzata/smazzata/card/Rank"), (.object "com/example/smazzata/smazzata/card/Rank"), (.object "com/example/smazzata/smazzata/card/Rank"), (.object "com/example/smazzata/smazzata/card/Rank"), (.array (.object "com/example/smazzata/smazzata/card/Rank"))]
  resolved := Array.replicate 97 none
  statics := some 0 }

def pool7 : Array CpInfo := pool [(1, .class_ 2), (0, u "com/example/smazzata/smazzata/game/Game"), (0, .class_ 4), (0, u "java/lang/Object")] 15

/-- com/example/smazzata/smazzata/game/Game -/
def k7 : Class := { plain "com/example/smazzata/smazzata/game/Game" (some 0) with
  accessFlags := 1537
  interfaces := #[]
  cf := some (fileOf pool7 1 #[] #[] 1537 3 #[] #[])
  fields := #[]
  methods := #[]
  instanceTypes := #[]
  staticTypes := #[]
  resolved := Array.replicate 20 none
  statics := none }

def pool8 : Array CpInfo := pool [(2, .class_ 4), (1, u "java/lang/Object"), (0, u "<init>"), (0, u "()V"), (23, .class_ 32), (1, u "com/example/smazzata/smazzata/briscola/Briscola"), (54, .fieldref 88 89), (0, .class_ 90), (0, .nameAndType 91 92), (0, u "com/example/smazzata/smazzata/briscola/Briscola$1"), (0, u "$SwitchMap$com$example$smazzata$smazzata$card$Rank"), (0, u "[I"), (0, .methodref 94 95), (0, .class_ 96), (0, .nameAndType 97 98), (0, u "com/example/smazzata/smazzata/card/Rank"), (0, u "ordinal"), (0, u "()I"), (5, .class_ 105), (0, u "com/example/smazzata/smazzata/game/Game"), (0, u "HAND_SIZE"), (0, u "I"), (2, u "WINNING_POINTS"), (11, u "strength"), (0, u "(Lcom/example/smazzata/smazzata/card/Rank;)I")] 19

def k8m0 : Method := { name := "<init>", desc := "()V", sig := { parameters := [], returnType := none }, accessFlags := 1, code := none }
def k8c1 : Code := { maxStack := 4, maxLocals := 1, code := prog_2_method_5_code, exceptionTable := #[], attributes := #[] }
def k8m1 : Method := { name := "strength", desc := "(Lcom/example/smazzata/smazzata/card/Rank;)I", sig := { parameters := [(.object "com/example/smazzata/smazzata/card/Rank")], returnType := some .int }, accessFlags := 8, code := some k8c1 }
/-- com/example/smazzata/smazzata/briscola/Briscola -/
def k8 : Class := { plain "com/example/smazzata/smazzata/briscola/Briscola" (some 0) with
  accessFlags := 49
  interfaces := #[7]
  cf := some (fileOf pool8 30 #[.nestMembers #[88]] #[{ accessFlags := 1, nameIndex := 5, descriptorIndex := 6, attributes := #[] }, { accessFlags := 8, nameIndex := 122, descriptorIndex := 123, attributes := #[] }] 49 2 #[104] #[{ accessFlags := 24, nameIndex := 106, descriptorIndex := 107, attributes := #[] }, { accessFlags := 24, nameIndex := 110, descriptorIndex := 107, attributes := #[] }])
  fields := #[{ name := "HAND_SIZE", type := .int, accessFlags := 24, slot := 0, constantValue := 0 }, { name := "WINNING_POINTS", type := .int, accessFlags := 24, slot := 1, constantValue := 0 }]
  methods := #[k8m0, k8m1]
  instanceTypes := #[]
  staticTypes := #[.int, .int]
  resolved := Array.replicate 143 none
  statics := none }

def pool9 : Array CpInfo := pool [(8, .class_ 10), (1, u "com/example/smazzata/smazzata/briscola/Briscola$1"), (0, u "$SwitchMap$com$example$smazzata$smazzata$card$Rank"), (0, u "[I"), (37, .class_ 51), (0, u "java/lang/Object"), (8, .class_ 61), (0, u "com/example/smazzata/smazzata/briscola/Briscola")] 2

/-- com/example/smazzata/smazzata/briscola/Briscola$1 -/
def k9 : Class := { plain "com/example/smazzata/smazzata/briscola/Briscola$1" (some 0) with
  accessFlags := 4128
  interfaces := #[]
  cf := some (fileOf pool9 8 #[.nestHost 60] #[] 4128 50 #[] #[{ accessFlags := 4120, nameIndex := 11, descriptorIndex := 12, attributes := #[] }])
  fields := #[{ name := "$SwitchMap$com$example$smazzata$smazzata$card$Rank", type := (.array .int), accessFlags := 4120, slot := 0, constantValue := 0 }]
  methods := #[]
  instanceTypes := #[]
  staticTypes := #[(.array .int)]
  resolved := Array.replicate 64 none
  statics := some 1 }

def pool10 : Array CpInfo := pool [(1, u "java/lang/Cloneable"), (0, .class_ 1), (0, u "java/lang/Object"), (0, .class_ 3)] 3

/-- java/lang/Cloneable -/
def k10 : Class := { plain "java/lang/Cloneable" (some 0) with
  accessFlags := 1537
  interfaces := #[]
  cf := some (fileOf pool10 2 #[] #[] 1537 4 #[] #[])
  fields := #[]
  methods := #[]
  instanceTypes := #[]
  staticTypes := #[]
  resolved := Array.replicate 8 none
  statics := none }

/-- the primitive byte -/
def k11 : Class := { plain "byte" none with kind := .primitive 'B', accessFlags := 0x411 }
/-- [B -/
def k12 : Class := { plain "[B" (some 0) with kind := .array 11 .byte, interfaces := #[10, 4], accessFlags := 1041 }

/-- the primitive int -/
def k13 : Class := { plain "int" none with kind := .primitive 'I', accessFlags := 0x411 }
/-- [I -/
def k14 : Class := { plain "[I" (some 0) with kind := .array 13 .int, interfaces := #[10, 4], accessFlags := 1041 }

def heap : Heap := #[{ cls := 6, slots := #[.ref 2, .ref 4, .ref 7, .ref 3, .ref 5, .ref 10, .ref 11, .ref 6, .ref 8, .ref 9, .null], vm := .statics 6 },
  { cls := 9, slots := #[.ref 12], vm := .statics 9 },
  { cls := 6, slots := #[.null, .int (0), .int 0, .int 0, .int (1)], vm := .none },
  { cls := 6, slots := #[.null, .int (3), .int 0, .int 0, .int (4)], vm := .none },
  { cls := 6, slots := #[.null, .int (1), .int 0, .int 0, .int (2)], vm := .none },
  { cls := 6, slots := #[.null, .int (4), .int 0, .int 0, .int (5)], vm := .none },
  { cls := 6, slots := #[.null, .int (7), .int 0, .int 0, .int (8)], vm := .none },
  { cls := 6, slots := #[.null, .int (2), .int 0, .int 0, .int (3)], vm := .none },
  { cls := 6, slots := #[.null, .int (8), .int 0, .int 0, .int (9)], vm := .none },
  { cls := 6, slots := #[.null, .int (9), .int 0, .int 0, .int (10)], vm := .none },
  { cls := 6, slots := #[.null, .int (5), .int 0, .int 0, .int (6)], vm := .none },
  { cls := 6, slots := #[.null, .int (6), .int 0, .int 0, .int (7)], vm := .none },
  { cls := 14, slots := #[.int (1), .int (10), .int (2), .int (9), .int (8), .int (7), .int (6), .int (5), .int (4), .int (3)], vm := .none }]
def classes : Array Class := #[k0, k1, k2, k3, k4, k5, k6, k7, k8, k9, k10, k11, k12, k13, k14]
def interned : List (Array UInt16 × Addr) := []
def slotsUsed : Nat := 72
def theMethod : MethodId := ⟨1, 1⟩
def args0 : Array Value := #[.int 5]
def aboutOver (below : List Frame) : State where
  vm := { classes := classes, interned := interned.toArray }
  heap := heap
  slotsUsed := slotsUsed
  threads := #[{ frames := .invoking theMethod args0 :: below }]
def below0 : List Frame := [.native { method := ⟨0, 0⟩, args := #[] }]
def about1 : State := aboutOver below0
def p0 : Program := .bare "" "" ""
def e0 : Env := launch0.env 0 0 0
theorem w_frames : about1.frames = Frame.invoking theMethod args0 :: below0 := rfl
set_option maxRecDepth 65536 in
theorem w_args : argsFit about1.vm theMethod args0 = true := by decide +kernel
set_option maxRecDepth 65536 in
theorem w_heap : heapFits about1 = true := by decide +kernel
set_option maxRecDepth 65536 in
theorem w_runnable : about1.curStatus? = some .runnable := by decide +kernel
set_option maxRecDepth 65536 in
theorem w_alone : about1.alone = true := by decide +kernel
set_option maxRecDepth 65536 in
theorem w_named : about1.methodNamed? x = some theMethod := by decide +kernel
set_option maxRecDepth 65536 in
theorem w_hears : about1.hears theMethod below0 = true := by decide +kernel
set_option maxRecDepth 65536 in
theorem w_ripe : about1.ripe theMethod args0 below0 = true := by decide +kernel
theorem w_running : about1.status = .running := rfl
set_option maxRecDepth 65536 in
theorem w_room : about1.hasRoom e0.platform room_1 = true :=
  launch0.hasRoom_least _ room_1 (by decide +kernel) (by decide +kernel) (by decide +kernel) (by decide +kernel) (by decide +kernel) (by decide +kernel)
theorem allAtoms_all (ts : List Jvm.Cond) (a : Array Jvm.Value) (st : Jvm.State) : (allAtoms ts).before a st = ts.all (fun c => c.before a st) := by
  induction ts with
  | nil => rfl
  | cons c t ih =>
    show (Jvm.Cond.and c (allAtoms t)).before a st = _
    rw [Jvm.Cond.before_and, ih, List.all_cons]
def words1 : List Jvm.Cond := Jvm.Cond.code x code maxLocals ret :: tables_1
/-- a 'code' word, met by the world's own term for the bytes: nothing is compared byte by byte -/
theorem code_word {y : MethodName} {bytes : ByteArray} {mx : Nat} {rt : Option FieldType} {a : Array Value} {s : State} {m : MethodId} {meth : Method} {c : Code} (h1 : s.methodNamed? y = some m) (h2 : s.vm.method? m = some meth) (h3 : meth.code = some c) (h4 : c.code = bytes)
    (h5 : (c.maxLocals == mx && c.exceptionTable.isEmpty && decide (c.maxStack ≤ mostOperands) && decide (meth.sig.returnType = rt) && !meth.locks && decide (parseMethodDescriptor y.desc = some meth.sig)) = true) : (Jvm.Cond.code y bytes mx rt).before a s = true := by
  simp only [Bool.and_eq_true, beq_iff_eq, Bool.not_eq_true', decide_eq_true_eq] at h5
  obtain ⟨⟨⟨⟨⟨g1, g2⟩, g3⟩, g4⟩, g5⟩, g6⟩ := h5
  simp [Cond.before, Cond.holds, Cond.value, h1, h2, h3, h4, g1, g2, g3, g4, g5, g6]
def isCode : Jvm.Cond → Bool
  | .code _ _ _ _ => true
  | _ => false
theorem all_split {L : List Jvm.Cond} {P : Jvm.Cond → Bool} (h1 : L.all (fun c => isCode c || P c) = true) (h2 : ∀ c ∈ L.filter isCode, P c = true) : L.all P = true := by
  refine List.all_eq_true.mpr fun c hc => ?_
  have h := List.all_eq_true.mp h1 c hc
  rcases Bool.eq_false_or_eq_true (isCode c) with hi | hi
  · exact h2 c (List.mem_filter.mpr ⟨hc, hi⟩)
  · simpa [hi] using h
set_option maxRecDepth 65536 in
theorem w_c0 : (Jvm.Cond.code x code maxLocals ret).before args0 about1 = true := code_word (m := ⟨1, 1⟩) (meth := k1m1) (c := k1c1) (by decide +kernel) rfl rfl rfl (by decide +kernel)
set_option maxRecDepth 65536 in
theorem w_c1 : (Jvm.Cond.code ({ cls := "com/example/smazzata/smazzata/briscola/BriscolaStrengthPinLaw", name := "pick", desc := "(I)Lcom/example/smazzata/smazzata/card/Rank;" } : Jvm.MethodName) method_3_code (1 : Nat) (Option.some (Jvm.ClassFile.FieldType.object "com/example/smazzata/smazzata/card/Rank"))).before args0 about1 = true := code_word (m := ⟨1, 2⟩) (meth := k1m2) (c := k1c2) (by decide +kernel) rfl rfl rfl (by decide +kernel)
set_option maxRecDepth 65536 in
theorem w_c2 : (Jvm.Cond.code ({ cls := "com/example/smazzata/smazzata/card/Rank", name := "captureValue", desc := "()I" } : Jvm.MethodName) prog_13_method_5_code (1 : Nat) (Option.some Jvm.ClassFile.FieldType.int)).before args0 about1 = true := code_word (m := ⟨6, 0⟩) (meth := k6m0) (c := k6c0) (by decide +kernel) rfl rfl rfl (by decide +kernel)
set_option maxRecDepth 65536 in
theorem w_c3 : (Jvm.Cond.code ({ cls := "com/example/smazzata/smazzata/briscola/Briscola", name := "strength", desc := "(Lcom/example/smazzata/smazzata/card/Rank;)I" } : Jvm.MethodName) prog_2_method_5_code (1 : Nat) (Option.some Jvm.ClassFile.FieldType.int)).before args0 about1 = true := code_word (m := ⟨8, 1⟩) (meth := k8m1) (c := k8c1) (by decide +kernel) rfl rfl rfl (by decide +kernel)
set_option maxRecDepth 65536 in
theorem w_c4 : (Jvm.Cond.code ({ cls := "java/lang/Enum", name := "ordinal", desc := "()I" } : Jvm.MethodName) jdk_37_method_2_code (1 : Nat) (Option.some Jvm.ClassFile.FieldType.int)).before args0 about1 = true := code_word (m := ⟨5, 0⟩) (meth := k5m0) (c := k5c0) (by decide +kernel) rfl rfl rfl (by decide +kernel)
def codes1 : List Jvm.Cond := [Jvm.Cond.code x code maxLocals ret, Jvm.Cond.code ({ cls := "com/example/smazzata/smazzata/briscola/BriscolaStrengthPinLaw", name := "pick", desc := "(I)Lcom/example/smazzata/smazzata/card/Rank;" } : Jvm.MethodName) method_3_code (1 : Nat) (Option.some (Jvm.ClassFile.FieldType.object "com/example/smazzata/smazzata/card/Rank")), Jvm.Cond.code ({ cls := "com/example/smazzata/smazzata/card/Rank", name := "captureValue", desc := "()I" } : Jvm.MethodName) prog_13_method_5_code (1 : Nat) (Option.some Jvm.ClassFile.FieldType.int), Jvm.Cond.code ({ cls := "com/example/smazzata/smazzata/briscola/Briscola", name := "strength", desc := "(Lcom/example/smazzata/smazzata/card/Rank;)I" } : Jvm.MethodName) prog_2_method_5_code (1 : Nat) (Option.some Jvm.ClassFile.FieldType.int), Jvm.Cond.code ({ cls := "java/lang/Enum", name := "ordinal", desc := "()I" } : Jvm.MethodName) jdk_37_method_2_code (1 : Nat) (Option.some Jvm.ClassFile.FieldType.int)]
set_option maxRecDepth 65536 in
theorem codes_eq : words1.filter isCode = codes1 := rfl
theorem w_codes : ∀ c ∈ words1.filter isCode, c.before args0 about1 = true := by
  rw [codes_eq]
  intro c hc
  simp only [codes1, List.mem_cons, List.not_mem_nil, or_false] at hc
  rcases hc with rfl | rfl | rfl | rfl | rfl
  · exact w_c0
  · exact w_c1
  · exact w_c2
  · exact w_c3
  · exact w_c4
set_option maxRecDepth 65536 in
theorem w_t1 : (words1.take 24).all (fun c => isCode c || c.before args0 about1) = true := by decide +kernel
set_option maxRecDepth 65536 in
theorem w_t2 : ((words1.drop 24).take 24).all (fun c => isCode c || c.before args0 about1) = true := by decide +kernel
set_option maxRecDepth 65536 in
theorem w_t3 : ((words1.drop 24).drop 24).all (fun c => isCode c || c.before args0 about1) = true := by decide +kernel
theorem w_tables : (allAtoms (Jvm.Cond.code x code maxLocals ret :: tables_1)).before args0 about1 = true := by
  rw [allAtoms_all]
  show words1.all (fun c => c.before args0 about1) = true
  refine all_split ?_ w_codes
  rw [← List.take_append_drop 24 words1, List.all_append, w_t1, ← List.take_append_drop 24 (words1.drop 24), List.all_append, w_t2, w_t3]
  rfl
set_option maxRecDepth 65536 in
theorem w_case : (Jvm.Cond.and given_1 narrow_1).before args0 about1 = true := by decide +kernel
theorem w_applies : (headSpec (Jvm.Cond.code x code maxLocals ret :: tables_1) room_1).applies x e0.platform about1 = true :=
  (Spec.applies_iff w_frames).mpr ⟨w_running, w_runnable, w_alone, w_named, w_hears, w_ripe, w_room, w_tables⟩
theorem atStart : AtStart classFile x code maxLocals ret World_1 tables_1 room_1 Calls_1 rest_1 Pre_1 launch0 p0 e0 about1 theMethod args0 below0 :=
  ⟨lists_1, trivial, launch0.admits_env _ _ _, launch0.least_env, fairChoices_fair.cas, fairChoices_fair.clock, w_frames, w_args, w_heap, w_applies, trivial, trivial, w_case⟩
end start1
theorem witness_1 : WitnessClaimed_1 := ⟨start1.p0, start1.e0, start1.about1, start1.theMethod, start1.args0, start1.below0, start1.atStart⟩
end Jvm.Pilot.@@N@@
