import JvmDerived
import JvmDerived.Pilot.@@N@@Statement
import JvmDerived.Pilot.@@N@@Code
set_option linter.unusedVariables false
set_option linter.unusedSimpArgs false
namespace Jvm.RoadKit
open Sem ClassFile Op Lib Jvm.Stand Jvm.Free Jvm.LawKit
section New
variable {p : Program} {l : Launch} {e : Env} {R : Room} {s : State} {m : MethodId} {args : Array Value} {below : List Frame} {meth : Method} {c : Code} {T : State} {locs : List Loc} {cells slots : Nat}
theorem retI (X : Stand p l e R s m args below meth c T locs cells slots) (hx : p.tables.exec = Jvm.exec) {pc : Nat} {Ls : Array Slot} {z : Int32} {rest : List Value} (hret : meth.sig.returnType = some .int) (hd : decode c.code pc = .ok (.ireturn, 1)) {fs : List Frame}
    (hl : ∀ (f : JFrame) (acts : List Action), f.method = m → f.locked = none → f.entered = [] → (doReturn e (T.setTop f) acts (some (.int z))).1 = T.setFrames fs) : Steps p.tables e below (T.setTop (mkF m pc Ls (.int z :: rest))) (T.setFrames fs) :=
  retOut X hx hret rfl (Or.inl ⟨rfl, Or.inl rfl, z, rfl⟩) hd hl
end New
end Jvm.RoadKit
namespace Jvm.Pilot.@@N@@
open Jvm Jvm.ClassFile Sem Op Lib Jvm.Free Jvm.Stand Jvm.LawKit Jvm.RoadKit Bundle Jvm.Pilot.@@N@@.Jvm.D
/-! small laws of this text's own -/
theorem own_eqv {args : Array Value} {first s : State} {o : Option Outcome} {idx : List Nat} {a b : Term} {v : Value} (h : (Jvm.Cond.eq a b).value args first o s idx = some true) (hb : b.eval args first o idx s = some v) : a.eval args first o idx s = some v := by
  cases ha : a.eval args first o idx s with
  | none => simp [Cond.value, ha] at h
  | some x => cases x <;> cases v <;> simp_all [Cond.value]
theorem own_fld {args : Array Value} {s : State} {t b : Term} {x : Addr} {C n d : String} {v : Value} (ht : t.eval args s none [] s = some (.ref x)) (h : (Jvm.Cond.eq (.field t C n d) b).value args s none s [] = some true) (hb : b.eval args s none [] s = some v) : Fld s s.heap x C n d v :=
  Fld.start ((fld_at ht).symm.trans (own_eqv h hb))
theorem own_len {args : Array Value} {s : State} {t : Term} {x : Addr} {c : Cell} {n : Int32} (ht : t.eval args s none [] s = some (.ref x)) (hc : s.heap[x]? = some c) (h : (Jvm.Cond.eq (.length t) (.int n)).value args s none s [] = some true) : c.slots.size < 2 ^ 31 ∧ c.slots.size.toInt32 = n := by
  have e := own_eqv h (v := .int n) rfl
  simp only [Term.eval, ht, Option.bind_eq_bind, Option.bind_some] at e
  cases hq : s.arrayAt? x with
  | none => simp [hq] at e
  | some c' =>
    have h1 := (State.arrayAt?_spec hq).1
    cases hc.symm.trans h1
    simp only [hq, Option.bind_some] at e
    split at e
    · rename_i hl; exact ⟨hl, by simpa using e⟩
    · cases e
theorem own_elem {args : Array Value} {s : State} {t b : Term} {x : Addr} {c : Cell} {j : Int32} {v : Value} (ht : t.eval args s none [] s = some (.ref x)) (hc : s.heap[x]? = some c) (h : (Jvm.Cond.eq (.elem t (.int j)) b).value args s none s [] = some true) (hb : b.eval args s none [] s = some v) : c.slots[j.toNatClampNeg]? = some v :=
  (elem_in (own_eqv h hb) ht rfl hc).2
theorem own_selpriv {y : MethodName} {s : State} {args : Array Value} {n : Nat} (hy : y.cls ≠ "java/lang/invoke/MethodHandle" ∧ y.cls ≠ "java/lang/invoke/VarHandle") (hins : (Jvm.Cond.instantiable y.cls n).before args s = true) (hpriv : (Jvm.Cond.privateMethod y).before args s = true) (hinst : (Jvm.Cond.instanceMethod y).before args s = true) : (Jvm.Cond.selects y.cls y y).before args s = true := by
  obtain ⟨c, k, hc, hk, -, hniab, -, -⟩ := Cond.instantiable_spec hins
  exact Stand.selects_self_of_private hc hk (Bool.or_eq_false_iff.mp hniab).1 (Cond.privateMethod_at hpriv) hinst hy
theorem own_ext {h0 h : Heap} (K : Keep h0 h []) : Ext h0 h := ⟨K.1, fun x c q => K.2.1 x c q (fun z => nomatch z)⟩
theorem own_cat1 {v : Value} (h : v.isRef = true) : v.category = 1 := by cases v <;> first | rfl | simp [Value.isRef] at h
theorem own_narref {t : FieldType} {v : Value} (h : t.isReference = true) (hv : v.isRef = true) : narrow t v = v := by
  cases v <;> first | (simp [Value.isRef] at hv; done) | (cases t <;> first | rfl | simp [FieldType.isReference] at h)
theorem own_store1 {l : Array Slot} {i : Nat} {v : Value} {o : Slot} (hold : l[i]? = some o) (ho : o = .unset ∨ ∃ w, o = .val w ∧ w.category = 1) (hv : v.category = 1) : storeLocals l i v = some (l.setIfInBounds i (.val v)) := XS.store1 hold ho hv
def own_Base (Z : State) (u : Nat → Addr) : Prop :=
  (Sta Z Z.heap "com/example/wakachi/wakachi/match/IntDeque" "NONE" "[I" (.ref (u 0))) ∧
  (∃ k, Arv Z Z.heap (u 0) k .int (0 : Int32) [] (.int (0 : Int32)))
theorem own_pd0 : parseMethodDescriptor "(II)I" = some ⟨[.int, .int], some .int⟩ := by decide +kernel
theorem own_pd1 : parseMethodDescriptor "()V" = some ⟨[], none⟩ := by decide +kernel
theorem own_pd2 : parseMethodDescriptor "(I)V" = some ⟨[.int], none⟩ := by decide +kernel
theorem own_pd3 : parseMethodDescriptor "()I" = some ⟨[], some .int⟩ := by decide +kernel
theorem d1_0 : decode prog_46_method_1_code 0 = .ok (.aload_n 0, 1) := by decide +kernel
theorem d1_1 : decode prog_46_method_1_code 1 = .ok (.invokespecial 1, 3) := by decide +kernel
theorem d1_4 : decode prog_46_method_1_code 4 = .ok (.aload_n 0, 1) := by decide +kernel
theorem d1_5 : decode prog_46_method_1_code 5 = .ok (.getstatic 7, 3) := by decide +kernel
theorem d1_8 : decode prog_46_method_1_code 8 = .ok (.putfield 13, 3) := by decide +kernel
theorem d1_11 : decode prog_46_method_1_code 11 = .ok (.return_, 1) := by decide +kernel
theorem own_pn_1 : plainName "com/example/wakachi/wakachi/match/IntDeque" = true := by first | (simp [plainName, overriddenIn]; done) | decide +kernel
theorem own_ef_1 (m : MethodId) (x0 : Addr) : entryFrame m #[(.ref x0)] 1 = mkF m 0 #[.val (.ref x0)] [] := by first | (simp [entryFrame, mkF, argsToLocals, Value.category]; done) | rfl
def own_Q1 (Z : State) (u : Nat → Addr) (r0 : Addr) (h0 : Heap) (n0 : Nat) (v : Option Value) (h : Heap) (L : List Loc) : Prop := v = none ∧ Fr n0 L ∧ Keep h0 h [r0] ∧ Exa Z h r0 "com/example/wakachi/wakachi/match/IntDeque" ∧ Fld Z h r0 "com/example/wakachi/wakachi/match/IntDeque" "ring" "[I" (.ref (u 0)) ∧ Fld Z h r0 "com/example/wakachi/wakachi/match/IntDeque" "head" "I" (.int 0) ∧ Fld Z h r0 "com/example/wakachi/wakachi/match/IntDeque" "size" "I" (.int 0)
set_option maxRecDepth 65536 in
set_option maxHeartbeats 40000000 in
theorem rm1 (l : Launch) (Z : State) (a0 : Array Value) (hw : ∀ d ∈ tables_1, d.before a0 Z = true) (ws : List Jvm.Cond) (u : Nat → Addr) (r0 : Addr) (B : own_Base Z u) (h0 : Heap) (n0 : Nat) (O : Old Z n0 h0) (E_r : Exa Z h0 r0 "com/example/wakachi/wakachi/match/IntDeque") (F_ring : Fld Z h0 r0 "com/example/wakachi/wakachi/match/IntDeque" "ring" "[I" .null) (F_head : Fld Z h0 r0 "com/example/wakachi/wakachi/match/IntDeque" "head" "I" (.int (0 : Int32))) (F_size : Fld Z h0 r0 "com/example/wakachi/wakachi/match/IntDeque" "size" "I" (.int (0 : Int32))) (g_r : n0 ≤ r0) :
    MetFree l (⟨"com/example/wakachi/wakachi/match/IntDeque", "<init>", "()V"⟩ : MethodName) (head1 (Jvm.Cond.code (⟨"com/example/wakachi/wakachi/match/IntDeque", "<init>", "()V"⟩ : MethodName) prog_46_method_1_code 1 none :: ws) ({ frames := 1, cells := 0, slots := 0, locals := 12 } : Room)) (fun a U => a = #[(.ref r0)] ∧ Z.Warmed39 U.vm ∧ U.heap = h0) (fun _ _ _ _ _ => True) (fun _ U o U' => ∃ v L, o = .returned v ∧ own_Q1 Z u r0 h0 n0 v U'.heap L ∧ FrameEnd U o U' L ({ frames := 1, cells := 0, slots := 0, locals := 12 } : Room).cells ({ frames := 1, cells := 0, slots := 0, locals := 12 } : Room).slots) := by
  refine MetFree.of_bodySF (plainFor_of_name own_pn_1) hisR ?_
  intro p e s m args below meth c s₁ Bd hml0 hP hK
  obtain ⟨rfl, hZ, hh⟩ := hP
  have hx := Bd.exec
  have hby := Bd.bytes
  have hml : c.maxLocals = 1 := hml0
  have hown : s.vm.findClass "com/example/wakachi/wakachi/match/IntDeque" = some m.cls := findClass_of_methodNamed Bd.named
  have hnm := (name_of_methodNamed Bd.named Bd.method).1
  have X0 : Stand p l e ({ frames := 1, cells := 0, slots := 0, locals := 12 } : Room) s m #[(.ref r0)] below meth c s₁ [] 0 0 := Stand.of_body Bd
  have e0 : s₁.heap = h0 := by rw [← hh, Bd.state]; rfl
  have N0 := Fr.nil n0
  have K0 := Keep.refl h0 [r0]
  have Z0 : n0 ≤ h0.size := O.1 ▸ O.2.1
  have pre0 : ∀ t, Steps p.tables e below (s₁.setTop (mkF m 0 #[.val (.ref r0)] [])) t → Steps p.tables e below (s₁.setTop (entryFrame m #[(.ref r0)] 1)) t := fun t k => castTop (own_ef_1 m r0) k
  obtain ⟨T1, X1, e1, st1⟩ := initO X0 hx hZ hown (hw _ (List.mem_of_getElem? (i := 6) rfl)) (hw _ (List.mem_of_getElem? (i := 7) rfl)) (hw _ (List.mem_of_getElem? (i := 8) rfl)) e0 (g := (mkF m 1 #[.val (.ref r0)] [(.ref r0)])) rfl (by rw [hml]; rfl) rfl (hb hby d1_1) (by decide) (W := 0) (by show 2 * 0 + _ ≤ _; exact Nat.le_of_eq rfl) (by decide)
  obtain ⟨T2, X2, e2, st2⟩ := getS2 X1 hx hZ hown (host := "") (Or.inl (hw _ (List.mem_of_getElem? (i := 9) rfl))) Via.refl e1 (B.1.ext O.2) (g := (mkF m 5 #[.val (.ref r0)] [(.ref r0)])) rfl (hb hby d1_5)
  obtain ⟨T3, h3, X3, e3, W3, st3⟩ := putF X2 hx hZ hown (host := "") (Or.inl (hw _ (List.mem_of_getElem? (i := 11) rfl))) Via.refl e2 F_ring E_r (Or.inl (hw _ (List.mem_of_getElem? (i := 12) rfl))) (hw _ (List.mem_of_getElem? (i := 1) rfl)) (ty := (.array .int)) (by decide) rfl rfl (g := (mkF m 8 #[.val (.ref r0)] [(.ref (u 0)), (.ref r0)])) rfl rfl (hb hby d1_8)
  have Nf3 := Fr.snoc X3 N0 g_r
  have f4 := F_ring.same W3
  have f5 := F_head.other W3 (Or.inr (slot_ne (Or.inl (hw _ (List.mem_of_getElem? (i := 30) rfl))) (Or.inl (hw _ (List.mem_of_getElem? (i := 12) rfl))) (by decide) (t := .int) (t' := (.array .int)) (by decide) (by decide)))
  have f6 := F_size.other W3 (Or.inr (slot_ne (Or.inl (hw _ (List.mem_of_getElem? (i := 19) rfl))) (Or.inl (hw _ (List.mem_of_getElem? (i := 12) rfl))) (by decide) (t := .int) (t' := (.array .int)) (by decide) (by decide)))
  have O3 := O.wr W3 g_r
  have K3 := K0.wr W3 (Or.inl (List.mem_of_getElem? (i := 0) rfl))
  have f7 := E_r.wr W3
  obtain ⟨fs, hr, hrun, hended, hW, hsame⟩ := X3.leave (v := none) (fun _ => rfl)
  refine ⟨_, _, pre0 _ ?_, hrun, hended, _, _, rfl, ?_, ⟨_, rfl⟩, hW, hsame.mono (by decide) (by decide)⟩
  · show Steps p.tables e below (s₁.setTop (mkF m 0 #[.val (.ref r0)] [])) _
    refine XS.aloadN X0.here hx rfl (hb hby d1_0) rfl rfl ?_
    show Steps p.tables e below (s₁.setTop (mkF m 1 #[.val (.ref r0)] [(.ref r0)])) _
    refine st1 _ ?_
    show Steps p.tables e below (T1.setTop (mkF m 4 #[.val (.ref r0)] [])) _
    refine XS.aloadN X1.here hx rfl (hb hby d1_4) rfl rfl ?_
    show Steps p.tables e below (T1.setTop (mkF m 5 #[.val (.ref r0)] [(.ref r0)])) _
    refine st2 _ ?_
    show Steps p.tables e below (T2.setTop (mkF m 8 #[.val (.ref r0)] [(.ref (u 0)), (.ref r0)])) _
    refine st3 _ ?_
    show Steps p.tables e below (T3.setTop (mkF m 11 #[.val (.ref r0)] [])) _
    exact X3.returnOut hx Bd.returns (hb hby d1_11) hr
  · show own_Q1 Z u r0 h0 n0 _ T3.heap _
    rw [e3]
    exact ⟨rfl, Nf3, K3, f7, f4, f5, f6⟩
theorem d5_0 : decode jdk_29_method_65_code 0 = .ok (.iload_n 0, 1) := by decide +kernel
theorem d5_1 : decode jdk_29_method_65_code 1 = .ok (.iload_n 1, 1) := by decide +kernel
theorem d5_2 : decode jdk_29_method_65_code 2 = .ok (.if_icmp .lt 7, 3) := by decide +kernel
theorem d5_5 : decode jdk_29_method_65_code 5 = .ok (.iload_n 0, 1) := by decide +kernel
theorem d5_6 : decode jdk_29_method_65_code 6 = .ok (.goto 4, 3) := by decide +kernel
theorem d5_9 : decode jdk_29_method_65_code 9 = .ok (.iload_n 1, 1) := by decide +kernel
theorem d5_10 : decode jdk_29_method_65_code 10 = .ok (.ireturn, 1) := by decide +kernel
theorem own_ef_5 (m : MethodId) (x0 : Int32) (x1 : Int32) : entryFrame m #[(.int x0), (.int x1)] 2 = mkF m 0 #[.val (.int x0), .val (.int x1)] [] := by first | (simp [entryFrame, mkF, argsToLocals, Value.category]; done) | rfl
def own_r5 (u : Nat → Addr) (p0 : Int32) (p1 : Int32) : Int32 :=
  if p0 < p1 then
    p1
  else
    p0
def own_Q5 (Z : State) (u : Nat → Addr) (p0 : Int32) (p1 : Int32) (h0 : Heap) (n0 : Nat) (v : Option Value) (h : Heap) (L : List Loc) : Prop := v = some (.int (own_r5 u p0 p1)) ∧ Fr n0 L ∧ h = h0
set_option maxRecDepth 65536 in
set_option maxHeartbeats 40000000 in
theorem rm5 (l : Launch) (Z : State) (a0 : Array Value) (hw : ∀ d ∈ tables_1, d.before a0 Z = true) (ws : List Jvm.Cond) (u : Nat → Addr) (p0 : Int32) (p1 : Int32) (B : own_Base Z u) (h0 : Heap) (n0 : Nat) (O : Old Z n0 h0) :
    MetFree l (⟨"java/lang/Math", "max", "(II)I"⟩ : MethodName) (head1 (Jvm.Cond.code (⟨"java/lang/Math", "max", "(II)I"⟩ : MethodName) jdk_29_method_65_code 2 (some .int) :: ws) ({ frames := 0, cells := 0, slots := 0, locals := 0 } : Room)) (fun a U => a = #[(.int p0), (.int p1)] ∧ Z.Warmed39 U.vm ∧ U.heap = h0) (fun _ _ _ _ _ => True) (fun _ U o U' => ∃ v L, o = .returned v ∧ own_Q5 Z u p0 p1 h0 n0 v U'.heap L ∧ FrameEnd U o U' L ({ frames := 0, cells := 0, slots := 0, locals := 0 } : Room).cells ({ frames := 0, cells := 0, slots := 0, locals := 0 } : Room).slots) := by
  refine MetFree.of_bodySF (Jvm.Free.JP.mathPlain rfl (by decide +kernel)) hisR ?_
  intro p e s m args below meth c s₁ Bd hml0 hP hK
  obtain ⟨rfl, hZ, hh⟩ := hP
  have hx := Bd.exec
  have hby := Bd.bytes
  have hml : c.maxLocals = 2 := hml0
  have hown : s.vm.findClass "java/lang/Math" = some m.cls := findClass_of_methodNamed Bd.named
  have hnm := (name_of_methodNamed Bd.named Bd.method).1
  have X0 : Stand p l e ({ frames := 0, cells := 0, slots := 0, locals := 0 } : Room) s m #[(.int p0), (.int p1)] below meth c s₁ [] 0 0 := Stand.of_body Bd
  have e0 : s₁.heap = h0 := by rw [← hh, Bd.state]; rfl
  have N0 := Fr.nil n0
  have K0 := Keep.refl h0 []
  have Z0 : n0 ≤ h0.size := O.1 ▸ O.2.1
  have pre0 : ∀ t, Steps p.tables e below (s₁.setTop (mkF m 0 #[.val (.int p0), .val (.int p1)] [])) t → Steps p.tables e below (s₁.setTop (entryFrame m #[(.int p0), (.int p1)] 2)) t := fun t k => castTop (own_ef_5 m p0 p1) k
  have pre12 : ∀ t, Steps p.tables e below (s₁.setTop (mkF m 2 #[.val (.int p0), .val (.int p1)] [(.int p1), (.int p0)])) t → Steps p.tables e below (s₁.setTop (entryFrame m #[(.int p0), (.int p1)] 2)) t := fun t kt => pre0 t (by
    show Steps p.tables e below (s₁.setTop (mkF m 0 #[.val (.int p0), .val (.int p1)] [])) _
    refine XS.iloadN X0.here hx rfl (hb hby d5_0) rfl ?_
    show Steps p.tables e below (s₁.setTop (mkF m 1 #[.val (.int p0), .val (.int p1)] [(.int p0)])) _
    refine XS.iloadN X0.here hx rfl (hb hby d5_1) rfl ?_
    exact kt)
  by_cases hc13 : p0 < p1
  · --
    obtain ⟨fs, hr, hrun, hended, hW, hsame⟩ := X0.leave (v := some (.int p1)) (fun h => by rw [Bd.returns] at h; cases h)
    refine ⟨_, _, pre12 _ ?_, hrun, hended, _, _, rfl, ?_, ⟨_, rfl⟩, hW, hsame.mono (by decide) (by decide)⟩
    · show Steps p.tables e below (s₁.setTop (mkF m 2 #[.val (.int p0), .val (.int p1)] [(.int p1), (.int p0)])) _
      refine XS.icmpYes X0.here hx rfl (pc0 := 2) (pc' := 9) rfl (hb hby d5_2) rfl (tlt hc13).1 (by decide) (by decide) ?_
      show Steps p.tables e below (s₁.setTop (mkF m 9 #[.val (.int p0), .val (.int p1)] [])) _
      refine XS.iloadN X0.here hx rfl (hb hby d5_9) rfl ?_
      show Steps p.tables e below (s₁.setTop (mkF m 10 #[.val (.int p0), .val (.int p1)] [(.int p1)])) _
      exact retI X0 hx Bd.returns (hb hby d5_10) hr
    · show own_Q5 Z u p0 p1 h0 n0 _ s₁.heap _
      rw [e0]
      exact ⟨(by unfold own_r5; rw [if_pos hc13]), N0, rfl⟩
  · --
    obtain ⟨fs, hr, hrun, hended, hW, hsame⟩ := X0.leave (v := some (.int p0)) (fun h => by rw [Bd.returns] at h; cases h)
    refine ⟨_, _, pre12 _ ?_, hrun, hended, _, _, rfl, ?_, ⟨_, rfl⟩, hW, hsame.mono (by decide) (by decide)⟩
    · show Steps p.tables e below (s₁.setTop (mkF m 2 #[.val (.int p0), .val (.int p1)] [(.int p1), (.int p0)])) _
      refine XS.icmpNo X0.here hx rfl (hb hby d5_2) rfl (flt hc13).1 ?_
      show Steps p.tables e below (s₁.setTop (mkF m 5 #[.val (.int p0), .val (.int p1)] [])) _
      refine XS.iloadN X0.here hx rfl (hb hby d5_5) rfl ?_
      show Steps p.tables e below (s₁.setTop (mkF m 6 #[.val (.int p0), .val (.int p1)] [(.int p0)])) _
      refine XS.goto X0.here hx rfl (pc0 := 6) (pc' := 10) rfl (hb hby d5_6) (by decide) (by decide) ?_
      show Steps p.tables e below (s₁.setTop (mkF m 10 #[.val (.int p0), .val (.int p1)] [(.int p0)])) _
      exact retI X0 hx Bd.returns (hb hby d5_10) hr
    · show own_Q5 Z u p0 p1 h0 n0 _ s₁.heap _
      rw [e0]
      exact ⟨(by unfold own_r5; rw [if_neg hc13]), N0, rfl⟩
theorem d4_0 : decode prog_46_method_9_code 0 = .ok (.bipush 16, 2) := by decide +kernel
theorem d4_2 : decode prog_46_method_9_code 2 = .ok (.iconst 2, 1) := by decide +kernel
theorem d4_3 : decode prog_46_method_9_code 3 = .ok (.aload_n 0, 1) := by decide +kernel
theorem d4_4 : decode prog_46_method_9_code 4 = .ok (.getfield 13, 3) := by decide +kernel
theorem d4_7 : decode prog_46_method_9_code 7 = .ok (.arraylength, 1) := by decide +kernel
theorem d4_8 : decode prog_46_method_9_code 8 = .ok (.imul, 1) := by decide +kernel
theorem d4_9 : decode prog_46_method_9_code 9 = .ok (.invokestatic 26, 3) := by decide +kernel
theorem d4_12 : decode prog_46_method_9_code 12 = .ok (.newarray .int, 2) := by decide +kernel
theorem d4_14 : decode prog_46_method_9_code 14 = .ok (.astore_n 1, 1) := by decide +kernel
theorem d4_15 : decode prog_46_method_9_code 15 = .ok (.iconst 0, 1) := by decide +kernel
theorem d4_16 : decode prog_46_method_9_code 16 = .ok (.istore_n 2, 1) := by decide +kernel
theorem d4_17 : decode prog_46_method_9_code 17 = .ok (.iload_n 2, 1) := by decide +kernel
theorem d4_18 : decode prog_46_method_9_code 18 = .ok (.aload_n 0, 1) := by decide +kernel
theorem d4_19 : decode prog_46_method_9_code 19 = .ok (.getfield 16, 3) := by decide +kernel
theorem d4_22 : decode prog_46_method_9_code 22 = .ok (.if_icmp .ge 31, 3) := by decide +kernel
theorem d4_53 : decode prog_46_method_9_code 53 = .ok (.aload_n 0, 1) := by decide +kernel
theorem d4_54 : decode prog_46_method_9_code 54 = .ok (.aload_n 1, 1) := by decide +kernel
theorem d4_55 : decode prog_46_method_9_code 55 = .ok (.putfield 13, 3) := by decide +kernel
theorem d4_58 : decode prog_46_method_9_code 58 = .ok (.aload_n 0, 1) := by decide +kernel
theorem d4_59 : decode prog_46_method_9_code 59 = .ok (.iconst 0, 1) := by decide +kernel
theorem d4_60 : decode prog_46_method_9_code 60 = .ok (.putfield 23, 3) := by decide +kernel
theorem d4_63 : decode prog_46_method_9_code 63 = .ok (.return_, 1) := by decide +kernel
theorem own_pn_4 : plainName "com/example/wakachi/wakachi/match/IntDeque" = true := by first | (simp [plainName, overriddenIn]; done) | decide +kernel
theorem own_ef_4 (m : MethodId) (x0 : Addr) : entryFrame m #[(.ref x0)] 3 = mkF m 0 #[.val (.ref x0), .unset, .unset] [] := by first | (simp [entryFrame, mkF, argsToLocals, Value.category]; done) | rfl
def own_Q4 (Z : State) (u : Nat → Addr) (r0 : Addr) (h0 : Heap) (n0 : Nat) (v : Option Value) (h : Heap) (L : List Loc) : Prop := ∃ (b : Addr) (k : ClassId), v = none ∧ Fr n0 L ∧ Keep h0 h [r0] ∧ n0 ≤ b ∧ h0.size ≤ b ∧ Exa Z h r0 "com/example/wakachi/wakachi/match/IntDeque" ∧ Fld Z h r0 "com/example/wakachi/wakachi/match/IntDeque" "ring" "[I" (.ref b) ∧ Fld Z h r0 "com/example/wakachi/wakachi/match/IntDeque" "head" "I" (.int 0) ∧ Fld Z h r0 "com/example/wakachi/wakachi/match/IntDeque" "size" "I" (.int 0) ∧ Arv Z h b k .int (16 : Int32) [.int (0 : Int32), .int (0 : Int32), .int (0 : Int32), .int (0 : Int32), .int (0 : Int32), .int (0 : Int32), .int (0 : Int32), .int (0 : Int32), .int (0 : Int32), .int (0 : Int32), .int (0 : Int32), .int (0 : Int32), .int (0 : Int32), .int (0 : Int32), .int (0 : Int32), .int (0 : Int32)] (.int (0 : Int32))
set_option maxRecDepth 65536 in
set_option maxHeartbeats 40000000 in
theorem rm4 (l : Launch) (Z : State) (a0 : Array Value) (hw : ∀ d ∈ tables_1, d.before a0 Z = true) (ws : List Jvm.Cond) (u : Nat → Addr) (r0 : Addr) (B : own_Base Z u) (h0 : Heap) (n0 : Nat) (O : Old Z n0 h0) (E_r : Exa Z h0 r0 "com/example/wakachi/wakachi/match/IntDeque") (F_ring : Fld Z h0 r0 "com/example/wakachi/wakachi/match/IntDeque" "ring" "[I" (.ref (u 0))) (F_head : Fld Z h0 r0 "com/example/wakachi/wakachi/match/IntDeque" "head" "I" (.int (0 : Int32))) (F_size : Fld Z h0 r0 "com/example/wakachi/wakachi/match/IntDeque" "size" "I" (.int (0 : Int32))) (g_r : n0 ≤ r0) :
    MetFree l (⟨"com/example/wakachi/wakachi/match/IntDeque", "grow", "()V"⟩ : MethodName) (head1 (Jvm.Cond.code (⟨"com/example/wakachi/wakachi/match/IntDeque", "grow", "()V"⟩ : MethodName) prog_46_method_9_code 3 none :: ws) ({ frames := 1, cells := 1, slots := 16, locals := 13 } : Room)) (fun a U => a = #[(.ref r0)] ∧ Z.Warmed39 U.vm ∧ U.heap = h0) (fun _ _ _ _ _ => True) (fun _ U o U' => ∃ v L, o = .returned v ∧ own_Q4 Z u r0 h0 n0 v U'.heap L ∧ FrameEnd U o U' L ({ frames := 1, cells := 1, slots := 16, locals := 13 } : Room).cells ({ frames := 1, cells := 1, slots := 16, locals := 13 } : Room).slots) := by
  refine MetFree.of_bodySF (plainFor_of_name own_pn_4) hisR ?_
  intro p e s m args below meth c s₁ Bd hml0 hP hK
  obtain ⟨rfl, hZ, hh⟩ := hP
  have hx := Bd.exec
  have hby := Bd.bytes
  have hml : c.maxLocals = 3 := hml0
  have hown : s.vm.findClass "com/example/wakachi/wakachi/match/IntDeque" = some m.cls := findClass_of_methodNamed Bd.named
  have hnm := (name_of_methodNamed Bd.named Bd.method).1
  have X0 : Stand p l e ({ frames := 1, cells := 1, slots := 16, locals := 13 } : Room) s m #[(.ref r0)] below meth c s₁ [] 0 0 := Stand.of_body Bd
  have e0 : s₁.heap = h0 := by rw [← hh, Bd.state]; rfl
  have N0 := Fr.nil n0
  have K0 := Keep.refl h0 [r0]
  have Z0 : n0 ≤ h0.size := O.1 ▸ O.2.1
  have pre0 : ∀ t, Steps p.tables e below (s₁.setTop (mkF m 0 #[.val (.ref r0), .unset, .unset] [])) t → Steps p.tables e below (s₁.setTop (entryFrame m #[(.ref r0)] 3)) t := fun t k => castTop (own_ef_4 m r0) k
  obtain ⟨T16, X16, e16, st16⟩ := getF X0 hx hZ hown (host := "") (Or.inl (hw _ (List.mem_of_getElem? (i := 11) rfl))) Via.refl e0 F_ring (g := (mkF m 4 #[.val (.ref r0), .unset, .unset] [(.ref r0), (.int (2 : Int32)), (.int (16 : Int32))])) rfl rfl (hb hby d4_4)
  obtain ⟨kA0, VA0⟩ := id B.2
  obtain ⟨cl17, Ar17, -, S17, N17, -, -⟩ := id (VA0.ext O.2)
  have pre18 : ∀ t, Steps p.tables e below (T16.setTop (mkF m 9 #[.val (.ref r0), .unset, .unset] [(.int (0 : Int32)), (.int (16 : Int32))])) t → Steps p.tables e below (s₁.setTop (entryFrame m #[(.ref r0)] 3)) t := fun t kt => pre0 t (by
    show Steps p.tables e below (s₁.setTop (mkF m 0 #[.val (.ref r0), .unset, .unset] [])) _
    refine XS.bipush X0.here hx rfl (hb hby d4_0) ?_
    show Steps p.tables e below (s₁.setTop (mkF m 2 #[.val (.ref r0), .unset, .unset] [(.int (16 : Int32))])) _
    refine XS.iconst X0.here hx rfl (hb hby d4_2) ?_
    show Steps p.tables e below (s₁.setTop (mkF m 3 #[.val (.ref r0), .unset, .unset] [(.int (2 : Int32)), (.int (16 : Int32))])) _
    refine XS.aloadN X0.here hx rfl (hb hby d4_3) rfl rfl ?_
    show Steps p.tables e below (s₁.setTop (mkF m 4 #[.val (.ref r0), .unset, .unset] [(.ref r0), (.int (2 : Int32)), (.int (16 : Int32))])) _
    refine st16 _ ?_
    show Steps p.tables e below (T16.setTop (mkF m 7 #[.val (.ref r0), .unset, .unset] [(.ref (u 0)), (.int (2 : Int32)), (.int (16 : Int32))])) _
    refine X16.arraylength hx (by rw [e16]; exact Ar17.1) (State.isArrayOf_alike hZ.alike Ar17.2.1) (g := (mkF m 7 #[.val (.ref r0), .unset, .unset] [(.ref (u 0)), (.int (2 : Int32)), (.int (16 : Int32))])) rfl rfl (hb hby d4_7) _ ?_
    rw [len_of S17 N17]
    show Steps p.tables e below (T16.setTop (mkF m 8 #[.val (.ref r0), .unset, .unset] [(.int (0 : Int32)), (.int (2 : Int32)), (.int (16 : Int32))])) _
    refine XS.imul X16.here hx rfl (hb hby d4_8) rfl ?_
    exact kt)
  obtain ⟨vr19, _, ⟨T19, L19, k19, n19⟩, -, X19, ⟨Lc19, hQ19, l19, y19, z19⟩, st19⟩ := Jvm.LawKit.callS X16 hx (y := (⟨"java/lang/Math", "max", "(II)I"⟩ : MethodName)) hown (mvT hZ (hw _ (List.mem_of_getElem? (i := 24) rfl))) (mvT hZ (hw _ (List.mem_of_getElem? (i := 25) rfl))) (mvT hZ (hw _ (List.mem_of_getElem? (i := 26) rfl))) (mvT hZ (hw _ (List.mem_of_getElem? (i := 27) rfl))) (by decide) (backOf (W := 0) (rm5 l Z a0 hw [] u (16 : Int32) (0 : Int32) B h0 n0 O ) hZ (hw _ (List.mem_of_getElem? (i := 27) rfl)) (hw _ (List.mem_of_getElem? (i := 26) rfl)) (by decide) (by decide)) (g := (mkF m 9 #[.val (.ref r0), .unset, .unset] [(.int (0 : Int32)), (.int (16 : Int32))])) rfl (by rw [hml]; rfl) (argsL := [(.int (16 : Int32)), (.int (0 : Int32))]) (rest := []) (lenOf own_pd0 rfl) rfl (by show 2 * 0 + _ ≤ _; exact Nat.le_of_eq rfl) (hb hby d4_9) (fun _ _ => ⟨rfl, e16, (by decide : 0 + 0 ≤ _), (by decide : 0 + 0 ≤ _)⟩)
  dsimp only [Pt.U, Pt.locs, Pt.cells, Pt.slots] at X19 l19 y19 z19 st19 hQ19
  subst l19 y19 z19
  obtain ⟨hv19, N19q, e19⟩ := hQ19
  have N19 := Fr.app N0 N19q
  obtain rfl : vr19 = some (.int (16 : Int32)) := hv19.trans (by unfold own_r5; rw [if_neg (by decide : ¬ ((16 : Int32) < (0 : Int32)))])
  obtain ⟨T20, h20, k20, X20, e20, E20, A20, st20⟩ := newP X19 hx hZ (hw _ (List.mem_of_getElem? (i := 28) rfl)) e19 (g := (mkF m 12 #[.val (.ref r0), .unset, .unset] [(.int (16 : Int32))])) rfl (hb hby d4_12) rfl (by decide) (cap := 16) (by decide) (by decide) (by decide) (by decide)
  obtain ⟨b20, g20⟩ : ∃ z, z = h0.size := ⟨_, rfl⟩
  rw [← g20] at A20 st20
  have gx_b20 : n0 ≤ b20 := Nat.le_trans (O.1 ▸ O.2.1) (Nat.le_of_eq g20.symm)
  have sz_b20 : h0.size ≤ b20 := Nat.le_trans K0.1 (Nat.le_of_eq g20.symm)
  have ne21 : r0 ≠ b20 := Nat.ne_of_lt (Nat.lt_of_lt_of_le E_r.lt (Nat.le_of_eq g20.symm))
  have O20 := O.ext E20
  have K20 := K0.ext E20
  have f22 := E_r.ext E20
  have f23 := F_ring.ext E20
  have f24 := F_head.ext E20
  have f25 := F_size.ext E20
  have V_b20 : Arv Z h20 b20 k20 .int (16 : Int32) [.int (0 : Int32), .int (0 : Int32), .int (0 : Int32), .int (0 : Int32), .int (0 : Int32), .int (0 : Int32), .int (0 : Int32), .int (0 : Int32), .int (0 : Int32), .int (0 : Int32), .int (0 : Int32), .int (0 : Int32), .int (0 : Int32), .int (0 : Int32), .int (0 : Int32), .int (0 : Int32)] (.int (0 : Int32)) := (Arv.new A20 (by decide)).pad (pad_rep [] (.int (0 : Int32)) 16)
  obtain ⟨T26, X26, e26, st26⟩ := getF X20 hx hZ hown (host := "") (Or.inl (hw _ (List.mem_of_getElem? (i := 18) rfl))) Via.refl e20 f25 (g := (mkF m 19 #[.val (.ref r0), .val (.ref b20), .val (.int (0 : Int32))] [(.ref r0), (.int (0 : Int32))])) rfl rfl (hb hby d4_19)
  obtain ⟨T27, h27, X27, e27, W27, st27⟩ := putF X26 hx hZ hown (host := "") (Or.inl (hw _ (List.mem_of_getElem? (i := 11) rfl))) Via.refl e26 f23 f22 (Or.inl (hw _ (List.mem_of_getElem? (i := 12) rfl))) (hw _ (List.mem_of_getElem? (i := 1) rfl)) (ty := (.array .int)) (by decide) rfl rfl (g := (mkF m 55 #[.val (.ref r0), .val (.ref b20), .val (.int (0 : Int32))] [(.ref b20), (.ref r0)])) rfl rfl (hb hby d4_55)
  have Nf27 := Fr.snoc X27 N19 g_r
  have f28 := f23.same W27
  have f29 := f24.other W27 (Or.inr (slot_ne (Or.inl (hw _ (List.mem_of_getElem? (i := 30) rfl))) (Or.inl (hw _ (List.mem_of_getElem? (i := 12) rfl))) (by decide) (t := .int) (t' := (.array .int)) (by decide) (by decide)))
  have f30 := f25.other W27 (Or.inr (slot_ne (Or.inl (hw _ (List.mem_of_getElem? (i := 19) rfl))) (Or.inl (hw _ (List.mem_of_getElem? (i := 12) rfl))) (by decide) (t := .int) (t' := (.array .int)) (by decide) (by decide)))
  have O27 := O20.wr W27 g_r
  have K27 := K20.wr W27 (Or.inl (List.mem_of_getElem? (i := 0) rfl))
  have f31 := f22.wr W27
  have f35 := V_b20.other W27 (Ne.symm ne21)
  obtain ⟨T36, h36, X36, e36, W36, st36⟩ := putF X27 hx hZ hown (host := "") (Or.inl (hw _ (List.mem_of_getElem? (i := 29) rfl))) Via.refl e27 f29 f31 (Or.inl (hw _ (List.mem_of_getElem? (i := 30) rfl))) (hw _ (List.mem_of_getElem? (i := 1) rfl)) (ty := .int) (by decide) rfl rfl (g := (mkF m 60 #[.val (.ref r0), .val (.ref b20), .val (.int (0 : Int32))] [(.int (0 : Int32)), (.ref r0)])) rfl rfl (hb hby d4_60)
  have Nf36 := Fr.snoc X36 Nf27 g_r
  have f37 := f28.other W36 (Or.inr (slot_ne (Or.inl (hw _ (List.mem_of_getElem? (i := 12) rfl))) (Or.inl (hw _ (List.mem_of_getElem? (i := 30) rfl))) (by decide) (t := (.array .int)) (t' := .int) (by decide) (by decide)))
  have f38 := f29.same W36
  have f39 := f30.other W36 (Or.inr (slot_ne (Or.inl (hw _ (List.mem_of_getElem? (i := 19) rfl))) (Or.inl (hw _ (List.mem_of_getElem? (i := 30) rfl))) (by decide) (t := .int) (t' := .int) (by decide) (by decide)))
  have O36 := O27.wr W36 g_r
  have K36 := K27.wr W36 (Or.inl (List.mem_of_getElem? (i := 0) rfl))
  have f40 := f31.wr W36
  have f41 := f35.other W36 (Ne.symm ne21)
  obtain ⟨fs, hr, hrun, hended, hW, hsame⟩ := X36.leave (v := none) (fun _ => rfl)
  refine ⟨_, _, pre18 _ ?_, hrun, hended, _, _, rfl, ?_, ⟨_, rfl⟩, hW, hsame.mono (by decide) (by decide)⟩
  · show Steps p.tables e below (T16.setTop (mkF m 9 #[.val (.ref r0), .unset, .unset] [(.int (0 : Int32)), (.int (16 : Int32))])) _
    refine st19 _ ?_
    show Steps p.tables e below (T19.setTop (mkF m 12 #[.val (.ref r0), .unset, .unset] [(.int (16 : Int32))])) _
    refine st20 _ ?_
    show Steps p.tables e below (T20.setTop (mkF m 14 #[.val (.ref r0), .unset, .unset] [(.ref b20)])) _
    refine XS.astoreN X20.here hx rfl (hb hby d4_14) rfl rfl (l' := #[.val (.ref r0), .val (.ref b20), .unset]) rfl ?_
    show Steps p.tables e below (T20.setTop (mkF m 15 #[.val (.ref r0), .val (.ref b20), .unset] [])) _
    refine XS.iconst X20.here hx rfl (hb hby d4_15) ?_
    show Steps p.tables e below (T20.setTop (mkF m 16 #[.val (.ref r0), .val (.ref b20), .unset] [(.int (0 : Int32))])) _
    refine XS.istoreN X20.here hx rfl (hb hby d4_16) rfl (l' := #[.val (.ref r0), .val (.ref b20), .val (.int (0 : Int32))]) rfl ?_
    show Steps p.tables e below (T20.setTop (mkF m 17 #[.val (.ref r0), .val (.ref b20), .val (.int (0 : Int32))] [])) _
    refine XS.iloadN X20.here hx rfl (hb hby d4_17) rfl ?_
    show Steps p.tables e below (T20.setTop (mkF m 18 #[.val (.ref r0), .val (.ref b20), .val (.int (0 : Int32))] [(.int (0 : Int32))])) _
    refine XS.aloadN X20.here hx rfl (hb hby d4_18) rfl rfl ?_
    show Steps p.tables e below (T20.setTop (mkF m 19 #[.val (.ref r0), .val (.ref b20), .val (.int (0 : Int32))] [(.ref r0), (.int (0 : Int32))])) _
    refine st26 _ ?_
    show Steps p.tables e below (T26.setTop (mkF m 22 #[.val (.ref r0), .val (.ref b20), .val (.int (0 : Int32))] [(.int (0 : Int32)), (.int (0 : Int32))])) _
    refine XS.icmpYes X26.here hx rfl (pc0 := 22) (pc' := 53) rfl (hb hby d4_22) rfl (flt (by decide : ¬ ((0 : Int32) < (0 : Int32)))).2.1 (by decide) (by decide) ?_
    show Steps p.tables e below (T26.setTop (mkF m 53 #[.val (.ref r0), .val (.ref b20), .val (.int (0 : Int32))] [])) _
    refine XS.aloadN X26.here hx rfl (hb hby d4_53) rfl rfl ?_
    show Steps p.tables e below (T26.setTop (mkF m 54 #[.val (.ref r0), .val (.ref b20), .val (.int (0 : Int32))] [(.ref r0)])) _
    refine XS.aloadN X26.here hx rfl (hb hby d4_54) rfl rfl ?_
    show Steps p.tables e below (T26.setTop (mkF m 55 #[.val (.ref r0), .val (.ref b20), .val (.int (0 : Int32))] [(.ref b20), (.ref r0)])) _
    refine st27 _ ?_
    show Steps p.tables e below (T27.setTop (mkF m 58 #[.val (.ref r0), .val (.ref b20), .val (.int (0 : Int32))] [])) _
    refine XS.aloadN X27.here hx rfl (hb hby d4_58) rfl rfl ?_
    show Steps p.tables e below (T27.setTop (mkF m 59 #[.val (.ref r0), .val (.ref b20), .val (.int (0 : Int32))] [(.ref r0)])) _
    refine XS.iconst X27.here hx rfl (hb hby d4_59) ?_
    show Steps p.tables e below (T27.setTop (mkF m 60 #[.val (.ref r0), .val (.ref b20), .val (.int (0 : Int32))] [(.int (0 : Int32)), (.ref r0)])) _
    refine st36 _ ?_
    show Steps p.tables e below (T36.setTop (mkF m 63 #[.val (.ref r0), .val (.ref b20), .val (.int (0 : Int32))] [])) _
    exact X36.returnOut hx Bd.returns (hb hby d4_63) hr
  · show own_Q4 Z u r0 h0 n0 _ T36.heap _
    rw [e36]
    exact ⟨b20, _, rfl, Nf36, K36, gx_b20, sz_b20, f40, f37, f38, f39, f41⟩
theorem d3_0 : decode prog_46_method_4_code 0 = .ok (.aload_n 0, 1) := by decide +kernel
theorem d3_1 : decode prog_46_method_4_code 1 = .ok (.getfield 16, 3) := by decide +kernel
theorem d3_4 : decode prog_46_method_4_code 4 = .ok (.aload_n 0, 1) := by decide +kernel
theorem d3_5 : decode prog_46_method_4_code 5 = .ok (.getfield 13, 3) := by decide +kernel
theorem d3_8 : decode prog_46_method_4_code 8 = .ok (.arraylength, 1) := by decide +kernel
theorem d3_9 : decode prog_46_method_4_code 9 = .ok (.if_icmp .ne 7, 3) := by decide +kernel
theorem d3_12 : decode prog_46_method_4_code 12 = .ok (.aload_n 0, 1) := by decide +kernel
theorem d3_13 : decode prog_46_method_4_code 13 = .ok (.invokevirtual 20, 3) := by decide +kernel
theorem d3_16 : decode prog_46_method_4_code 16 = .ok (.aload_n 0, 1) := by decide +kernel
theorem d3_17 : decode prog_46_method_4_code 17 = .ok (.getfield 13, 3) := by decide +kernel
theorem d3_20 : decode prog_46_method_4_code 20 = .ok (.aload_n 0, 1) := by decide +kernel
theorem d3_21 : decode prog_46_method_4_code 21 = .ok (.getfield 23, 3) := by decide +kernel
theorem d3_24 : decode prog_46_method_4_code 24 = .ok (.aload_n 0, 1) := by decide +kernel
theorem d3_25 : decode prog_46_method_4_code 25 = .ok (.getfield 16, 3) := by decide +kernel
theorem d3_28 : decode prog_46_method_4_code 28 = .ok (.iadd, 1) := by decide +kernel
theorem d3_29 : decode prog_46_method_4_code 29 = .ok (.aload_n 0, 1) := by decide +kernel
theorem d3_30 : decode prog_46_method_4_code 30 = .ok (.getfield 13, 3) := by decide +kernel
theorem d3_33 : decode prog_46_method_4_code 33 = .ok (.arraylength, 1) := by decide +kernel
theorem d3_34 : decode prog_46_method_4_code 34 = .ok (.iconst 1, 1) := by decide +kernel
theorem d3_35 : decode prog_46_method_4_code 35 = .ok (.isub, 1) := by decide +kernel
theorem d3_36 : decode prog_46_method_4_code 36 = .ok (.iand, 1) := by decide +kernel
theorem d3_37 : decode prog_46_method_4_code 37 = .ok (.iload_n 1, 1) := by decide +kernel
theorem d3_38 : decode prog_46_method_4_code 38 = .ok (.iastore, 1) := by decide +kernel
theorem d3_39 : decode prog_46_method_4_code 39 = .ok (.aload_n 0, 1) := by decide +kernel
theorem d3_40 : decode prog_46_method_4_code 40 = .ok (.dup, 1) := by decide +kernel
theorem d3_41 : decode prog_46_method_4_code 41 = .ok (.getfield 16, 3) := by decide +kernel
theorem d3_44 : decode prog_46_method_4_code 44 = .ok (.iconst 1, 1) := by decide +kernel
theorem d3_45 : decode prog_46_method_4_code 45 = .ok (.iadd, 1) := by decide +kernel
theorem d3_46 : decode prog_46_method_4_code 46 = .ok (.putfield 16, 3) := by decide +kernel
theorem d3_49 : decode prog_46_method_4_code 49 = .ok (.return_, 1) := by decide +kernel
theorem own_pn_3 : plainName "com/example/wakachi/wakachi/match/IntDeque" = true := by first | (simp [plainName, overriddenIn]; done) | decide +kernel
theorem own_ef_add0 (m : MethodId) (x0 : Addr) (x1 : Int32) : entryFrame m #[(.ref x0), (.int x1)] 2 = mkF m 0 #[.val (.ref x0), .val (.int x1)] [] := by first | (simp [entryFrame, mkF, argsToLocals, Value.category]; done) | rfl
def own_Qadd0 (Z : State) (u : Nat → Addr) (r0 : Addr) (p1 : Int32) (h0 : Heap) (n0 : Nat) (v : Option Value) (h : Heap) (L : List Loc) : Prop := ∃ (b : Addr) (k : ClassId), v = none ∧ Fr n0 L ∧ Keep h0 h [r0] ∧ n0 ≤ b ∧ h0.size ≤ b ∧ Exa Z h r0 "com/example/wakachi/wakachi/match/IntDeque" ∧ Fld Z h r0 "com/example/wakachi/wakachi/match/IntDeque" "ring" "[I" (.ref b) ∧ Fld Z h r0 "com/example/wakachi/wakachi/match/IntDeque" "head" "I" (.int 0) ∧ Fld Z h r0 "com/example/wakachi/wakachi/match/IntDeque" "size" "I" (.int 1) ∧ Arv Z h b k .int (16 : Int32) [.int p1, .int (0 : Int32), .int (0 : Int32), .int (0 : Int32), .int (0 : Int32), .int (0 : Int32), .int (0 : Int32), .int (0 : Int32), .int (0 : Int32), .int (0 : Int32), .int (0 : Int32), .int (0 : Int32), .int (0 : Int32), .int (0 : Int32), .int (0 : Int32), .int (0 : Int32)] (.int (0 : Int32))
set_option maxRecDepth 65536 in
set_option maxHeartbeats 40000000 in
theorem rmadd0 (l : Launch) (Z : State) (a0 : Array Value) (hw : ∀ d ∈ tables_1, d.before a0 Z = true) (ws : List Jvm.Cond) (u : Nat → Addr) (r0 : Addr) (p1 : Int32) (B : own_Base Z u) (h0 : Heap) (n0 : Nat) (O : Old Z n0 h0) (E_r : Exa Z h0 r0 "com/example/wakachi/wakachi/match/IntDeque") (F_ring : Fld Z h0 r0 "com/example/wakachi/wakachi/match/IntDeque" "ring" "[I" (.ref (u 0))) (F_head : Fld Z h0 r0 "com/example/wakachi/wakachi/match/IntDeque" "head" "I" (.int (0 : Int32))) (F_size : Fld Z h0 r0 "com/example/wakachi/wakachi/match/IntDeque" "size" "I" (.int (0 : Int32))) (g_r : n0 ≤ r0) :
    MetFree l (⟨"com/example/wakachi/wakachi/match/IntDeque", "add", "(I)V"⟩ : MethodName) (head1 (Jvm.Cond.code (⟨"com/example/wakachi/wakachi/match/IntDeque", "add", "(I)V"⟩ : MethodName) prog_46_method_4_code 2 none :: ws) ({ frames := 2, cells := 1, slots := 16, locals := 27 } : Room)) (fun a U => a = #[(.ref r0), (.int p1)] ∧ Z.Warmed39 U.vm ∧ U.heap = h0) (fun _ _ _ _ _ => True) (fun _ U o U' => ∃ v L, o = .returned v ∧ own_Qadd0 Z u r0 p1 h0 n0 v U'.heap L ∧ FrameEnd U o U' L ({ frames := 2, cells := 1, slots := 16, locals := 27 } : Room).cells ({ frames := 2, cells := 1, slots := 16, locals := 27 } : Room).slots) := by
  refine MetFree.of_bodySF (plainFor_of_name own_pn_3) hisR ?_
  intro p e s m args below meth c s₁ Bd hml0 hP hK
  obtain ⟨rfl, hZ, hh⟩ := hP
  have hx := Bd.exec
  have hby := Bd.bytes
  have hml : c.maxLocals = 2 := hml0
  have hown : s.vm.findClass "com/example/wakachi/wakachi/match/IntDeque" = some m.cls := findClass_of_methodNamed Bd.named
  have hnm := (name_of_methodNamed Bd.named Bd.method).1
  have X0 : Stand p l e ({ frames := 2, cells := 1, slots := 16, locals := 27 } : Room) s m #[(.ref r0), (.int p1)] below meth c s₁ [] 0 0 := Stand.of_body Bd
  have e0 : s₁.heap = h0 := by rw [← hh, Bd.state]; rfl
  have N0 := Fr.nil n0
  have K0 := Keep.refl h0 [r0]
  have Z0 : n0 ≤ h0.size := O.1 ▸ O.2.1
  have pre0 : ∀ t, Steps p.tables e below (s₁.setTop (mkF m 0 #[.val (.ref r0), .val (.int p1)] [])) t → Steps p.tables e below (s₁.setTop (entryFrame m #[(.ref r0), (.int p1)] 2)) t := fun t k => castTop (own_ef_add0 m r0 p1) k
  obtain ⟨T46, X46, e46, st46⟩ := getF X0 hx hZ hown (host := "") (Or.inl (hw _ (List.mem_of_getElem? (i := 18) rfl))) Via.refl e0 F_size (g := (mkF m 1 #[.val (.ref r0), .val (.int p1)] [(.ref r0)])) rfl rfl (hb hby d3_1)
  obtain ⟨T47, X47, e47, st47⟩ := getF X46 hx hZ hown (host := "") (Or.inl (hw _ (List.mem_of_getElem? (i := 11) rfl))) Via.refl e46 F_ring (g := (mkF m 5 #[.val (.ref r0), .val (.int p1)] [(.ref r0), (.int (0 : Int32))])) rfl rfl (hb hby d3_5)
  obtain ⟨kA0, VA0⟩ := id B.2
  obtain ⟨cl48, Ar48, -, S48, N48, -, -⟩ := id (VA0.ext O.2)
  obtain ⟨cq49, q49, q49'⟩ := E_r.cell
  obtain ⟨vr49, _, ⟨T49, L49, k49, n49⟩, -, X49, ⟨Lc49, hQ49, l49, y49, z49⟩, st49⟩ := X47.privateBack hx (y := (⟨"com/example/wakachi/wakachi/match/IntDeque", "grow", "()V"⟩ : MethodName)) hown (mvT hZ (hw _ (List.mem_of_getElem? (i := 20) rfl))) (mvT hZ (hw _ (List.mem_of_getElem? (i := 21) rfl))) (mvT hZ (own_selpriv (y := (⟨"com/example/wakachi/wakachi/match/IntDeque", "grow", "()V"⟩ : MethodName)) (by decide) (hw _ (List.mem_of_getElem? (i := 1) rfl)) (hw _ (List.mem_of_getElem? (i := 22) rfl)) (hw _ (List.mem_of_getElem? (i := 21) rfl)))) (Cond.privateMethod_at (mvP hZ (hw _ (List.mem_of_getElem? (i := 22) rfl)) (args := #[]))) (mvT hZ (hw _ (List.mem_of_getElem? (i := 23) rfl))) (by decide) (backOf (W := 0) (rm4 l Z a0 hw [] u r0 B h0 n0 O E_r F_ring F_head F_size g_r) hZ (hw _ (List.mem_of_getElem? (i := 23) rfl)) (hw _ (List.mem_of_getElem? (i := 2) rfl)) (by decide) (by decide)) (g := (mkF m 13 #[.val (.ref r0), .val (.int p1)] [(.ref r0)])) rfl (by rw [hml]; rfl) (Steps.refl _) (a := r0) (by rw [e47]; exact q49) q49' (argsL := []) (rest := []) (lenOf own_pd1 rfl) rfl (by show 2 * 0 + _ ≤ _; exact Nat.le_of_eq rfl) (hb hby d3_13) (fun _ _ => ⟨rfl, e47, (by decide : 0 + 1 ≤ _), (by decide : 0 + 16 ≤ _)⟩)
  dsimp only [Pt.U, Pt.locs, Pt.cells, Pt.slots] at X49 l49 y49 z49 st49 hQ49
  subst l49 y49 z49
  obtain ⟨b49, k49v, rfl, N49q, Kq49, gx_b49, zz49, x49E, x49r, x49h, x49s, V_b49⟩ := hQ49
  have N49 := Fr.app N0 N49q
  have sz_b49 : h0.size ≤ b49 := Nat.le_trans K0.1 zz49
  have ne50 : r0 ≠ b49 := Nat.ne_of_lt (Nat.lt_of_lt_of_le F_size.lt zz49)
  have O49 := O.keep Kq49 (allS g_r all0)
  have K49 := Keep.trans K0 Kq49 (allS (Or.inl (List.mem_of_getElem? (i := 0) rfl)) all0)
  have x49h' : Fld Z T49.heap r0 "com/example/wakachi/wakachi/match/IntDeque" "head" "I" (.int (0 : Int32)) := x49h
  have x49s' : Fld Z T49.heap r0 "com/example/wakachi/wakachi/match/IntDeque" "size" "I" (.int (0 : Int32)) := x49s
  obtain ⟨T51, X51, e51, st51⟩ := getF X49 hx hZ hown (host := "") (Or.inl (hw _ (List.mem_of_getElem? (i := 11) rfl))) Via.refl rfl x49r (g := (mkF m 17 #[.val (.ref r0), .val (.int p1)] [(.ref r0)])) rfl rfl (hb hby d3_17)
  obtain ⟨T52, X52, e52, st52⟩ := getF X51 hx hZ hown (host := "") (Or.inl (hw _ (List.mem_of_getElem? (i := 29) rfl))) Via.refl e51 x49h' (g := (mkF m 21 #[.val (.ref r0), .val (.int p1)] [(.ref r0), (.ref b49)])) rfl rfl (hb hby d3_21)
  obtain ⟨T53, X53, e53, st53⟩ := getF X52 hx hZ hown (host := "") (Or.inl (hw _ (List.mem_of_getElem? (i := 18) rfl))) Via.refl e52 x49s' (g := (mkF m 25 #[.val (.ref r0), .val (.int p1)] [(.ref r0), (.int (0 : Int32)), (.ref b49)])) rfl rfl (hb hby d3_25)
  obtain ⟨T54, X54, e54, st54⟩ := getF X53 hx hZ hown (host := "") (Or.inl (hw _ (List.mem_of_getElem? (i := 11) rfl))) Via.refl e53 x49r (g := (mkF m 30 #[.val (.ref r0), .val (.int p1)] [(.ref r0), (.int (0 : Int32)), (.ref b49)])) rfl rfl (hb hby d3_30)
  obtain ⟨cl55, Ar55, -, S55, N55, -, -⟩ := id V_b49
  obtain ⟨cl56, Ar56, q56, S56, N56, H56, G56⟩ := id V_b49
  have hin56 : ¬ ((0 : Int32) < 0 ∨ cl56.slots.size ≤ ((0 : Int32)).toNatClampNeg) := inb_of S56 ⟨by decide, by decide⟩
  obtain ⟨T57, h57, X57, e57, W57, st57⟩ := stI X54 hx hZ e54 Ar56 (j := (0 : Int32)) hin56 (g := (mkF m 38 #[.val (.ref r0), .val (.int p1)] [(.int p1), (.int (0 : Int32)), (.ref b49)])) rfl rfl (hb hby d3_38)
  have Nf57 := Fr.snoc X57 N49 gx_b49
  have V57 : Arv Z h57 b49 k49v .int (16 : Int32) [.int p1, .int (0 : Int32), .int (0 : Int32), .int (0 : Int32), .int (0 : Int32), .int (0 : Int32), .int (0 : Int32), .int (0 : Int32), .int (0 : Int32), .int (0 : Int32), .int (0 : Int32), .int (0 : Int32), .int (0 : Int32), .int (0 : Int32), .int (0 : Int32), .int (0 : Int32)] (.int (0 : Int32)) := Arv.set Ar56 q56 S56 N56 H56 G56 rfl W57 0 rfl (Nat.le_of_ble_eq_true rfl)
  have O57 := O49.wr W57 gx_b49
  have K57 := K49.wr W57 (Or.inr sz_b49)
  have f59 := x49E.wr W57
  have f60 := x49r.other W57 (Or.inl ne50)
  have f61 := x49h'.other W57 (Or.inl ne50)
  have f62 := x49s'.other W57 (Or.inl ne50)
  obtain ⟨T64, X64, e64, st64⟩ := getF X57 hx hZ hown (host := "") (Or.inl (hw _ (List.mem_of_getElem? (i := 18) rfl))) Via.refl e57 f62 (g := (mkF m 41 #[.val (.ref r0), .val (.int p1)] [(.ref r0), (.ref r0)])) rfl rfl (hb hby d3_41)
  obtain ⟨T65, h65, X65, e65, W65, st65⟩ := putF X64 hx hZ hown (host := "") (Or.inl (hw _ (List.mem_of_getElem? (i := 18) rfl))) Via.refl e64 f62 f59 (Or.inl (hw _ (List.mem_of_getElem? (i := 19) rfl))) (hw _ (List.mem_of_getElem? (i := 1) rfl)) (ty := .int) (by decide) rfl rfl (g := (mkF m 46 #[.val (.ref r0), .val (.int p1)] [(.int (1 : Int32)), (.ref r0)])) rfl rfl (hb hby d3_46)
  have Nf65 := Fr.snoc X65 Nf57 g_r
  have f66 := f60.other W65 (Or.inr (slot_ne (Or.inl (hw _ (List.mem_of_getElem? (i := 12) rfl))) (Or.inl (hw _ (List.mem_of_getElem? (i := 19) rfl))) (by decide) (t := (.array .int)) (t' := .int) (by decide) (by decide)))
  have f67 := f61.other W65 (Or.inr (slot_ne (Or.inl (hw _ (List.mem_of_getElem? (i := 30) rfl))) (Or.inl (hw _ (List.mem_of_getElem? (i := 19) rfl))) (by decide) (t := .int) (t' := .int) (by decide) (by decide)))
  have f68 := f62.same W65
  have O65 := O57.wr W65 g_r
  have K65 := K57.wr W65 (Or.inl (List.mem_of_getElem? (i := 0) rfl))
  have f69 := f59.wr W65
  have f73 := V57.other W65 (Ne.symm ne50)
  obtain ⟨fs, hr, hrun, hended, hW, hsame⟩ := X65.leave (v := none) (fun _ => rfl)
  refine ⟨_, _, pre0 _ ?_, hrun, hended, _, _, rfl, ?_, ⟨_, rfl⟩, hW, hsame.mono (by decide) (by decide)⟩
  · show Steps p.tables e below (s₁.setTop (mkF m 0 #[.val (.ref r0), .val (.int p1)] [])) _
    refine XS.aloadN X0.here hx rfl (hb hby d3_0) rfl rfl ?_
    show Steps p.tables e below (s₁.setTop (mkF m 1 #[.val (.ref r0), .val (.int p1)] [(.ref r0)])) _
    refine st46 _ ?_
    show Steps p.tables e below (T46.setTop (mkF m 4 #[.val (.ref r0), .val (.int p1)] [(.int (0 : Int32))])) _
    refine XS.aloadN X46.here hx rfl (hb hby d3_4) rfl rfl ?_
    show Steps p.tables e below (T46.setTop (mkF m 5 #[.val (.ref r0), .val (.int p1)] [(.ref r0), (.int (0 : Int32))])) _
    refine st47 _ ?_
    show Steps p.tables e below (T47.setTop (mkF m 8 #[.val (.ref r0), .val (.int p1)] [(.ref (u 0)), (.int (0 : Int32))])) _
    refine X47.arraylength hx (by rw [e47]; exact Ar48.1) (State.isArrayOf_alike hZ.alike Ar48.2.1) (g := (mkF m 8 #[.val (.ref r0), .val (.int p1)] [(.ref (u 0)), (.int (0 : Int32))])) rfl rfl (hb hby d3_8) _ ?_
    rw [len_of S48 N48]
    show Steps p.tables e below (T47.setTop (mkF m 9 #[.val (.ref r0), .val (.int p1)] [(.int (0 : Int32)), (.int (0 : Int32))])) _
    refine XS.icmpNo X47.here hx rfl (hb hby d3_9) rfl (teq (by decide : (0 : Int32) = (0 : Int32))).2 ?_
    show Steps p.tables e below (T47.setTop (mkF m 12 #[.val (.ref r0), .val (.int p1)] [])) _
    refine XS.aloadN X47.here hx rfl (hb hby d3_12) rfl rfl ?_
    show Steps p.tables e below (T47.setTop (mkF m 13 #[.val (.ref r0), .val (.int p1)] [(.ref r0)])) _
    refine st49.trans ?_
    show Steps p.tables e below (T49.setTop (mkF m 16 #[.val (.ref r0), .val (.int p1)] [])) _
    refine XS.aloadN X49.here hx rfl (hb hby d3_16) rfl rfl ?_
    show Steps p.tables e below (T49.setTop (mkF m 17 #[.val (.ref r0), .val (.int p1)] [(.ref r0)])) _
    refine st51 _ ?_
    show Steps p.tables e below (T51.setTop (mkF m 20 #[.val (.ref r0), .val (.int p1)] [(.ref b49)])) _
    refine XS.aloadN X51.here hx rfl (hb hby d3_20) rfl rfl ?_
    show Steps p.tables e below (T51.setTop (mkF m 21 #[.val (.ref r0), .val (.int p1)] [(.ref r0), (.ref b49)])) _
    refine st52 _ ?_
    show Steps p.tables e below (T52.setTop (mkF m 24 #[.val (.ref r0), .val (.int p1)] [(.int (0 : Int32)), (.ref b49)])) _
    refine XS.aloadN X52.here hx rfl (hb hby d3_24) rfl rfl ?_
    show Steps p.tables e below (T52.setTop (mkF m 25 #[.val (.ref r0), .val (.int p1)] [(.ref r0), (.int (0 : Int32)), (.ref b49)])) _
    refine st53 _ ?_
    show Steps p.tables e below (T53.setTop (mkF m 28 #[.val (.ref r0), .val (.int p1)] [(.int (0 : Int32)), (.int (0 : Int32)), (.ref b49)])) _
    refine XS.iadd X53.here hx rfl (hb hby d3_28) rfl ?_
    show Steps p.tables e below (T53.setTop (mkF m 29 #[.val (.ref r0), .val (.int p1)] [(.int (0 : Int32)), (.ref b49)])) _
    refine XS.aloadN X53.here hx rfl (hb hby d3_29) rfl rfl ?_
    show Steps p.tables e below (T53.setTop (mkF m 30 #[.val (.ref r0), .val (.int p1)] [(.ref r0), (.int (0 : Int32)), (.ref b49)])) _
    refine st54 _ ?_
    show Steps p.tables e below (T54.setTop (mkF m 33 #[.val (.ref r0), .val (.int p1)] [(.ref b49), (.int (0 : Int32)), (.ref b49)])) _
    refine X54.arraylength hx (by rw [e54]; exact Ar55.1) (State.isArrayOf_alike hZ.alike Ar55.2.1) (g := (mkF m 33 #[.val (.ref r0), .val (.int p1)] [(.ref b49), (.int (0 : Int32)), (.ref b49)])) rfl rfl (hb hby d3_33) _ ?_
    rw [len_of S55 N55]
    show Steps p.tables e below (T54.setTop (mkF m 34 #[.val (.ref r0), .val (.int p1)] [(.int (16 : Int32)), (.int (0 : Int32)), (.ref b49)])) _
    refine XS.iconst X54.here hx rfl (hb hby d3_34) ?_
    show Steps p.tables e below (T54.setTop (mkF m 35 #[.val (.ref r0), .val (.int p1)] [(.int (1 : Int32)), (.int (16 : Int32)), (.int (0 : Int32)), (.ref b49)])) _
    refine XS.isub X54.here hx rfl (hb hby d3_35) rfl ?_
    show Steps p.tables e below (T54.setTop (mkF m 36 #[.val (.ref r0), .val (.int p1)] [(.int (15 : Int32)), (.int (0 : Int32)), (.ref b49)])) _
    refine XS.iand X54.here hx rfl (hb hby d3_36) rfl ?_
    show Steps p.tables e below (T54.setTop (mkF m 37 #[.val (.ref r0), .val (.int p1)] [(.int (0 : Int32)), (.ref b49)])) _
    refine XS.iloadN X54.here hx rfl (hb hby d3_37) rfl ?_
    show Steps p.tables e below (T54.setTop (mkF m 38 #[.val (.ref r0), .val (.int p1)] [(.int p1), (.int (0 : Int32)), (.ref b49)])) _
    refine st57 _ ?_
    show Steps p.tables e below (T57.setTop (mkF m 39 #[.val (.ref r0), .val (.int p1)] [])) _
    refine XS.aloadN X57.here hx rfl (hb hby d3_39) rfl rfl ?_
    show Steps p.tables e below (T57.setTop (mkF m 40 #[.val (.ref r0), .val (.int p1)] [(.ref r0)])) _
    refine XS.dup X57.here hx rfl (hb hby d3_40) rfl rfl ?_
    show Steps p.tables e below (T57.setTop (mkF m 41 #[.val (.ref r0), .val (.int p1)] [(.ref r0), (.ref r0)])) _
    refine st64 _ ?_
    show Steps p.tables e below (T64.setTop (mkF m 44 #[.val (.ref r0), .val (.int p1)] [(.int (0 : Int32)), (.ref r0)])) _
    refine XS.iconst X64.here hx rfl (hb hby d3_44) ?_
    show Steps p.tables e below (T64.setTop (mkF m 45 #[.val (.ref r0), .val (.int p1)] [(.int (1 : Int32)), (.int (0 : Int32)), (.ref r0)])) _
    refine XS.iadd X64.here hx rfl (hb hby d3_45) rfl ?_
    show Steps p.tables e below (T64.setTop (mkF m 46 #[.val (.ref r0), .val (.int p1)] [(.int (1 : Int32)), (.ref r0)])) _
    refine st65 _ ?_
    show Steps p.tables e below (T65.setTop (mkF m 49 #[.val (.ref r0), .val (.int p1)] [])) _
    exact X65.returnOut hx Bd.returns (hb hby d3_49) hr
  · show own_Qadd0 Z u r0 p1 h0 n0 _ T65.heap _
    rw [e65]
    exact ⟨b49, _, rfl, Nf65, K65, gx_b49, sz_b49, f69, f66, f67, f68, f73⟩
theorem own_ef_addN (m : MethodId) (x0 : Addr) (x1 : Int32) : entryFrame m #[(.ref x0), (.int x1)] 2 = mkF m 0 #[.val (.ref x0), .val (.int x1)] [] := by first | (simp [entryFrame, mkF, argsToLocals, Value.category]; done) | rfl
def own_QaddN (Z : State) (u : Nat → Addr) (r0 : Addr) (p1 : Int32) (rb : Addr) (hd : Int32) (sz : Int32) (k : ClassId) (vs : List Value) (i : Nat) (h0 : Heap) (n0 : Nat) (v : Option Value) (h : Heap) (L : List Loc) : Prop := v = none ∧ Fr n0 L ∧ Keep h0 h [r0, rb] ∧ Exa Z h r0 "com/example/wakachi/wakachi/match/IntDeque" ∧ Fld Z h r0 "com/example/wakachi/wakachi/match/IntDeque" "ring" "[I" (.ref rb) ∧ Fld Z h r0 "com/example/wakachi/wakachi/match/IntDeque" "head" "I" (.int hd) ∧ Fld Z h r0 "com/example/wakachi/wakachi/match/IntDeque" "size" "I" (.int (sz + 1)) ∧ Arv Z h rb k .int (16 : Int32) (vs.set i (.int p1)) (.int (0 : Int32))
set_option maxRecDepth 65536 in
set_option maxHeartbeats 40000000 in
theorem rmaddN (l : Launch) (Z : State) (a0 : Array Value) (hw : ∀ d ∈ tables_1, d.before a0 Z = true) (ws : List Jvm.Cond) (u : Nat → Addr) (r0 : Addr) (p1 : Int32) (rb : Addr) (hd : Int32) (sz : Int32) (k : ClassId) (vs : List Value) (i : Nat) (B : own_Base Z u) (h0 : Heap) (n0 : Nat) (O : Old Z n0 h0) (E_r : Exa Z h0 r0 "com/example/wakachi/wakachi/match/IntDeque") (F_ring : Fld Z h0 r0 "com/example/wakachi/wakachi/match/IntDeque" "ring" "[I" (.ref rb)) (F_head : Fld Z h0 r0 "com/example/wakachi/wakachi/match/IntDeque" "head" "I" (.int hd)) (F_size : Fld Z h0 r0 "com/example/wakachi/wakachi/match/IntDeque" "size" "I" (.int sz)) (g_r : n0 ≤ r0) (g_b : n0 ≤ rb) (ne_b : r0 ≠ rb) (V_b : Arv Z h0 rb k .int (16 : Int32) vs (.int (0 : Int32))) (hs : ¬ sz = (16 : Int32)) (hj : ¬ ((hd + sz) &&& (15 : Int32)) < 0 ∧ ((hd + sz) &&& (15 : Int32)) < (16 : Int32)) (hi : ((hd + sz) &&& (15 : Int32)).toNatClampNeg = i) (hl : i < vs.length) :
    MetFree l (⟨"com/example/wakachi/wakachi/match/IntDeque", "add", "(I)V"⟩ : MethodName) (head1 (Jvm.Cond.code (⟨"com/example/wakachi/wakachi/match/IntDeque", "add", "(I)V"⟩ : MethodName) prog_46_method_4_code 2 none :: ws) ({ frames := 0, cells := 0, slots := 0, locals := 0 } : Room)) (fun a U => a = #[(.ref r0), (.int p1)] ∧ Z.Warmed39 U.vm ∧ U.heap = h0) (fun _ _ _ _ _ => True) (fun _ U o U' => ∃ v L, o = .returned v ∧ own_QaddN Z u r0 p1 rb hd sz k vs i h0 n0 v U'.heap L ∧ FrameEnd U o U' L ({ frames := 0, cells := 0, slots := 0, locals := 0 } : Room).cells ({ frames := 0, cells := 0, slots := 0, locals := 0 } : Room).slots) := by
  refine MetFree.of_bodySF (plainFor_of_name own_pn_3) hisR ?_
  intro p e s m args below meth c s₁ Bd hml0 hP hK
  obtain ⟨rfl, hZ, hh⟩ := hP
  have hx := Bd.exec
  have hby := Bd.bytes
  have hml : c.maxLocals = 2 := hml0
  have hown : s.vm.findClass "com/example/wakachi/wakachi/match/IntDeque" = some m.cls := findClass_of_methodNamed Bd.named
  have hnm := (name_of_methodNamed Bd.named Bd.method).1
  have X0 : Stand p l e ({ frames := 0, cells := 0, slots := 0, locals := 0 } : Room) s m #[(.ref r0), (.int p1)] below meth c s₁ [] 0 0 := Stand.of_body Bd
  have e0 : s₁.heap = h0 := by rw [← hh, Bd.state]; rfl
  have N0 := Fr.nil n0
  have K0 := Keep.refl h0 [r0, rb]
  have Z0 : n0 ≤ h0.size := O.1 ▸ O.2.1
  have pre0 : ∀ t, Steps p.tables e below (s₁.setTop (mkF m 0 #[.val (.ref r0), .val (.int p1)] [])) t → Steps p.tables e below (s₁.setTop (entryFrame m #[(.ref r0), (.int p1)] 2)) t := fun t k => castTop (own_ef_addN m r0 p1) k
  obtain ⟨T75, X75, e75, st75⟩ := getF X0 hx hZ hown (host := "") (Or.inl (hw _ (List.mem_of_getElem? (i := 18) rfl))) Via.refl e0 F_size (g := (mkF m 1 #[.val (.ref r0), .val (.int p1)] [(.ref r0)])) rfl rfl (hb hby d3_1)
  obtain ⟨T76, X76, e76, st76⟩ := getF X75 hx hZ hown (host := "") (Or.inl (hw _ (List.mem_of_getElem? (i := 11) rfl))) Via.refl e75 F_ring (g := (mkF m 5 #[.val (.ref r0), .val (.int p1)] [(.ref r0), (.int sz)])) rfl rfl (hb hby d3_5)
  obtain ⟨cl77, Ar77, -, S77, N77, -, -⟩ := id V_b
  obtain ⟨T78, X78, e78, st78⟩ := getF X76 hx hZ hown (host := "") (Or.inl (hw _ (List.mem_of_getElem? (i := 11) rfl))) Via.refl e76 F_ring (g := (mkF m 17 #[.val (.ref r0), .val (.int p1)] [(.ref r0)])) rfl rfl (hb hby d3_17)
  obtain ⟨T79, X79, e79, st79⟩ := getF X78 hx hZ hown (host := "") (Or.inl (hw _ (List.mem_of_getElem? (i := 29) rfl))) Via.refl e78 F_head (g := (mkF m 21 #[.val (.ref r0), .val (.int p1)] [(.ref r0), (.ref rb)])) rfl rfl (hb hby d3_21)
  obtain ⟨T80, X80, e80, st80⟩ := getF X79 hx hZ hown (host := "") (Or.inl (hw _ (List.mem_of_getElem? (i := 18) rfl))) Via.refl e79 F_size (g := (mkF m 25 #[.val (.ref r0), .val (.int p1)] [(.ref r0), (.int hd), (.ref rb)])) rfl rfl (hb hby d3_25)
  obtain ⟨T81, X81, e81, st81⟩ := getF X80 hx hZ hown (host := "") (Or.inl (hw _ (List.mem_of_getElem? (i := 11) rfl))) Via.refl e80 F_ring (g := (mkF m 30 #[.val (.ref r0), .val (.int p1)] [(.ref r0), (.int (hd + sz)), (.ref rb)])) rfl rfl (hb hby d3_30)
  obtain ⟨cl82, Ar82, -, S82, N82, -, -⟩ := id V_b
  obtain ⟨cl84, Ar84, q84, S84, N84, H84, G84⟩ := id V_b
  have hin84 : ¬ (((hd + sz) &&& (15 : Int32)) < 0 ∨ cl84.slots.size ≤ (((hd + sz) &&& (15 : Int32))).toNatClampNeg) := inb_of S84 hj
  obtain ⟨T85, h85, X85, e85, W85, st85⟩ := stI X81 hx hZ e81 Ar84 (j := ((hd + sz) &&& (15 : Int32))) hin84 (g := (mkF m 38 #[.val (.ref r0), .val (.int p1)] [(.int p1), (.int ((hd + sz) &&& (15 : Int32))), (.ref rb)])) rfl rfl (hb hby d3_38)
  have Nf85 := Fr.snoc X85 N0 g_b
  have V85 : Arv Z h85 rb k .int (16 : Int32) (vs.set i (.int p1)) (.int (0 : Int32)) := Arv.set Ar84 q84 S84 N84 H84 G84 rfl W85 i hi hl
  have O85 := O.wr W85 g_b
  have K85 := K0.wr W85 (Or.inl (List.mem_of_getElem? (i := 1) rfl))
  have f86 := E_r.wr W85
  have f87 := F_ring.other W85 (Or.inl ne_b)
  have f88 := F_head.other W85 (Or.inl ne_b)
  have f89 := F_size.other W85 (Or.inl ne_b)
  obtain ⟨T91, X91, e91, st91⟩ := getF X85 hx hZ hown (host := "") (Or.inl (hw _ (List.mem_of_getElem? (i := 18) rfl))) Via.refl e85 f89 (g := (mkF m 41 #[.val (.ref r0), .val (.int p1)] [(.ref r0), (.ref r0)])) rfl rfl (hb hby d3_41)
  obtain ⟨T92, h92, X92, e92, W92, st92⟩ := putF X91 hx hZ hown (host := "") (Or.inl (hw _ (List.mem_of_getElem? (i := 18) rfl))) Via.refl e91 f89 f86 (Or.inl (hw _ (List.mem_of_getElem? (i := 19) rfl))) (hw _ (List.mem_of_getElem? (i := 1) rfl)) (ty := .int) (by decide) rfl rfl (g := (mkF m 46 #[.val (.ref r0), .val (.int p1)] [(.int (sz + (1 : Int32))), (.ref r0)])) rfl rfl (hb hby d3_46)
  have Nf92 := Fr.snoc X92 Nf85 g_r
  have f93 := f87.other W92 (Or.inr (slot_ne (Or.inl (hw _ (List.mem_of_getElem? (i := 12) rfl))) (Or.inl (hw _ (List.mem_of_getElem? (i := 19) rfl))) (by decide) (t := (.array .int)) (t' := .int) (by decide) (by decide)))
  have f94 := f88.other W92 (Or.inr (slot_ne (Or.inl (hw _ (List.mem_of_getElem? (i := 30) rfl))) (Or.inl (hw _ (List.mem_of_getElem? (i := 19) rfl))) (by decide) (t := .int) (t' := .int) (by decide) (by decide)))
  have f95 := f89.same W92
  have O92 := O85.wr W92 g_r
  have K92 := K85.wr W92 (Or.inl (List.mem_of_getElem? (i := 0) rfl))
  have f96 := f86.wr W92
  have f100 := V85.other W92 (Ne.symm ne_b)
  obtain ⟨fs, hr, hrun, hended, hW, hsame⟩ := X92.leave (v := none) (fun _ => rfl)
  refine ⟨_, _, pre0 _ ?_, hrun, hended, _, _, rfl, ?_, ⟨_, rfl⟩, hW, hsame.mono (by decide) (by decide)⟩
  · show Steps p.tables e below (s₁.setTop (mkF m 0 #[.val (.ref r0), .val (.int p1)] [])) _
    refine XS.aloadN X0.here hx rfl (hb hby d3_0) rfl rfl ?_
    show Steps p.tables e below (s₁.setTop (mkF m 1 #[.val (.ref r0), .val (.int p1)] [(.ref r0)])) _
    refine st75 _ ?_
    show Steps p.tables e below (T75.setTop (mkF m 4 #[.val (.ref r0), .val (.int p1)] [(.int sz)])) _
    refine XS.aloadN X75.here hx rfl (hb hby d3_4) rfl rfl ?_
    show Steps p.tables e below (T75.setTop (mkF m 5 #[.val (.ref r0), .val (.int p1)] [(.ref r0), (.int sz)])) _
    refine st76 _ ?_
    show Steps p.tables e below (T76.setTop (mkF m 8 #[.val (.ref r0), .val (.int p1)] [(.ref rb), (.int sz)])) _
    refine X76.arraylength hx (by rw [e76]; exact Ar77.1) (State.isArrayOf_alike hZ.alike Ar77.2.1) (g := (mkF m 8 #[.val (.ref r0), .val (.int p1)] [(.ref rb), (.int sz)])) rfl rfl (hb hby d3_8) _ ?_
    rw [len_of S77 N77]
    show Steps p.tables e below (T76.setTop (mkF m 9 #[.val (.ref r0), .val (.int p1)] [(.int (16 : Int32)), (.int sz)])) _
    refine XS.icmpYes X76.here hx rfl (pc0 := 9) (pc' := 16) rfl (hb hby d3_9) rfl (feq hs).2 (by decide) (by decide) ?_
    show Steps p.tables e below (T76.setTop (mkF m 16 #[.val (.ref r0), .val (.int p1)] [])) _
    refine XS.aloadN X76.here hx rfl (hb hby d3_16) rfl rfl ?_
    show Steps p.tables e below (T76.setTop (mkF m 17 #[.val (.ref r0), .val (.int p1)] [(.ref r0)])) _
    refine st78 _ ?_
    show Steps p.tables e below (T78.setTop (mkF m 20 #[.val (.ref r0), .val (.int p1)] [(.ref rb)])) _
    refine XS.aloadN X78.here hx rfl (hb hby d3_20) rfl rfl ?_
    show Steps p.tables e below (T78.setTop (mkF m 21 #[.val (.ref r0), .val (.int p1)] [(.ref r0), (.ref rb)])) _
    refine st79 _ ?_
    show Steps p.tables e below (T79.setTop (mkF m 24 #[.val (.ref r0), .val (.int p1)] [(.int hd), (.ref rb)])) _
    refine XS.aloadN X79.here hx rfl (hb hby d3_24) rfl rfl ?_
    show Steps p.tables e below (T79.setTop (mkF m 25 #[.val (.ref r0), .val (.int p1)] [(.ref r0), (.int hd), (.ref rb)])) _
    refine st80 _ ?_
    show Steps p.tables e below (T80.setTop (mkF m 28 #[.val (.ref r0), .val (.int p1)] [(.int sz), (.int hd), (.ref rb)])) _
    refine XS.iadd X80.here hx rfl (hb hby d3_28) rfl ?_
    show Steps p.tables e below (T80.setTop (mkF m 29 #[.val (.ref r0), .val (.int p1)] [(.int (hd + sz)), (.ref rb)])) _
    refine XS.aloadN X80.here hx rfl (hb hby d3_29) rfl rfl ?_
    show Steps p.tables e below (T80.setTop (mkF m 30 #[.val (.ref r0), .val (.int p1)] [(.ref r0), (.int (hd + sz)), (.ref rb)])) _
    refine st81 _ ?_
    show Steps p.tables e below (T81.setTop (mkF m 33 #[.val (.ref r0), .val (.int p1)] [(.ref rb), (.int (hd + sz)), (.ref rb)])) _
    refine X81.arraylength hx (by rw [e81]; exact Ar82.1) (State.isArrayOf_alike hZ.alike Ar82.2.1) (g := (mkF m 33 #[.val (.ref r0), .val (.int p1)] [(.ref rb), (.int (hd + sz)), (.ref rb)])) rfl rfl (hb hby d3_33) _ ?_
    rw [len_of S82 N82]
    show Steps p.tables e below (T81.setTop (mkF m 34 #[.val (.ref r0), .val (.int p1)] [(.int (16 : Int32)), (.int (hd + sz)), (.ref rb)])) _
    refine XS.iconst X81.here hx rfl (hb hby d3_34) ?_
    show Steps p.tables e below (T81.setTop (mkF m 35 #[.val (.ref r0), .val (.int p1)] [(.int (1 : Int32)), (.int (16 : Int32)), (.int (hd + sz)), (.ref rb)])) _
    refine XS.isub X81.here hx rfl (hb hby d3_35) rfl ?_
    show Steps p.tables e below (T81.setTop (mkF m 36 #[.val (.ref r0), .val (.int p1)] [(.int (15 : Int32)), (.int (hd + sz)), (.ref rb)])) _
    refine XS.iand X81.here hx rfl (hb hby d3_36) rfl ?_
    show Steps p.tables e below (T81.setTop (mkF m 37 #[.val (.ref r0), .val (.int p1)] [(.int ((hd + sz) &&& (15 : Int32))), (.ref rb)])) _
    refine XS.iloadN X81.here hx rfl (hb hby d3_37) rfl ?_
    show Steps p.tables e below (T81.setTop (mkF m 38 #[.val (.ref r0), .val (.int p1)] [(.int p1), (.int ((hd + sz) &&& (15 : Int32))), (.ref rb)])) _
    refine st85 _ ?_
    show Steps p.tables e below (T85.setTop (mkF m 39 #[.val (.ref r0), .val (.int p1)] [])) _
    refine XS.aloadN X85.here hx rfl (hb hby d3_39) rfl rfl ?_
    show Steps p.tables e below (T85.setTop (mkF m 40 #[.val (.ref r0), .val (.int p1)] [(.ref r0)])) _
    refine XS.dup X85.here hx rfl (hb hby d3_40) rfl rfl ?_
    show Steps p.tables e below (T85.setTop (mkF m 41 #[.val (.ref r0), .val (.int p1)] [(.ref r0), (.ref r0)])) _
    refine st91 _ ?_
    show Steps p.tables e below (T91.setTop (mkF m 44 #[.val (.ref r0), .val (.int p1)] [(.int sz), (.ref r0)])) _
    refine XS.iconst X91.here hx rfl (hb hby d3_44) ?_
    show Steps p.tables e below (T91.setTop (mkF m 45 #[.val (.ref r0), .val (.int p1)] [(.int (1 : Int32)), (.int sz), (.ref r0)])) _
    refine XS.iadd X91.here hx rfl (hb hby d3_45) rfl ?_
    show Steps p.tables e below (T91.setTop (mkF m 46 #[.val (.ref r0), .val (.int p1)] [(.int (sz + (1 : Int32))), (.ref r0)])) _
    refine st92 _ ?_
    show Steps p.tables e below (T92.setTop (mkF m 49 #[.val (.ref r0), .val (.int p1)] [])) _
    exact X92.returnOut hx Bd.returns (hb hby d3_49) hr
  · show own_QaddN Z u r0 p1 rb hd sz k vs i h0 n0 _ T92.heap _
    rw [e92]
    exact ⟨rfl, Nf92, K92, f96, f93, f94, f95, f100⟩
theorem d8_0 : decode prog_46_method_5_code 0 = .ok (.aload_n 0, 1) := by decide +kernel
theorem d8_1 : decode prog_46_method_5_code 1 = .ok (.getfield 13, 3) := by decide +kernel
theorem d8_4 : decode prog_46_method_5_code 4 = .ok (.aload_n 0, 1) := by decide +kernel
theorem d8_5 : decode prog_46_method_5_code 5 = .ok (.getfield 23, 3) := by decide +kernel
theorem d8_8 : decode prog_46_method_5_code 8 = .ok (.iaload, 1) := by decide +kernel
theorem d8_9 : decode prog_46_method_5_code 9 = .ok (.ireturn, 1) := by decide +kernel
theorem own_pn_8 : plainName "com/example/wakachi/wakachi/match/IntDeque" = true := by first | (simp [plainName, overriddenIn]; done) | decide +kernel
theorem own_ef_8 (m : MethodId) (x0 : Addr) : entryFrame m #[(.ref x0)] 1 = mkF m 0 #[.val (.ref x0)] [] := by first | (simp [entryFrame, mkF, argsToLocals, Value.category]; done) | rfl
def own_Q8 (Z : State) (u : Nat → Addr) (r0 : Addr) (rb : Addr) (hd : Int32) (sz : Int32) (k : ClassId) (vs : List Value) (w : Int32) (h0 : Heap) (n0 : Nat) (v : Option Value) (h : Heap) (L : List Loc) : Prop := v = some (.int w) ∧ Fr n0 L ∧ h = h0
set_option maxRecDepth 65536 in
set_option maxHeartbeats 40000000 in
theorem rm8 (l : Launch) (Z : State) (a0 : Array Value) (hw : ∀ d ∈ tables_1, d.before a0 Z = true) (ws : List Jvm.Cond) (u : Nat → Addr) (r0 : Addr) (rb : Addr) (hd : Int32) (sz : Int32) (k : ClassId) (vs : List Value) (w : Int32) (B : own_Base Z u) (h0 : Heap) (n0 : Nat) (O : Old Z n0 h0) (E_r : Exa Z h0 r0 "com/example/wakachi/wakachi/match/IntDeque") (F_ring : Fld Z h0 r0 "com/example/wakachi/wakachi/match/IntDeque" "ring" "[I" (.ref rb)) (F_head : Fld Z h0 r0 "com/example/wakachi/wakachi/match/IntDeque" "head" "I" (.int hd)) (F_size : Fld Z h0 r0 "com/example/wakachi/wakachi/match/IntDeque" "size" "I" (.int sz)) (g_r : n0 ≤ r0) (g_b : n0 ≤ rb) (ne_b : r0 ≠ rb) (V_b : Arv Z h0 rb k .int (16 : Int32) vs (.int (0 : Int32))) (hj : ¬ hd < 0 ∧ hd < (16 : Int32)) (hv : vs.getD hd.toNatClampNeg (.int (0 : Int32)) = .int w) :
    MetFree l (⟨"com/example/wakachi/wakachi/match/IntDeque", "first", "()I"⟩ : MethodName) (head1 (Jvm.Cond.code (⟨"com/example/wakachi/wakachi/match/IntDeque", "first", "()I"⟩ : MethodName) prog_46_method_5_code 1 (some .int) :: ws) ({ frames := 0, cells := 0, slots := 0, locals := 0 } : Room)) (fun a U => a = #[(.ref r0)] ∧ Z.Warmed39 U.vm ∧ U.heap = h0) (fun _ _ _ _ _ => True) (fun _ U o U' => ∃ v L, o = .returned v ∧ own_Q8 Z u r0 rb hd sz k vs w h0 n0 v U'.heap L ∧ FrameEnd U o U' L ({ frames := 0, cells := 0, slots := 0, locals := 0 } : Room).cells ({ frames := 0, cells := 0, slots := 0, locals := 0 } : Room).slots) := by
  refine MetFree.of_bodySF (plainFor_of_name own_pn_8) hisR ?_
  intro p e s m args below meth c s₁ Bd hml0 hP hK
  obtain ⟨rfl, hZ, hh⟩ := hP
  have hx := Bd.exec
  have hby := Bd.bytes
  have hml : c.maxLocals = 1 := hml0
  have hown : s.vm.findClass "com/example/wakachi/wakachi/match/IntDeque" = some m.cls := findClass_of_methodNamed Bd.named
  have hnm := (name_of_methodNamed Bd.named Bd.method).1
  have X0 : Stand p l e ({ frames := 0, cells := 0, slots := 0, locals := 0 } : Room) s m #[(.ref r0)] below meth c s₁ [] 0 0 := Stand.of_body Bd
  have e0 : s₁.heap = h0 := by rw [← hh, Bd.state]; rfl
  have N0 := Fr.nil n0
  have K0 := Keep.refl h0 []
  have Z0 : n0 ≤ h0.size := O.1 ▸ O.2.1
  have pre0 : ∀ t, Steps p.tables e below (s₁.setTop (mkF m 0 #[.val (.ref r0)] [])) t → Steps p.tables e below (s₁.setTop (entryFrame m #[(.ref r0)] 1)) t := fun t k => castTop (own_ef_8 m r0) k
  obtain ⟨T102, X102, e102, st102⟩ := getF X0 hx hZ hown (host := "") (Or.inl (hw _ (List.mem_of_getElem? (i := 11) rfl))) Via.refl e0 F_ring (g := (mkF m 1 #[.val (.ref r0)] [(.ref r0)])) rfl rfl (hb hby d8_1)
  obtain ⟨T103, X103, e103, st103⟩ := getF X102 hx hZ hown (host := "") (Or.inl (hw _ (List.mem_of_getElem? (i := 29) rfl))) Via.refl e102 F_head (g := (mkF m 5 #[.val (.ref r0)] [(.ref r0), (.ref rb)])) rfl rfl (hb hby d8_5)
  obtain ⟨cl104, Ar104, -, S104, N104, H104, -⟩ := id V_b
  have hin104 : ¬ (hd < 0 ∨ cl104.slots.size ≤ (hd).toNatClampNeg) := inb_of S104 hj
  obtain ⟨fs, hr, hrun, hended, hW, hsame⟩ := X103.leave (v := some (.int w)) (fun h => by rw [Bd.returns] at h; cases h)
  refine ⟨_, _, pre0 _ ?_, hrun, hended, _, _, rfl, ?_, ⟨_, rfl⟩, hW, hsame.mono (by decide) (by decide)⟩
  · show Steps p.tables e below (s₁.setTop (mkF m 0 #[.val (.ref r0)] [])) _
    refine XS.aloadN X0.here hx rfl (hb hby d8_0) rfl rfl ?_
    show Steps p.tables e below (s₁.setTop (mkF m 1 #[.val (.ref r0)] [(.ref r0)])) _
    refine st102 _ ?_
    show Steps p.tables e below (T102.setTop (mkF m 4 #[.val (.ref r0)] [(.ref rb)])) _
    refine XS.aloadN X102.here hx rfl (hb hby d8_4) rfl rfl ?_
    show Steps p.tables e below (T102.setTop (mkF m 5 #[.val (.ref r0)] [(.ref r0), (.ref rb)])) _
    refine st103 _ ?_
    show Steps p.tables e below (T103.setTop (mkF m 8 #[.val (.ref r0)] [(.int hd), (.ref rb)])) _
    refine X103.iaload hx (j := hd) (v := (.int w)) (by rw [e103]; exact Ar104.1) (State.isArrayOf_alike hZ.alike Ar104.2.1) Ar104.2.2 hin104 (H104.at hin104 hv) (g := (mkF m 8 #[.val (.ref r0)] [(.int hd), (.ref rb)])) rfl rfl (hb hby d8_8) _ ?_
    show Steps p.tables e below (T103.setTop (mkF m 9 #[.val (.ref r0)] [(.int w)])) _
    exact retI X103 hx Bd.returns (hb hby d8_9) hr
  · show own_Q8 Z u r0 rb hd sz k vs w h0 n0 _ T103.heap _
    rw [e103]
    exact ⟨rfl, N0, rfl⟩
theorem d6_0 : decode prog_46_method_7_code 0 = .ok (.aload_n 0, 1) := by decide +kernel
theorem d6_1 : decode prog_46_method_7_code 1 = .ok (.getfield 13, 3) := by decide +kernel
theorem d6_4 : decode prog_46_method_7_code 4 = .ok (.aload_n 0, 1) := by decide +kernel
theorem d6_5 : decode prog_46_method_7_code 5 = .ok (.getfield 23, 3) := by decide +kernel
theorem d6_8 : decode prog_46_method_7_code 8 = .ok (.iaload, 1) := by decide +kernel
theorem d6_9 : decode prog_46_method_7_code 9 = .ok (.istore_n 1, 1) := by decide +kernel
theorem d6_10 : decode prog_46_method_7_code 10 = .ok (.aload_n 0, 1) := by decide +kernel
theorem d6_11 : decode prog_46_method_7_code 11 = .ok (.aload_n 0, 1) := by decide +kernel
theorem d6_12 : decode prog_46_method_7_code 12 = .ok (.getfield 23, 3) := by decide +kernel
theorem d6_15 : decode prog_46_method_7_code 15 = .ok (.iconst 1, 1) := by decide +kernel
theorem d6_16 : decode prog_46_method_7_code 16 = .ok (.iadd, 1) := by decide +kernel
theorem d6_17 : decode prog_46_method_7_code 17 = .ok (.aload_n 0, 1) := by decide +kernel
theorem d6_18 : decode prog_46_method_7_code 18 = .ok (.getfield 13, 3) := by decide +kernel
theorem d6_21 : decode prog_46_method_7_code 21 = .ok (.arraylength, 1) := by decide +kernel
theorem d6_22 : decode prog_46_method_7_code 22 = .ok (.iconst 1, 1) := by decide +kernel
theorem d6_23 : decode prog_46_method_7_code 23 = .ok (.isub, 1) := by decide +kernel
theorem d6_24 : decode prog_46_method_7_code 24 = .ok (.iand, 1) := by decide +kernel
theorem d6_25 : decode prog_46_method_7_code 25 = .ok (.putfield 23, 3) := by decide +kernel
theorem d6_28 : decode prog_46_method_7_code 28 = .ok (.aload_n 0, 1) := by decide +kernel
theorem d6_29 : decode prog_46_method_7_code 29 = .ok (.dup, 1) := by decide +kernel
theorem d6_30 : decode prog_46_method_7_code 30 = .ok (.getfield 16, 3) := by decide +kernel
theorem d6_33 : decode prog_46_method_7_code 33 = .ok (.iconst 1, 1) := by decide +kernel
theorem d6_34 : decode prog_46_method_7_code 34 = .ok (.isub, 1) := by decide +kernel
theorem d6_35 : decode prog_46_method_7_code 35 = .ok (.putfield 16, 3) := by decide +kernel
theorem d6_38 : decode prog_46_method_7_code 38 = .ok (.iload_n 1, 1) := by decide +kernel
theorem d6_39 : decode prog_46_method_7_code 39 = .ok (.ireturn, 1) := by decide +kernel
theorem own_pn_6 : plainName "com/example/wakachi/wakachi/match/IntDeque" = true := by first | (simp [plainName, overriddenIn]; done) | decide +kernel
theorem own_ef_6 (m : MethodId) (x0 : Addr) : entryFrame m #[(.ref x0)] 2 = mkF m 0 #[.val (.ref x0), .unset] [] := by first | (simp [entryFrame, mkF, argsToLocals, Value.category]; done) | rfl
def own_Q6 (Z : State) (u : Nat → Addr) (r0 : Addr) (rb : Addr) (hd : Int32) (sz : Int32) (k : ClassId) (vs : List Value) (w : Int32) (h0 : Heap) (n0 : Nat) (v : Option Value) (h : Heap) (L : List Loc) : Prop := v = some (.int w) ∧ Fr n0 L ∧ Keep h0 h [r0] ∧ Exa Z h r0 "com/example/wakachi/wakachi/match/IntDeque" ∧ Fld Z h r0 "com/example/wakachi/wakachi/match/IntDeque" "ring" "[I" (.ref rb) ∧ Fld Z h r0 "com/example/wakachi/wakachi/match/IntDeque" "head" "I" (.int ((hd + 1) &&& 15)) ∧ Fld Z h r0 "com/example/wakachi/wakachi/match/IntDeque" "size" "I" (.int (sz - 1))
set_option maxRecDepth 65536 in
set_option maxHeartbeats 40000000 in
theorem rm6 (l : Launch) (Z : State) (a0 : Array Value) (hw : ∀ d ∈ tables_1, d.before a0 Z = true) (ws : List Jvm.Cond) (u : Nat → Addr) (r0 : Addr) (rb : Addr) (hd : Int32) (sz : Int32) (k : ClassId) (vs : List Value) (w : Int32) (B : own_Base Z u) (h0 : Heap) (n0 : Nat) (O : Old Z n0 h0) (E_r : Exa Z h0 r0 "com/example/wakachi/wakachi/match/IntDeque") (F_ring : Fld Z h0 r0 "com/example/wakachi/wakachi/match/IntDeque" "ring" "[I" (.ref rb)) (F_head : Fld Z h0 r0 "com/example/wakachi/wakachi/match/IntDeque" "head" "I" (.int hd)) (F_size : Fld Z h0 r0 "com/example/wakachi/wakachi/match/IntDeque" "size" "I" (.int sz)) (g_r : n0 ≤ r0) (g_b : n0 ≤ rb) (ne_b : r0 ≠ rb) (V_b : Arv Z h0 rb k .int (16 : Int32) vs (.int (0 : Int32))) (hj : ¬ hd < 0 ∧ hd < (16 : Int32)) (hv : vs.getD hd.toNatClampNeg (.int (0 : Int32)) = .int w) :
    MetFree l (⟨"com/example/wakachi/wakachi/match/IntDeque", "removeFirst", "()I"⟩ : MethodName) (head1 (Jvm.Cond.code (⟨"com/example/wakachi/wakachi/match/IntDeque", "removeFirst", "()I"⟩ : MethodName) prog_46_method_7_code 2 (some .int) :: ws) ({ frames := 0, cells := 0, slots := 0, locals := 0 } : Room)) (fun a U => a = #[(.ref r0)] ∧ Z.Warmed39 U.vm ∧ U.heap = h0) (fun _ _ _ _ _ => True) (fun _ U o U' => ∃ v L, o = .returned v ∧ own_Q6 Z u r0 rb hd sz k vs w h0 n0 v U'.heap L ∧ FrameEnd U o U' L ({ frames := 0, cells := 0, slots := 0, locals := 0 } : Room).cells ({ frames := 0, cells := 0, slots := 0, locals := 0 } : Room).slots) := by
  refine MetFree.of_bodySF (plainFor_of_name own_pn_6) hisR ?_
  intro p e s m args below meth c s₁ Bd hml0 hP hK
  obtain ⟨rfl, hZ, hh⟩ := hP
  have hx := Bd.exec
  have hby := Bd.bytes
  have hml : c.maxLocals = 2 := hml0
  have hown : s.vm.findClass "com/example/wakachi/wakachi/match/IntDeque" = some m.cls := findClass_of_methodNamed Bd.named
  have hnm := (name_of_methodNamed Bd.named Bd.method).1
  have X0 : Stand p l e ({ frames := 0, cells := 0, slots := 0, locals := 0 } : Room) s m #[(.ref r0)] below meth c s₁ [] 0 0 := Stand.of_body Bd
  have e0 : s₁.heap = h0 := by rw [← hh, Bd.state]; rfl
  have N0 := Fr.nil n0
  have K0 := Keep.refl h0 [r0]
  have Z0 : n0 ≤ h0.size := O.1 ▸ O.2.1
  have pre0 : ∀ t, Steps p.tables e below (s₁.setTop (mkF m 0 #[.val (.ref r0), .unset] [])) t → Steps p.tables e below (s₁.setTop (entryFrame m #[(.ref r0)] 2)) t := fun t k => castTop (own_ef_6 m r0) k
  obtain ⟨T106, X106, e106, st106⟩ := getF X0 hx hZ hown (host := "") (Or.inl (hw _ (List.mem_of_getElem? (i := 11) rfl))) Via.refl e0 F_ring (g := (mkF m 1 #[.val (.ref r0), .unset] [(.ref r0)])) rfl rfl (hb hby d6_1)
  obtain ⟨T107, X107, e107, st107⟩ := getF X106 hx hZ hown (host := "") (Or.inl (hw _ (List.mem_of_getElem? (i := 29) rfl))) Via.refl e106 F_head (g := (mkF m 5 #[.val (.ref r0), .unset] [(.ref r0), (.ref rb)])) rfl rfl (hb hby d6_5)
  obtain ⟨cl108, Ar108, -, S108, N108, H108, -⟩ := id V_b
  have hin108 : ¬ (hd < 0 ∨ cl108.slots.size ≤ (hd).toNatClampNeg) := inb_of S108 hj
  obtain ⟨T109, X109, e109, st109⟩ := getF X107 hx hZ hown (host := "") (Or.inl (hw _ (List.mem_of_getElem? (i := 29) rfl))) Via.refl e107 F_head (g := (mkF m 12 #[.val (.ref r0), .val (.int w)] [(.ref r0), (.ref r0)])) rfl rfl (hb hby d6_12)
  obtain ⟨T110, X110, e110, st110⟩ := getF X109 hx hZ hown (host := "") (Or.inl (hw _ (List.mem_of_getElem? (i := 11) rfl))) Via.refl e109 F_ring (g := (mkF m 18 #[.val (.ref r0), .val (.int w)] [(.ref r0), (.int (hd + (1 : Int32))), (.ref r0)])) rfl rfl (hb hby d6_18)
  obtain ⟨cl111, Ar111, -, S111, N111, -, -⟩ := id V_b
  obtain ⟨T112, h112, X112, e112, W112, st112⟩ := putF X110 hx hZ hown (host := "") (Or.inl (hw _ (List.mem_of_getElem? (i := 29) rfl))) Via.refl e110 F_head E_r (Or.inl (hw _ (List.mem_of_getElem? (i := 30) rfl))) (hw _ (List.mem_of_getElem? (i := 1) rfl)) (ty := .int) (by decide) rfl rfl (g := (mkF m 25 #[.val (.ref r0), .val (.int w)] [(.int ((hd + (1 : Int32)) &&& (15 : Int32))), (.ref r0)])) rfl rfl (hb hby d6_25)
  have Nf112 := Fr.snoc X112 N0 g_r
  have f113 := F_ring.other W112 (Or.inr (slot_ne (Or.inl (hw _ (List.mem_of_getElem? (i := 12) rfl))) (Or.inl (hw _ (List.mem_of_getElem? (i := 30) rfl))) (by decide) (t := (.array .int)) (t' := .int) (by decide) (by decide)))
  have f114 := F_head.same W112
  have f115 := F_size.other W112 (Or.inr (slot_ne (Or.inl (hw _ (List.mem_of_getElem? (i := 19) rfl))) (Or.inl (hw _ (List.mem_of_getElem? (i := 30) rfl))) (by decide) (t := .int) (t' := .int) (by decide) (by decide)))
  have O112 := O.wr W112 g_r
  have K112 := K0.wr W112 (Or.inl (List.mem_of_getElem? (i := 0) rfl))
  have f116 := E_r.wr W112
  have f120 := V_b.other W112 (Ne.symm ne_b)
  obtain ⟨T121, X121, e121, st121⟩ := getF X112 hx hZ hown (host := "") (Or.inl (hw _ (List.mem_of_getElem? (i := 18) rfl))) Via.refl e112 f115 (g := (mkF m 30 #[.val (.ref r0), .val (.int w)] [(.ref r0), (.ref r0)])) rfl rfl (hb hby d6_30)
  obtain ⟨T122, h122, X122, e122, W122, st122⟩ := putF X121 hx hZ hown (host := "") (Or.inl (hw _ (List.mem_of_getElem? (i := 18) rfl))) Via.refl e121 f115 f116 (Or.inl (hw _ (List.mem_of_getElem? (i := 19) rfl))) (hw _ (List.mem_of_getElem? (i := 1) rfl)) (ty := .int) (by decide) rfl rfl (g := (mkF m 35 #[.val (.ref r0), .val (.int w)] [(.int (sz - (1 : Int32))), (.ref r0)])) rfl rfl (hb hby d6_35)
  have Nf122 := Fr.snoc X122 Nf112 g_r
  have f123 := f113.other W122 (Or.inr (slot_ne (Or.inl (hw _ (List.mem_of_getElem? (i := 12) rfl))) (Or.inl (hw _ (List.mem_of_getElem? (i := 19) rfl))) (by decide) (t := (.array .int)) (t' := .int) (by decide) (by decide)))
  have f124 := f114.other W122 (Or.inr (slot_ne (Or.inl (hw _ (List.mem_of_getElem? (i := 30) rfl))) (Or.inl (hw _ (List.mem_of_getElem? (i := 19) rfl))) (by decide) (t := .int) (t' := .int) (by decide) (by decide)))
  have f125 := f115.same W122
  have O122 := O112.wr W122 g_r
  have K122 := K112.wr W122 (Or.inl (List.mem_of_getElem? (i := 0) rfl))
  have f126 := f116.wr W122
  have f127 := f120.other W122 (Ne.symm ne_b)
  obtain ⟨fs, hr, hrun, hended, hW, hsame⟩ := X122.leave (v := some (.int w)) (fun h => by rw [Bd.returns] at h; cases h)
  refine ⟨_, _, pre0 _ ?_, hrun, hended, _, _, rfl, ?_, ⟨_, rfl⟩, hW, hsame.mono (by decide) (by decide)⟩
  · show Steps p.tables e below (s₁.setTop (mkF m 0 #[.val (.ref r0), .unset] [])) _
    refine XS.aloadN X0.here hx rfl (hb hby d6_0) rfl rfl ?_
    show Steps p.tables e below (s₁.setTop (mkF m 1 #[.val (.ref r0), .unset] [(.ref r0)])) _
    refine st106 _ ?_
    show Steps p.tables e below (T106.setTop (mkF m 4 #[.val (.ref r0), .unset] [(.ref rb)])) _
    refine XS.aloadN X106.here hx rfl (hb hby d6_4) rfl rfl ?_
    show Steps p.tables e below (T106.setTop (mkF m 5 #[.val (.ref r0), .unset] [(.ref r0), (.ref rb)])) _
    refine st107 _ ?_
    show Steps p.tables e below (T107.setTop (mkF m 8 #[.val (.ref r0), .unset] [(.int hd), (.ref rb)])) _
    refine X107.iaload hx (j := hd) (v := (.int w)) (by rw [e107]; exact Ar108.1) (State.isArrayOf_alike hZ.alike Ar108.2.1) Ar108.2.2 hin108 (H108.at hin108 hv) (g := (mkF m 8 #[.val (.ref r0), .unset] [(.int hd), (.ref rb)])) rfl rfl (hb hby d6_8) _ ?_
    show Steps p.tables e below (T107.setTop (mkF m 9 #[.val (.ref r0), .unset] [(.int w)])) _
    refine XS.istoreN X107.here hx rfl (hb hby d6_9) rfl (l' := #[.val (.ref r0), .val (.int w)]) rfl ?_
    show Steps p.tables e below (T107.setTop (mkF m 10 #[.val (.ref r0), .val (.int w)] [])) _
    refine XS.aloadN X107.here hx rfl (hb hby d6_10) rfl rfl ?_
    show Steps p.tables e below (T107.setTop (mkF m 11 #[.val (.ref r0), .val (.int w)] [(.ref r0)])) _
    refine XS.aloadN X107.here hx rfl (hb hby d6_11) rfl rfl ?_
    show Steps p.tables e below (T107.setTop (mkF m 12 #[.val (.ref r0), .val (.int w)] [(.ref r0), (.ref r0)])) _
    refine st109 _ ?_
    show Steps p.tables e below (T109.setTop (mkF m 15 #[.val (.ref r0), .val (.int w)] [(.int hd), (.ref r0)])) _
    refine XS.iconst X109.here hx rfl (hb hby d6_15) ?_
    show Steps p.tables e below (T109.setTop (mkF m 16 #[.val (.ref r0), .val (.int w)] [(.int (1 : Int32)), (.int hd), (.ref r0)])) _
    refine XS.iadd X109.here hx rfl (hb hby d6_16) rfl ?_
    show Steps p.tables e below (T109.setTop (mkF m 17 #[.val (.ref r0), .val (.int w)] [(.int (hd + (1 : Int32))), (.ref r0)])) _
    refine XS.aloadN X109.here hx rfl (hb hby d6_17) rfl rfl ?_
    show Steps p.tables e below (T109.setTop (mkF m 18 #[.val (.ref r0), .val (.int w)] [(.ref r0), (.int (hd + (1 : Int32))), (.ref r0)])) _
    refine st110 _ ?_
    show Steps p.tables e below (T110.setTop (mkF m 21 #[.val (.ref r0), .val (.int w)] [(.ref rb), (.int (hd + (1 : Int32))), (.ref r0)])) _
    refine X110.arraylength hx (by rw [e110]; exact Ar111.1) (State.isArrayOf_alike hZ.alike Ar111.2.1) (g := (mkF m 21 #[.val (.ref r0), .val (.int w)] [(.ref rb), (.int (hd + (1 : Int32))), (.ref r0)])) rfl rfl (hb hby d6_21) _ ?_
    rw [len_of S111 N111]
    show Steps p.tables e below (T110.setTop (mkF m 22 #[.val (.ref r0), .val (.int w)] [(.int (16 : Int32)), (.int (hd + (1 : Int32))), (.ref r0)])) _
    refine XS.iconst X110.here hx rfl (hb hby d6_22) ?_
    show Steps p.tables e below (T110.setTop (mkF m 23 #[.val (.ref r0), .val (.int w)] [(.int (1 : Int32)), (.int (16 : Int32)), (.int (hd + (1 : Int32))), (.ref r0)])) _
    refine XS.isub X110.here hx rfl (hb hby d6_23) rfl ?_
    show Steps p.tables e below (T110.setTop (mkF m 24 #[.val (.ref r0), .val (.int w)] [(.int (15 : Int32)), (.int (hd + (1 : Int32))), (.ref r0)])) _
    refine XS.iand X110.here hx rfl (hb hby d6_24) rfl ?_
    show Steps p.tables e below (T110.setTop (mkF m 25 #[.val (.ref r0), .val (.int w)] [(.int ((hd + (1 : Int32)) &&& (15 : Int32))), (.ref r0)])) _
    refine st112 _ ?_
    show Steps p.tables e below (T112.setTop (mkF m 28 #[.val (.ref r0), .val (.int w)] [])) _
    refine XS.aloadN X112.here hx rfl (hb hby d6_28) rfl rfl ?_
    show Steps p.tables e below (T112.setTop (mkF m 29 #[.val (.ref r0), .val (.int w)] [(.ref r0)])) _
    refine XS.dup X112.here hx rfl (hb hby d6_29) rfl rfl ?_
    show Steps p.tables e below (T112.setTop (mkF m 30 #[.val (.ref r0), .val (.int w)] [(.ref r0), (.ref r0)])) _
    refine st121 _ ?_
    show Steps p.tables e below (T121.setTop (mkF m 33 #[.val (.ref r0), .val (.int w)] [(.int sz), (.ref r0)])) _
    refine XS.iconst X121.here hx rfl (hb hby d6_33) ?_
    show Steps p.tables e below (T121.setTop (mkF m 34 #[.val (.ref r0), .val (.int w)] [(.int (1 : Int32)), (.int sz), (.ref r0)])) _
    refine XS.isub X121.here hx rfl (hb hby d6_34) rfl ?_
    show Steps p.tables e below (T121.setTop (mkF m 35 #[.val (.ref r0), .val (.int w)] [(.int (sz - (1 : Int32))), (.ref r0)])) _
    refine st122 _ ?_
    show Steps p.tables e below (T122.setTop (mkF m 38 #[.val (.ref r0), .val (.int w)] [])) _
    refine XS.iloadN X122.here hx rfl (hb hby d6_38) rfl ?_
    show Steps p.tables e below (T122.setTop (mkF m 39 #[.val (.ref r0), .val (.int w)] [(.int w)])) _
    exact retI X122 hx Bd.returns (hb hby d6_39) hr
  · show own_Q6 Z u r0 rb hd sz k vs w h0 n0 _ T122.heap _
    rw [e122]
    exact ⟨rfl, Nf122, K122, f126, f123, f124, f125⟩
theorem d7_0 : decode prog_46_method_3_code 0 = .ok (.aload_n 0, 1) := by decide +kernel
theorem d7_1 : decode prog_46_method_3_code 1 = .ok (.getfield 16, 3) := by decide +kernel
theorem d7_4 : decode prog_46_method_3_code 4 = .ok (.ireturn, 1) := by decide +kernel
theorem own_pn_7 : plainName "com/example/wakachi/wakachi/match/IntDeque" = true := by first | (simp [plainName, overriddenIn]; done) | decide +kernel
theorem own_ef_7 (m : MethodId) (x0 : Addr) : entryFrame m #[(.ref x0)] 1 = mkF m 0 #[.val (.ref x0)] [] := by first | (simp [entryFrame, mkF, argsToLocals, Value.category]; done) | rfl
def own_Q7 (Z : State) (u : Nat → Addr) (r0 : Addr) (w_size_r0 : Int32) (h0 : Heap) (n0 : Nat) (v : Option Value) (h : Heap) (L : List Loc) : Prop := v = some (.int w_size_r0) ∧ Fr n0 L ∧ h = h0
set_option maxRecDepth 65536 in
set_option maxHeartbeats 40000000 in
theorem rm7 (l : Launch) (Z : State) (a0 : Array Value) (hw : ∀ d ∈ tables_1, d.before a0 Z = true) (ws : List Jvm.Cond) (u : Nat → Addr) (r0 : Addr) (w_size_r0 : Int32) (B : own_Base Z u) (h0 : Heap) (n0 : Nat) (O : Old Z n0 h0) (F_w_size_r0 : Fld Z h0 r0 "com/example/wakachi/wakachi/match/IntDeque" "size" "I" (.int w_size_r0)) :
    MetFree l (⟨"com/example/wakachi/wakachi/match/IntDeque", "size", "()I"⟩ : MethodName) (head1 (Jvm.Cond.code (⟨"com/example/wakachi/wakachi/match/IntDeque", "size", "()I"⟩ : MethodName) prog_46_method_3_code 1 (some .int) :: ws) ({ frames := 0, cells := 0, slots := 0, locals := 0 } : Room)) (fun a U => a = #[(.ref r0)] ∧ Z.Warmed39 U.vm ∧ U.heap = h0) (fun _ _ _ _ _ => True) (fun _ U o U' => ∃ v L, o = .returned v ∧ own_Q7 Z u r0 w_size_r0 h0 n0 v U'.heap L ∧ FrameEnd U o U' L ({ frames := 0, cells := 0, slots := 0, locals := 0 } : Room).cells ({ frames := 0, cells := 0, slots := 0, locals := 0 } : Room).slots) := by
  refine MetFree.of_bodySF (plainFor_of_name own_pn_7) hisR ?_
  intro p e s m args below meth c s₁ Bd hml0 hP hK
  obtain ⟨rfl, hZ, hh⟩ := hP
  have hx := Bd.exec
  have hby := Bd.bytes
  have hml : c.maxLocals = 1 := hml0
  have hown : s.vm.findClass "com/example/wakachi/wakachi/match/IntDeque" = some m.cls := findClass_of_methodNamed Bd.named
  have hnm := (name_of_methodNamed Bd.named Bd.method).1
  have X0 : Stand p l e ({ frames := 0, cells := 0, slots := 0, locals := 0 } : Room) s m #[(.ref r0)] below meth c s₁ [] 0 0 := Stand.of_body Bd
  have e0 : s₁.heap = h0 := by rw [← hh, Bd.state]; rfl
  have N0 := Fr.nil n0
  have K0 := Keep.refl h0 []
  have Z0 : n0 ≤ h0.size := O.1 ▸ O.2.1
  have pre0 : ∀ t, Steps p.tables e below (s₁.setTop (mkF m 0 #[.val (.ref r0)] [])) t → Steps p.tables e below (s₁.setTop (entryFrame m #[(.ref r0)] 1)) t := fun t k => castTop (own_ef_7 m r0) k
  obtain ⟨T132, X132, e132, st132⟩ := getF X0 hx hZ hown (host := "") (Or.inl (hw _ (List.mem_of_getElem? (i := 18) rfl))) Via.refl e0 F_w_size_r0 (g := (mkF m 1 #[.val (.ref r0)] [(.ref r0)])) rfl rfl (hb hby d7_1)
  obtain ⟨fs, hr, hrun, hended, hW, hsame⟩ := X132.leave (v := some (.int w_size_r0)) (fun h => by rw [Bd.returns] at h; cases h)
  refine ⟨_, _, pre0 _ ?_, hrun, hended, _, _, rfl, ?_, ⟨_, rfl⟩, hW, hsame.mono (by decide) (by decide)⟩
  · show Steps p.tables e below (s₁.setTop (mkF m 0 #[.val (.ref r0)] [])) _
    refine XS.aloadN X0.here hx rfl (hb hby d7_0) rfl rfl ?_
    show Steps p.tables e below (s₁.setTop (mkF m 1 #[.val (.ref r0)] [(.ref r0)])) _
    refine st132 _ ?_
    show Steps p.tables e below (T132.setTop (mkF m 4 #[.val (.ref r0)] [(.int w_size_r0)])) _
    exact retI X132 hx Bd.returns (hb hby d7_4) hr
  · show own_Q7 Z u r0 w_size_r0 h0 n0 _ T132.heap _
    rw [e132]
    exact ⟨rfl, N0, rfl⟩
theorem own_pn_0 : plainName "com/example/wakachi/wakachi/match/IntDequeRemoveFirstPinLaw" = true := by first | (simp [plainName, overriddenIn]; done) | decide +kernel
theorem own_ef_0 (m : MethodId) (x0 : Int32) (x1 : Int32) (x2 : Int32) (x3 : Int32) : entryFrame m #[(.int x0), (.int x1), (.int x2), (.int x3)] maxLocals = mkF m 0 #[.val (.int x0), .val (.int x1), .val (.int x2), .val (.int x3), .unset, .unset, .unset, .unset, .unset, .unset, .unset, .unset, .unset, .unset] [] := by first | (simp [entryFrame, mkF, argsToLocals, Value.category, maxLocals]; done) | rfl
def own_Q0 (Z : State) (u : Nat → Addr) (p0 : Int32) (p1 : Int32) (p2 : Int32) (p3 : Int32) (h0 : Heap) (n0 : Nat) (v : Option Value) (h : Heap) (L : List Loc) : Prop := v = some (.int (1 : Int32)) ∧ Fr n0 L ∧ True
set_option maxRecDepth 65536 in
set_option maxHeartbeats 40000000 in
theorem rm0 (l : Launch) (Z : State) (a0 : Array Value) (hw : ∀ d ∈ tables_1, d.before a0 Z = true) (ws : List Jvm.Cond) (u : Nat → Addr) (p0 : Int32) (p1 : Int32) (p2 : Int32) (p3 : Int32) (B : own_Base Z u) (h0 : Heap) (n0 : Nat) (O : Old Z n0 h0) :
    MetFree l x (head1 (Jvm.Cond.code x code maxLocals ret :: ws) room_1) (fun a U => a = #[(.int p0), (.int p1), (.int p2), (.int p3)] ∧ Z.Warmed39 U.vm ∧ U.heap = h0) (fun _ _ _ _ _ => True) (fun _ U o U' => ∃ v L, o = .returned v ∧ own_Q0 Z u p0 p1 p2 p3 h0 n0 v U'.heap L ∧ FrameEnd U o U' L room_1.cells room_1.slots) := by
  refine MetFree.of_bodySF (plainFor_of_name own_pn_0) hisR ?_
  intro p e s m args below meth c s₁ Bd hml0 hP hK
  obtain ⟨rfl, hZ, hh⟩ := hP
  have hx := Bd.exec
  have hby := Bd.bytes
  have hml : c.maxLocals = 14 := hml0
  have hown : s.vm.findClass "com/example/wakachi/wakachi/match/IntDequeRemoveFirstPinLaw" = some m.cls := findClass_of_methodNamed Bd.named
  have hnm := (name_of_methodNamed Bd.named Bd.method).1
  have X0 : Stand p l e room_1 s m #[(.int p0), (.int p1), (.int p2), (.int p3)] below meth c s₁ [] 0 0 := Stand.of_body Bd
  have e0 : s₁.heap = h0 := by rw [← hh, Bd.state]; rfl
  have N0 := Fr.nil n0
  have K0 := Keep.refl h0 []
  have Z0 : n0 ≤ h0.size := O.1 ▸ O.2.1
  have pre0 : ∀ t, Steps p.tables e below (s₁.setTop (mkF m 0 #[.val (.int p0), .val (.int p1), .val (.int p2), .val (.int p3), .unset, .unset, .unset, .unset, .unset, .unset, .unset, .unset, .unset, .unset] [])) t → Steps p.tables e below (s₁.setTop (entryFrame m #[(.int p0), (.int p1), (.int p2), (.int p3)] maxLocals)) t := fun t k => castTop (own_ef_0 m p0 p1 p2 p3) k
  have pre134 : ∀ t, Steps p.tables e below (s₁.setTop (mkF m 3 #[.val (.int p0), .val (.int p1), .val (.int p2), .val (.int p3), .unset, .unset, .unset, .unset, .unset, .unset, .unset, .unset, .unset, .unset] [(.int (p3 &&& (1 : Int32)))])) t → Steps p.tables e below (s₁.setTop (entryFrame m #[(.int p0), (.int p1), (.int p2), (.int p3)] maxLocals)) t := fun t kt => pre0 t (by
    show Steps p.tables e below (s₁.setTop (mkF m 0 #[.val (.int p0), .val (.int p1), .val (.int p2), .val (.int p3), .unset, .unset, .unset, .unset, .unset, .unset, .unset, .unset, .unset, .unset] [])) _
    refine XS.iloadN X0.here hx rfl (hb hby at_0) rfl ?_
    show Steps p.tables e below (s₁.setTop (mkF m 1 #[.val (.int p0), .val (.int p1), .val (.int p2), .val (.int p3), .unset, .unset, .unset, .unset, .unset, .unset, .unset, .unset, .unset, .unset] [(.int p3)])) _
    refine XS.iconst X0.here hx rfl (hb hby at_1) ?_
    show Steps p.tables e below (s₁.setTop (mkF m 2 #[.val (.int p0), .val (.int p1), .val (.int p2), .val (.int p3), .unset, .unset, .unset, .unset, .unset, .unset, .unset, .unset, .unset, .unset] [(.int (1 : Int32)), (.int p3)])) _
    refine XS.iand X0.here hx rfl (hb hby at_2) rfl ?_
    exact kt)
  by_cases hc135 : (p3 &&& (1 : Int32)) = (0 : Int32)
  · --
    obtain ⟨T136, h136, X136, e136, E136, A136, D136, -, st136⟩ := newO X0 hx hZ hown (hw _ (List.mem_of_getElem? (i := 0) rfl)) (hw _ (List.mem_of_getElem? (i := 1) rfl)) (hw _ (List.mem_of_getElem? (i := 2) rfl)) e0 (g := (mkF m 13 #[.val (.int p0), .val (.int p1), .val (.int p2), .val (.int p3), .val (.int (0 : Int32)), .unset, .unset, .unset, .unset, .unset, .unset, .unset, .unset, .unset] [])) rfl (hb hby at_13) (by decide) (by decide)
    obtain ⟨b136, g136⟩ : ∃ z, z = h0.size := ⟨_, rfl⟩
    rw [← g136] at A136 D136 st136
    have gx_b136 : n0 ≤ b136 := Nat.le_trans (O.1 ▸ O.2.1) (Nat.le_of_eq g136.symm)
    have sz_b136 : h0.size ≤ b136 := Nat.le_trans K0.1 (Nat.le_of_eq g136.symm)
    have O136 := O.ext E136
    have K136 := K0.ext E136
    have F_ring_b136 : Fld Z h136 b136 "com/example/wakachi/wakachi/match/IntDeque" "ring" "[I" .null := D136 (Or.inl (hw _ (List.mem_of_getElem? (i := 12) rfl))) (ty := (.array .int)) (by decide)
    have F_size_b136 : Fld Z h136 b136 "com/example/wakachi/wakachi/match/IntDeque" "size" "I" (.int (0 : Int32)) := D136 (Or.inl (hw _ (List.mem_of_getElem? (i := 19) rfl))) (ty := .int) (by decide)
    have F_head_b136 : Fld Z h136 b136 "com/example/wakachi/wakachi/match/IntDeque" "head" "I" (.int (0 : Int32)) := D136 (Or.inl (hw _ (List.mem_of_getElem? (i := 30) rfl))) (ty := .int) (by decide)
    obtain ⟨vr137, _, ⟨T137, L137, k137, n137⟩, -, X137, ⟨Lc137, hQ137, l137, y137, z137⟩, st137⟩ := X136.specialBack hx (y := (⟨"com/example/wakachi/wakachi/match/IntDeque", "<init>", "()V"⟩ : MethodName)) rfl hown (mvT hZ (hw _ (List.mem_of_getElem? (i := 3) rfl))) (mvT hZ (hw _ (List.mem_of_getElem? (i := 4) rfl))) (mvT hZ (hw _ (List.mem_of_getElem? (i := 5) rfl))) (by decide) (backOf (W := 1) (rm1 l Z a0 hw [] u b136 B h136 n0 O136 A136 F_ring_b136 F_head_b136 F_size_b136 gx_b136) hZ (hw _ (List.mem_of_getElem? (i := 5) rfl)) (hw _ (List.mem_of_getElem? (i := 2) rfl)) (by decide) (by decide)) (g := (mkF m 17 #[.val (.int p0), .val (.int p1), .val (.int p2), .val (.int p3), .val (.int (0 : Int32)), .unset, .unset, .unset, .unset, .unset, .unset, .unset, .unset, .unset] [(.ref b136), (.ref b136)])) rfl (by rw [hml]; rfl) (Steps.refl _) (a := b136) (argsL := []) (rest := [(.ref b136)]) (lenOf own_pd1 rfl) rfl (by show 2 * 0 + _ ≤ _; exact Nat.le_of_eq rfl) (hb hby at_17) (fun _ _ => ⟨rfl, e136, (by decide : 1 + 0 ≤ _), (by decide : 3 + 0 ≤ _)⟩)
    dsimp only [Pt.U, Pt.locs, Pt.cells, Pt.slots] at X137 l137 y137 z137 st137 hQ137
    subst l137 y137 z137
    obtain ⟨rfl, N137q, Kq137, x137E, x137r, x137h, x137s⟩ := hQ137
    have N137 := Fr.app N0 N137q
    have O137 := O136.keep Kq137 (allS gx_b136 all0)
    have K137 := Keep.trans K136 Kq137 (allS (Or.inr sz_b136) all0)
    have x137h' : Fld Z T137.heap b136 "com/example/wakachi/wakachi/match/IntDeque" "head" "I" (.int (0 : Int32)) := x137h
    have x137s' : Fld Z T137.heap b136 "com/example/wakachi/wakachi/match/IntDeque" "size" "I" (.int (0 : Int32)) := x137s
    obtain ⟨cq138, kq138, q138a, q138b, q138c⟩ := isOf hZ rfl x137E
    obtain ⟨vr138, _, ⟨T138, L138, k138, n138⟩, -, X138, ⟨Lc138, hQ138, l138, y138, z138⟩, st138⟩ := X137.virtualBack hx (y := (⟨"com/example/wakachi/wakachi/match/IntDeque", "add", "(I)V"⟩ : MethodName)) (z := (⟨"com/example/wakachi/wakachi/match/IntDeque", "add", "(I)V"⟩ : MethodName)) hown (mvT hZ (hw _ (List.mem_of_getElem? (i := 13) rfl))) (mvT hZ (hw _ (List.mem_of_getElem? (i := 14) rfl))) (notFace_of_selects (args := #[]) (mvT hZ (hw _ (List.mem_of_getElem? (i := 16) rfl)))) (mvT hZ (hw _ (List.mem_of_getElem? (i := 16) rfl))) (mvT hZ (hw _ (List.mem_of_getElem? (i := 15) rfl))) (by decide) (backOf (W := 0) (rmadd0 l Z a0 hw [] u b136 p0 B T137.heap n0 O137 x137E x137r x137h' x137s' gx_b136) hZ (hw _ (List.mem_of_getElem? (i := 17) rfl)) (hw _ (List.mem_of_getElem? (i := 2) rfl)) (by decide) (by decide)) q138a q138c (g := (mkF m 25 #[.val (.int p0), .val (.int p1), .val (.int p2), .val (.int p3), .val (.int (0 : Int32)), .val (.ref b136), .unset, .unset, .unset, .unset, .unset, .unset, .unset, .unset] [(.int p0), (.ref b136)])) rfl (by rw [hml]; rfl) (Steps.refl _) (argsL := [(.int p0)]) (rest := []) (lenOf own_pd2 rfl) rfl (by show 2 * 0 + _ ≤ _; exact Nat.le_of_eq rfl) (hb hby at_25) (fun _ _ => ⟨rfl, rfl, (by decide : 1 + 1 ≤ _), (by decide : 3 + 16 ≤ _)⟩)
    dsimp only [Pt.U, Pt.locs, Pt.cells, Pt.slots] at X138 l138 y138 z138 st138 hQ138
    subst l138 y138 z138
    obtain ⟨b138, k138v, rfl, N138q, Kq138, gx_b138, zz138, x138E, x138r, x138h, x138s, V_b138⟩ := hQ138
    have N138 := Fr.app N137 N138q
    have sz_b138 : h0.size ≤ b138 := Nat.le_trans K137.1 zz138
    have ne139 : b136 ≠ b138 := Nat.ne_of_lt (Nat.lt_of_lt_of_le x137s'.lt zz138)
    have O138 := O137.keep Kq138 (allS gx_b136 all0)
    have K138 := Keep.trans K137 Kq138 (allS (Or.inr sz_b136) all0)
    have x138h' : Fld Z T138.heap b136 "com/example/wakachi/wakachi/match/IntDeque" "head" "I" (.int (0 : Int32)) := x138h
    have x138s' : Fld Z T138.heap b136 "com/example/wakachi/wakachi/match/IntDeque" "size" "I" (.int (1 : Int32)) := x138s
    obtain ⟨cq140, kq140, q140a, q140b, q140c⟩ := isOf hZ rfl x138E
    obtain ⟨vr140, _, ⟨T140, L140, k140, n140⟩, -, X140, ⟨Lc140, hQ140, l140, y140, z140⟩, st140⟩ := X138.virtualBack hx (y := (⟨"com/example/wakachi/wakachi/match/IntDeque", "add", "(I)V"⟩ : MethodName)) (z := (⟨"com/example/wakachi/wakachi/match/IntDeque", "add", "(I)V"⟩ : MethodName)) hown (mvT hZ (hw _ (List.mem_of_getElem? (i := 13) rfl))) (mvT hZ (hw _ (List.mem_of_getElem? (i := 14) rfl))) (notFace_of_selects (args := #[]) (mvT hZ (hw _ (List.mem_of_getElem? (i := 16) rfl)))) (mvT hZ (hw _ (List.mem_of_getElem? (i := 16) rfl))) (mvT hZ (hw _ (List.mem_of_getElem? (i := 15) rfl))) (by decide) (backOf (W := 0) (rmaddN l Z a0 hw [] u b136 p2 b138 (0 : Int32) (1 : Int32) k138v [.int p0, .int (0 : Int32), .int (0 : Int32), .int (0 : Int32), .int (0 : Int32), .int (0 : Int32), .int (0 : Int32), .int (0 : Int32), .int (0 : Int32), .int (0 : Int32), .int (0 : Int32), .int (0 : Int32), .int (0 : Int32), .int (0 : Int32), .int (0 : Int32), .int (0 : Int32)] 1 B T138.heap n0 O138 x138E x138r x138h' x138s' gx_b136 gx_b138 ne139 V_b138 (by decide) (by decide) (by decide) (Nat.le_of_ble_eq_true rfl)) hZ (hw _ (List.mem_of_getElem? (i := 17) rfl)) (hw _ (List.mem_of_getElem? (i := 2) rfl)) (by decide) (by decide)) q140a q140c (g := (mkF m 42 #[.val (.int p0), .val (.int p1), .val (.int p2), .val (.int p3), .val (.int (0 : Int32)), .val (.ref b136), .unset, .unset, .unset, .unset, .unset, .unset, .unset, .unset] [(.int p2), (.ref b136)])) rfl (by rw [hml]; rfl) (Steps.refl _) (argsL := [(.int p2)]) (rest := []) (lenOf own_pd2 rfl) rfl (by show 2 * 0 + _ ≤ _; exact Nat.le_of_eq rfl) (hb hby at_42) (fun _ _ => ⟨rfl, rfl, (by decide : 2 + 0 ≤ _), (by decide : 19 + 0 ≤ _)⟩)
    dsimp only [Pt.U, Pt.locs, Pt.cells, Pt.slots] at X140 l140 y140 z140 st140 hQ140
    subst l140 y140 z140
    obtain ⟨rfl, N140q, Kq140, x140E, x140r, x140h, x140s, x140V⟩ := hQ140
    have N140 := Fr.app N138 N140q
    have O140 := O138.keep Kq140 (allS gx_b136 (allS gx_b138 all0))
    have K140 := Keep.trans K138 Kq140 (allS (Or.inr sz_b136) (allS (Or.inr sz_b138) all0))
    have x140h' : Fld Z T140.heap b136 "com/example/wakachi/wakachi/match/IntDeque" "head" "I" (.int (0 : Int32)) := x140h
    have x140s' : Fld Z T140.heap b136 "com/example/wakachi/wakachi/match/IntDeque" "size" "I" (.int (2 : Int32)) := x140s
    have x140W : Arv Z T140.heap b138 k138v .int (16 : Int32) [.int p0, .int p2, .int (0 : Int32), .int (0 : Int32), .int (0 : Int32), .int (0 : Int32), .int (0 : Int32), .int (0 : Int32), .int (0 : Int32), .int (0 : Int32), .int (0 : Int32), .int (0 : Int32), .int (0 : Int32), .int (0 : Int32), .int (0 : Int32), .int (0 : Int32)] (.int (0 : Int32)) := x140V
    obtain ⟨cq141, kq141, q141a, q141b, q141c⟩ := isOf hZ rfl x140E
    obtain ⟨vr141, _, ⟨T141, L141, k141, n141⟩, -, X141, ⟨Lc141, hQ141, l141, y141, z141⟩, st141⟩ := X140.virtualBack hx (y := (⟨"com/example/wakachi/wakachi/match/IntDeque", "removeFirst", "()I"⟩ : MethodName)) (z := (⟨"com/example/wakachi/wakachi/match/IntDeque", "removeFirst", "()I"⟩ : MethodName)) hown (mvT hZ (hw _ (List.mem_of_getElem? (i := 31) rfl))) (mvT hZ (hw _ (List.mem_of_getElem? (i := 32) rfl))) (notFace_of_selects (args := #[]) (mvT hZ (hw _ (List.mem_of_getElem? (i := 34) rfl)))) (mvT hZ (hw _ (List.mem_of_getElem? (i := 34) rfl))) (mvT hZ (hw _ (List.mem_of_getElem? (i := 33) rfl))) (by decide) (backOf (W := 0) (rm6 l Z a0 hw [] u b136 b138 (0 : Int32) (2 : Int32) k138v [.int p0, .int p2, .int (0 : Int32), .int (0 : Int32), .int (0 : Int32), .int (0 : Int32), .int (0 : Int32), .int (0 : Int32), .int (0 : Int32), .int (0 : Int32), .int (0 : Int32), .int (0 : Int32), .int (0 : Int32), .int (0 : Int32), .int (0 : Int32), .int (0 : Int32)] p0 B T140.heap n0 O140 x140E x140r x140h' x140s' gx_b136 gx_b138 ne139 x140W (by decide) rfl) hZ (hw _ (List.mem_of_getElem? (i := 35) rfl)) (hw _ (List.mem_of_getElem? (i := 2) rfl)) (by decide) (by decide)) q141a q141c (g := (mkF m 71 #[.val (.int p0), .val (.int p1), .val (.int p2), .val (.int p3), .val (.int (0 : Int32)), .val (.ref b136), .val (.int (2 : Int32)), .val (.int p2), .unset, .unset, .unset, .unset, .unset, .unset] [(.ref b136)])) rfl (by rw [hml]; rfl) (Steps.refl _) (argsL := []) (rest := []) (lenOf own_pd3 rfl) rfl (by show 2 * 0 + _ ≤ _; exact Nat.le_of_eq rfl) (hb hby at_71) (fun _ _ => ⟨rfl, rfl, (by decide : 2 + 0 ≤ _), (by decide : 19 + 0 ≤ _)⟩)
    dsimp only [Pt.U, Pt.locs, Pt.cells, Pt.slots] at X141 l141 y141 z141 st141 hQ141
    subst l141 y141 z141
    obtain ⟨rfl, N141q, Kq141, x141E, x141r, x141h, x141s⟩ := hQ141
    have N141 := Fr.app N140 N141q
    have O141 := O140.keep Kq141 (allS gx_b136 all0)
    have K141 := Keep.trans K140 Kq141 (allS (Or.inr sz_b136) all0)
    have f142 := x140W.keep Kq141 (ninS (Ne.symm ne139) nin0)
    have x141h' : Fld Z T141.heap b136 "com/example/wakachi/wakachi/match/IntDeque" "head" "I" (.int (1 : Int32)) := x141h
    have x141s' : Fld Z T141.heap b136 "com/example/wakachi/wakachi/match/IntDeque" "size" "I" (.int (1 : Int32)) := x141s
    obtain ⟨cq143, kq143, q143a, q143b, q143c⟩ := isOf hZ rfl x141E
    obtain ⟨vr143, _, ⟨T143, L143, k143, n143⟩, -, X143, ⟨Lc143, hQ143, l143, y143, z143⟩, st143⟩ := X141.virtualBack hx (y := (⟨"com/example/wakachi/wakachi/match/IntDeque", "size", "()I"⟩ : MethodName)) (z := (⟨"com/example/wakachi/wakachi/match/IntDeque", "size", "()I"⟩ : MethodName)) hown (mvT hZ (hw _ (List.mem_of_getElem? (i := 36) rfl))) (mvT hZ (hw _ (List.mem_of_getElem? (i := 37) rfl))) (notFace_of_selects (args := #[]) (mvT hZ (hw _ (List.mem_of_getElem? (i := 39) rfl)))) (mvT hZ (hw _ (List.mem_of_getElem? (i := 39) rfl))) (mvT hZ (hw _ (List.mem_of_getElem? (i := 38) rfl))) (by decide) (backOf (W := 0) (rm7 l Z a0 hw [] u b136 (1 : Int32) B T141.heap n0 O141 x141s') hZ (hw _ (List.mem_of_getElem? (i := 40) rfl)) (hw _ (List.mem_of_getElem? (i := 2) rfl)) (by decide) (by decide)) q143a q143c (g := (mkF m 78 #[.val (.int p0), .val (.int p1), .val (.int p2), .val (.int p3), .val (.int (0 : Int32)), .val (.ref b136), .val (.int (2 : Int32)), .val (.int p2), .val (.int p0), .unset, .unset, .unset, .unset, .unset] [(.ref b136)])) rfl (by rw [hml]; rfl) (Steps.refl _) (argsL := []) (rest := []) (lenOf own_pd3 rfl) rfl (by show 2 * 0 + _ ≤ _; exact Nat.le_of_eq rfl) (hb hby at_78) (fun _ _ => ⟨rfl, rfl, (by decide : 2 + 0 ≤ _), (by decide : 19 + 0 ≤ _)⟩)
    dsimp only [Pt.U, Pt.locs, Pt.cells, Pt.slots] at X143 l143 y143 z143 st143 hQ143
    subst l143 y143 z143
    obtain ⟨rfl, N143q, e143⟩ := hQ143
    have N143 := Fr.app N141 N143q
    obtain ⟨cq144, kq144, q144a, q144b, q144c⟩ := isOf hZ e143 x141E
    obtain ⟨vr144, _, ⟨T144, L144, k144, n144⟩, -, X144, ⟨Lc144, hQ144, l144, y144, z144⟩, st144⟩ := X143.virtualBack hx (y := (⟨"com/example/wakachi/wakachi/match/IntDeque", "first", "()I"⟩ : MethodName)) (z := (⟨"com/example/wakachi/wakachi/match/IntDeque", "first", "()I"⟩ : MethodName)) hown (mvT hZ (hw _ (List.mem_of_getElem? (i := 41) rfl))) (mvT hZ (hw _ (List.mem_of_getElem? (i := 42) rfl))) (notFace_of_selects (args := #[]) (mvT hZ (hw _ (List.mem_of_getElem? (i := 44) rfl)))) (mvT hZ (hw _ (List.mem_of_getElem? (i := 44) rfl))) (mvT hZ (hw _ (List.mem_of_getElem? (i := 43) rfl))) (by decide) (backOf (W := 0) (rm8 l Z a0 hw [] u b136 b138 (1 : Int32) (1 : Int32) k138v [.int p0, .int p2, .int (0 : Int32), .int (0 : Int32), .int (0 : Int32), .int (0 : Int32), .int (0 : Int32), .int (0 : Int32), .int (0 : Int32), .int (0 : Int32), .int (0 : Int32), .int (0 : Int32), .int (0 : Int32), .int (0 : Int32), .int (0 : Int32), .int (0 : Int32)] p2 B T141.heap n0 O141 x141E x141r x141h' x141s' gx_b136 gx_b138 ne139 f142 (by decide) rfl) hZ (hw _ (List.mem_of_getElem? (i := 45) rfl)) (hw _ (List.mem_of_getElem? (i := 2) rfl)) (by decide) (by decide)) q144a q144c (g := (mkF m 85 #[.val (.int p0), .val (.int p1), .val (.int p2), .val (.int p3), .val (.int (0 : Int32)), .val (.ref b136), .val (.int (2 : Int32)), .val (.int p2), .val (.int p0), .val (.int (1 : Int32)), .unset, .unset, .unset, .unset] [(.ref b136)])) rfl (by rw [hml]; rfl) (Steps.refl _) (argsL := []) (rest := []) (lenOf own_pd3 rfl) rfl (by show 2 * 0 + _ ≤ _; exact Nat.le_of_eq rfl) (hb hby at_85) (fun _ _ => ⟨rfl, e143, (by decide : 2 + 0 ≤ _), (by decide : 19 + 0 ≤ _)⟩)
    dsimp only [Pt.U, Pt.locs, Pt.cells, Pt.slots] at X144 l144 y144 z144 st144 hQ144
    subst l144 y144 z144
    obtain ⟨rfl, N144q, e144⟩ := hQ144
    have N144 := Fr.app N143 N144q
    obtain ⟨cq145, kq145, q145a, q145b, q145c⟩ := isOf hZ e144 x141E
    obtain ⟨vr145, _, ⟨T145, L145, k145, n145⟩, -, X145, ⟨Lc145, hQ145, l145, y145, z145⟩, st145⟩ := X144.virtualBack hx (y := (⟨"com/example/wakachi/wakachi/match/IntDeque", "removeFirst", "()I"⟩ : MethodName)) (z := (⟨"com/example/wakachi/wakachi/match/IntDeque", "removeFirst", "()I"⟩ : MethodName)) hown (mvT hZ (hw _ (List.mem_of_getElem? (i := 31) rfl))) (mvT hZ (hw _ (List.mem_of_getElem? (i := 32) rfl))) (notFace_of_selects (args := #[]) (mvT hZ (hw _ (List.mem_of_getElem? (i := 34) rfl)))) (mvT hZ (hw _ (List.mem_of_getElem? (i := 34) rfl))) (mvT hZ (hw _ (List.mem_of_getElem? (i := 33) rfl))) (by decide) (backOf (W := 0) (rm6 l Z a0 hw [] u b136 b138 (1 : Int32) (1 : Int32) k138v [.int p0, .int p2, .int (0 : Int32), .int (0 : Int32), .int (0 : Int32), .int (0 : Int32), .int (0 : Int32), .int (0 : Int32), .int (0 : Int32), .int (0 : Int32), .int (0 : Int32), .int (0 : Int32), .int (0 : Int32), .int (0 : Int32), .int (0 : Int32), .int (0 : Int32)] p2 B T141.heap n0 O141 x141E x141r x141h' x141s' gx_b136 gx_b138 ne139 f142 (by decide) rfl) hZ (hw _ (List.mem_of_getElem? (i := 35) rfl)) (hw _ (List.mem_of_getElem? (i := 2) rfl)) (by decide) (by decide)) q145a q145c (g := (mkF m 92 #[.val (.int p0), .val (.int p1), .val (.int p2), .val (.int p3), .val (.int (0 : Int32)), .val (.ref b136), .val (.int (2 : Int32)), .val (.int p2), .val (.int p0), .val (.int (1 : Int32)), .val (.int p2), .unset, .unset, .unset] [(.ref b136)])) rfl (by rw [hml]; rfl) (Steps.refl _) (argsL := []) (rest := []) (lenOf own_pd3 rfl) rfl (by show 2 * 0 + _ ≤ _; exact Nat.le_of_eq rfl) (hb hby at_92) (fun _ _ => ⟨rfl, e144, (by decide : 2 + 0 ≤ _), (by decide : 19 + 0 ≤ _)⟩)
    dsimp only [Pt.U, Pt.locs, Pt.cells, Pt.slots] at X145 l145 y145 z145 st145 hQ145
    subst l145 y145 z145
    obtain ⟨rfl, N145q, Kq145, x145E, x145r, x145h, x145s⟩ := hQ145
    have N145 := Fr.app N144 N145q
    have O145 := O141.keep Kq145 (allS gx_b136 all0)
    have K145 := Keep.trans K141 Kq145 (allS (Or.inr sz_b136) all0)
    have f146 := f142.keep Kq145 (ninS (Ne.symm ne139) nin0)
    have x145h' : Fld Z T145.heap b136 "com/example/wakachi/wakachi/match/IntDeque" "head" "I" (.int (2 : Int32)) := x145h
    have x145s' : Fld Z T145.heap b136 "com/example/wakachi/wakachi/match/IntDeque" "size" "I" (.int (0 : Int32)) := x145s
    obtain ⟨cq147, kq147, q147a, q147b, q147c⟩ := isOf hZ rfl x145E
    obtain ⟨vr147, _, ⟨T147, L147, k147, n147⟩, -, X147, ⟨Lc147, hQ147, l147, y147, z147⟩, st147⟩ := X145.virtualBack hx (y := (⟨"com/example/wakachi/wakachi/match/IntDeque", "size", "()I"⟩ : MethodName)) (z := (⟨"com/example/wakachi/wakachi/match/IntDeque", "size", "()I"⟩ : MethodName)) hown (mvT hZ (hw _ (List.mem_of_getElem? (i := 36) rfl))) (mvT hZ (hw _ (List.mem_of_getElem? (i := 37) rfl))) (notFace_of_selects (args := #[]) (mvT hZ (hw _ (List.mem_of_getElem? (i := 39) rfl)))) (mvT hZ (hw _ (List.mem_of_getElem? (i := 39) rfl))) (mvT hZ (hw _ (List.mem_of_getElem? (i := 38) rfl))) (by decide) (backOf (W := 0) (rm7 l Z a0 hw [] u b136 (0 : Int32) B T145.heap n0 O145 x145s') hZ (hw _ (List.mem_of_getElem? (i := 40) rfl)) (hw _ (List.mem_of_getElem? (i := 2) rfl)) (by decide) (by decide)) q147a q147c (g := (mkF m 99 #[.val (.int p0), .val (.int p1), .val (.int p2), .val (.int p3), .val (.int (0 : Int32)), .val (.ref b136), .val (.int (2 : Int32)), .val (.int p2), .val (.int p0), .val (.int (1 : Int32)), .val (.int p2), .val (.int p2), .unset, .unset] [(.ref b136)])) rfl (by rw [hml]; rfl) (Steps.refl _) (argsL := []) (rest := []) (lenOf own_pd3 rfl) rfl (by show 2 * 0 + _ ≤ _; exact Nat.le_of_eq rfl) (hb hby at_99) (fun _ _ => ⟨rfl, rfl, (by decide : 2 + 0 ≤ _), (by decide : 19 + 0 ≤ _)⟩)
    dsimp only [Pt.U, Pt.locs, Pt.cells, Pt.slots] at X147 l147 y147 z147 st147 hQ147
    subst l147 y147 z147
    obtain ⟨rfl, N147q, e147⟩ := hQ147
    have N147 := Fr.app N145 N147q
    obtain ⟨fs, hr, hrun, hended, hW, hsame⟩ := X147.leave (v := some (.int (1 : Int32))) (fun h => by rw [Bd.returns] at h; cases h)
    refine ⟨_, _, pre134 _ ?_, hrun, hended, _, _, rfl, ?_, ⟨_, rfl⟩, hW, hsame.mono (by decide) (by decide)⟩
    · show Steps p.tables e below (s₁.setTop (mkF m 3 #[.val (.int p0), .val (.int p1), .val (.int p2), .val (.int p3), .unset, .unset, .unset, .unset, .unset, .unset, .unset, .unset, .unset, .unset] [(.int (p3 &&& (1 : Int32)))])) _
      refine XS.ifYes X0.here hx rfl (pc0 := 3) (pc' := 10) rfl (hb hby at_3) rfl ((if0 _ _).trans (teq hc135).1) (by decide) (by decide) ?_
      show Steps p.tables e below (s₁.setTop (mkF m 10 #[.val (.int p0), .val (.int p1), .val (.int p2), .val (.int p3), .unset, .unset, .unset, .unset, .unset, .unset, .unset, .unset, .unset, .unset] [])) _
      refine XS.iconst X0.here hx rfl (hb hby at_10) ?_
      show Steps p.tables e below (s₁.setTop (mkF m 11 #[.val (.int p0), .val (.int p1), .val (.int p2), .val (.int p3), .unset, .unset, .unset, .unset, .unset, .unset, .unset, .unset, .unset, .unset] [(.int (0 : Int32))])) _
      refine XS.istore X0.here hx rfl (hb hby at_11) rfl (l' := #[.val (.int p0), .val (.int p1), .val (.int p2), .val (.int p3), .val (.int (0 : Int32)), .unset, .unset, .unset, .unset, .unset, .unset, .unset, .unset, .unset]) rfl ?_
      show Steps p.tables e below (s₁.setTop (mkF m 13 #[.val (.int p0), .val (.int p1), .val (.int p2), .val (.int p3), .val (.int (0 : Int32)), .unset, .unset, .unset, .unset, .unset, .unset, .unset, .unset, .unset] [])) _
      refine st136 _ ?_
      show Steps p.tables e below (T136.setTop (mkF m 16 #[.val (.int p0), .val (.int p1), .val (.int p2), .val (.int p3), .val (.int (0 : Int32)), .unset, .unset, .unset, .unset, .unset, .unset, .unset, .unset, .unset] [(.ref b136)])) _
      refine XS.dup X136.here hx rfl (hb hby at_16) rfl rfl ?_
      show Steps p.tables e below (T136.setTop (mkF m 17 #[.val (.int p0), .val (.int p1), .val (.int p2), .val (.int p3), .val (.int (0 : Int32)), .unset, .unset, .unset, .unset, .unset, .unset, .unset, .unset, .unset] [(.ref b136), (.ref b136)])) _
      refine st137.trans ?_
      show Steps p.tables e below (T137.setTop (mkF m 20 #[.val (.int p0), .val (.int p1), .val (.int p2), .val (.int p3), .val (.int (0 : Int32)), .unset, .unset, .unset, .unset, .unset, .unset, .unset, .unset, .unset] [(.ref b136)])) _
      refine XS.astore X137.here hx rfl (hb hby at_20) rfl rfl (l' := #[.val (.int p0), .val (.int p1), .val (.int p2), .val (.int p3), .val (.int (0 : Int32)), .val (.ref b136), .unset, .unset, .unset, .unset, .unset, .unset, .unset, .unset]) rfl ?_
      show Steps p.tables e below (T137.setTop (mkF m 22 #[.val (.int p0), .val (.int p1), .val (.int p2), .val (.int p3), .val (.int (0 : Int32)), .val (.ref b136), .unset, .unset, .unset, .unset, .unset, .unset, .unset, .unset] [])) _
      refine XS.aload X137.here hx rfl (hb hby at_22) rfl rfl ?_
      show Steps p.tables e below (T137.setTop (mkF m 24 #[.val (.int p0), .val (.int p1), .val (.int p2), .val (.int p3), .val (.int (0 : Int32)), .val (.ref b136), .unset, .unset, .unset, .unset, .unset, .unset, .unset, .unset] [(.ref b136)])) _
      refine XS.iloadN X137.here hx rfl (hb hby at_24) rfl ?_
      show Steps p.tables e below (T137.setTop (mkF m 25 #[.val (.int p0), .val (.int p1), .val (.int p2), .val (.int p3), .val (.int (0 : Int32)), .val (.ref b136), .unset, .unset, .unset, .unset, .unset, .unset, .unset, .unset] [(.int p0), (.ref b136)])) _
      refine st138.trans ?_
      show Steps p.tables e below (T138.setTop (mkF m 28 #[.val (.int p0), .val (.int p1), .val (.int p2), .val (.int p3), .val (.int (0 : Int32)), .val (.ref b136), .unset, .unset, .unset, .unset, .unset, .unset, .unset, .unset] [])) _
      refine XS.iload X138.here hx rfl (hb hby at_28) rfl ?_
      show Steps p.tables e below (T138.setTop (mkF m 30 #[.val (.int p0), .val (.int p1), .val (.int p2), .val (.int p3), .val (.int (0 : Int32)), .val (.ref b136), .unset, .unset, .unset, .unset, .unset, .unset, .unset, .unset] [(.int (0 : Int32))])) _
      refine XS.ifYes X138.here hx rfl (pc0 := 30) (pc' := 39) rfl (hb hby at_30) rfl ((if0 _ _).trans (teq (by decide : (0 : Int32) = (0 : Int32))).1) (by decide) (by decide) ?_
      show Steps p.tables e below (T138.setTop (mkF m 39 #[.val (.int p0), .val (.int p1), .val (.int p2), .val (.int p3), .val (.int (0 : Int32)), .val (.ref b136), .unset, .unset, .unset, .unset, .unset, .unset, .unset, .unset] [])) _
      refine XS.aload X138.here hx rfl (hb hby at_39) rfl rfl ?_
      show Steps p.tables e below (T138.setTop (mkF m 41 #[.val (.int p0), .val (.int p1), .val (.int p2), .val (.int p3), .val (.int (0 : Int32)), .val (.ref b136), .unset, .unset, .unset, .unset, .unset, .unset, .unset, .unset] [(.ref b136)])) _
      refine XS.iloadN X138.here hx rfl (hb hby at_41) rfl ?_
      show Steps p.tables e below (T138.setTop (mkF m 42 #[.val (.int p0), .val (.int p1), .val (.int p2), .val (.int p3), .val (.int (0 : Int32)), .val (.ref b136), .unset, .unset, .unset, .unset, .unset, .unset, .unset, .unset] [(.int p2), (.ref b136)])) _
      refine st140.trans ?_
      show Steps p.tables e below (T140.setTop (mkF m 45 #[.val (.int p0), .val (.int p1), .val (.int p2), .val (.int p3), .val (.int (0 : Int32)), .val (.ref b136), .unset, .unset, .unset, .unset, .unset, .unset, .unset, .unset] [])) _
      refine XS.iload X140.here hx rfl (hb hby at_45) rfl ?_
      show Steps p.tables e below (T140.setTop (mkF m 47 #[.val (.int p0), .val (.int p1), .val (.int p2), .val (.int p3), .val (.int (0 : Int32)), .val (.ref b136), .unset, .unset, .unset, .unset, .unset, .unset, .unset, .unset] [(.int (0 : Int32))])) _
      refine XS.ifYes X140.here hx rfl (pc0 := 47) (pc' := 54) rfl (hb hby at_47) rfl ((if0 _ _).trans (teq (by decide : (0 : Int32) = (0 : Int32))).1) (by decide) (by decide) ?_
      show Steps p.tables e below (T140.setTop (mkF m 54 #[.val (.int p0), .val (.int p1), .val (.int p2), .val (.int p3), .val (.int (0 : Int32)), .val (.ref b136), .unset, .unset, .unset, .unset, .unset, .unset, .unset, .unset] [])) _
      refine XS.iconst X140.here hx rfl (hb hby at_54) ?_
      show Steps p.tables e below (T140.setTop (mkF m 55 #[.val (.int p0), .val (.int p1), .val (.int p2), .val (.int p3), .val (.int (0 : Int32)), .val (.ref b136), .unset, .unset, .unset, .unset, .unset, .unset, .unset, .unset] [(.int (2 : Int32))])) _
      refine XS.istore X140.here hx rfl (hb hby at_55) rfl (l' := #[.val (.int p0), .val (.int p1), .val (.int p2), .val (.int p3), .val (.int (0 : Int32)), .val (.ref b136), .val (.int (2 : Int32)), .unset, .unset, .unset, .unset, .unset, .unset, .unset]) rfl ?_
      show Steps p.tables e below (T140.setTop (mkF m 57 #[.val (.int p0), .val (.int p1), .val (.int p2), .val (.int p3), .val (.int (0 : Int32)), .val (.ref b136), .val (.int (2 : Int32)), .unset, .unset, .unset, .unset, .unset, .unset, .unset] [])) _
      refine XS.iload X140.here hx rfl (hb hby at_57) rfl ?_
      show Steps p.tables e below (T140.setTop (mkF m 59 #[.val (.int p0), .val (.int p1), .val (.int p2), .val (.int p3), .val (.int (0 : Int32)), .val (.ref b136), .val (.int (2 : Int32)), .unset, .unset, .unset, .unset, .unset, .unset, .unset] [(.int (0 : Int32))])) _
      refine XS.ifYes X140.here hx rfl (pc0 := 59) (pc' := 66) rfl (hb hby at_59) rfl ((if0 _ _).trans (teq (by decide : (0 : Int32) = (0 : Int32))).1) (by decide) (by decide) ?_
      show Steps p.tables e below (T140.setTop (mkF m 66 #[.val (.int p0), .val (.int p1), .val (.int p2), .val (.int p3), .val (.int (0 : Int32)), .val (.ref b136), .val (.int (2 : Int32)), .unset, .unset, .unset, .unset, .unset, .unset, .unset] [])) _
      refine XS.iloadN X140.here hx rfl (hb hby at_66) rfl ?_
      show Steps p.tables e below (T140.setTop (mkF m 67 #[.val (.int p0), .val (.int p1), .val (.int p2), .val (.int p3), .val (.int (0 : Int32)), .val (.ref b136), .val (.int (2 : Int32)), .unset, .unset, .unset, .unset, .unset, .unset, .unset] [(.int p2)])) _
      refine XS.istore X140.here hx rfl (hb hby at_67) rfl (l' := #[.val (.int p0), .val (.int p1), .val (.int p2), .val (.int p3), .val (.int (0 : Int32)), .val (.ref b136), .val (.int (2 : Int32)), .val (.int p2), .unset, .unset, .unset, .unset, .unset, .unset]) rfl ?_
      show Steps p.tables e below (T140.setTop (mkF m 69 #[.val (.int p0), .val (.int p1), .val (.int p2), .val (.int p3), .val (.int (0 : Int32)), .val (.ref b136), .val (.int (2 : Int32)), .val (.int p2), .unset, .unset, .unset, .unset, .unset, .unset] [])) _
      refine XS.aload X140.here hx rfl (hb hby at_69) rfl rfl ?_
      show Steps p.tables e below (T140.setTop (mkF m 71 #[.val (.int p0), .val (.int p1), .val (.int p2), .val (.int p3), .val (.int (0 : Int32)), .val (.ref b136), .val (.int (2 : Int32)), .val (.int p2), .unset, .unset, .unset, .unset, .unset, .unset] [(.ref b136)])) _
      refine st141.trans ?_
      show Steps p.tables e below (T141.setTop (mkF m 74 #[.val (.int p0), .val (.int p1), .val (.int p2), .val (.int p3), .val (.int (0 : Int32)), .val (.ref b136), .val (.int (2 : Int32)), .val (.int p2), .unset, .unset, .unset, .unset, .unset, .unset] [(.int p0)])) _
      refine XS.istore X141.here hx rfl (hb hby at_74) rfl (l' := #[.val (.int p0), .val (.int p1), .val (.int p2), .val (.int p3), .val (.int (0 : Int32)), .val (.ref b136), .val (.int (2 : Int32)), .val (.int p2), .val (.int p0), .unset, .unset, .unset, .unset, .unset]) rfl ?_
      show Steps p.tables e below (T141.setTop (mkF m 76 #[.val (.int p0), .val (.int p1), .val (.int p2), .val (.int p3), .val (.int (0 : Int32)), .val (.ref b136), .val (.int (2 : Int32)), .val (.int p2), .val (.int p0), .unset, .unset, .unset, .unset, .unset] [])) _
      refine XS.aload X141.here hx rfl (hb hby at_76) rfl rfl ?_
      show Steps p.tables e below (T141.setTop (mkF m 78 #[.val (.int p0), .val (.int p1), .val (.int p2), .val (.int p3), .val (.int (0 : Int32)), .val (.ref b136), .val (.int (2 : Int32)), .val (.int p2), .val (.int p0), .unset, .unset, .unset, .unset, .unset] [(.ref b136)])) _
      refine st143.trans ?_
      show Steps p.tables e below (T143.setTop (mkF m 81 #[.val (.int p0), .val (.int p1), .val (.int p2), .val (.int p3), .val (.int (0 : Int32)), .val (.ref b136), .val (.int (2 : Int32)), .val (.int p2), .val (.int p0), .unset, .unset, .unset, .unset, .unset] [(.int (1 : Int32))])) _
      refine XS.istore X143.here hx rfl (hb hby at_81) rfl (l' := #[.val (.int p0), .val (.int p1), .val (.int p2), .val (.int p3), .val (.int (0 : Int32)), .val (.ref b136), .val (.int (2 : Int32)), .val (.int p2), .val (.int p0), .val (.int (1 : Int32)), .unset, .unset, .unset, .unset]) rfl ?_
      show Steps p.tables e below (T143.setTop (mkF m 83 #[.val (.int p0), .val (.int p1), .val (.int p2), .val (.int p3), .val (.int (0 : Int32)), .val (.ref b136), .val (.int (2 : Int32)), .val (.int p2), .val (.int p0), .val (.int (1 : Int32)), .unset, .unset, .unset, .unset] [])) _
      refine XS.aload X143.here hx rfl (hb hby at_83) rfl rfl ?_
      show Steps p.tables e below (T143.setTop (mkF m 85 #[.val (.int p0), .val (.int p1), .val (.int p2), .val (.int p3), .val (.int (0 : Int32)), .val (.ref b136), .val (.int (2 : Int32)), .val (.int p2), .val (.int p0), .val (.int (1 : Int32)), .unset, .unset, .unset, .unset] [(.ref b136)])) _
      refine st144.trans ?_
      show Steps p.tables e below (T144.setTop (mkF m 88 #[.val (.int p0), .val (.int p1), .val (.int p2), .val (.int p3), .val (.int (0 : Int32)), .val (.ref b136), .val (.int (2 : Int32)), .val (.int p2), .val (.int p0), .val (.int (1 : Int32)), .unset, .unset, .unset, .unset] [(.int p2)])) _
      refine XS.istore X144.here hx rfl (hb hby at_88) rfl (l' := #[.val (.int p0), .val (.int p1), .val (.int p2), .val (.int p3), .val (.int (0 : Int32)), .val (.ref b136), .val (.int (2 : Int32)), .val (.int p2), .val (.int p0), .val (.int (1 : Int32)), .val (.int p2), .unset, .unset, .unset]) rfl ?_
      show Steps p.tables e below (T144.setTop (mkF m 90 #[.val (.int p0), .val (.int p1), .val (.int p2), .val (.int p3), .val (.int (0 : Int32)), .val (.ref b136), .val (.int (2 : Int32)), .val (.int p2), .val (.int p0), .val (.int (1 : Int32)), .val (.int p2), .unset, .unset, .unset] [])) _
      refine XS.aload X144.here hx rfl (hb hby at_90) rfl rfl ?_
      show Steps p.tables e below (T144.setTop (mkF m 92 #[.val (.int p0), .val (.int p1), .val (.int p2), .val (.int p3), .val (.int (0 : Int32)), .val (.ref b136), .val (.int (2 : Int32)), .val (.int p2), .val (.int p0), .val (.int (1 : Int32)), .val (.int p2), .unset, .unset, .unset] [(.ref b136)])) _
      refine st145.trans ?_
      show Steps p.tables e below (T145.setTop (mkF m 95 #[.val (.int p0), .val (.int p1), .val (.int p2), .val (.int p3), .val (.int (0 : Int32)), .val (.ref b136), .val (.int (2 : Int32)), .val (.int p2), .val (.int p0), .val (.int (1 : Int32)), .val (.int p2), .unset, .unset, .unset] [(.int p2)])) _
      refine XS.istore X145.here hx rfl (hb hby at_95) rfl (l' := #[.val (.int p0), .val (.int p1), .val (.int p2), .val (.int p3), .val (.int (0 : Int32)), .val (.ref b136), .val (.int (2 : Int32)), .val (.int p2), .val (.int p0), .val (.int (1 : Int32)), .val (.int p2), .val (.int p2), .unset, .unset]) rfl ?_
      show Steps p.tables e below (T145.setTop (mkF m 97 #[.val (.int p0), .val (.int p1), .val (.int p2), .val (.int p3), .val (.int (0 : Int32)), .val (.ref b136), .val (.int (2 : Int32)), .val (.int p2), .val (.int p0), .val (.int (1 : Int32)), .val (.int p2), .val (.int p2), .unset, .unset] [])) _
      refine XS.aload X145.here hx rfl (hb hby at_97) rfl rfl ?_
      show Steps p.tables e below (T145.setTop (mkF m 99 #[.val (.int p0), .val (.int p1), .val (.int p2), .val (.int p3), .val (.int (0 : Int32)), .val (.ref b136), .val (.int (2 : Int32)), .val (.int p2), .val (.int p0), .val (.int (1 : Int32)), .val (.int p2), .val (.int p2), .unset, .unset] [(.ref b136)])) _
      refine st147.trans ?_
      show Steps p.tables e below (T147.setTop (mkF m 102 #[.val (.int p0), .val (.int p1), .val (.int p2), .val (.int p3), .val (.int (0 : Int32)), .val (.ref b136), .val (.int (2 : Int32)), .val (.int p2), .val (.int p0), .val (.int (1 : Int32)), .val (.int p2), .val (.int p2), .unset, .unset] [(.int (0 : Int32))])) _
      refine XS.istore X147.here hx rfl (hb hby at_102) rfl (l' := #[.val (.int p0), .val (.int p1), .val (.int p2), .val (.int p3), .val (.int (0 : Int32)), .val (.ref b136), .val (.int (2 : Int32)), .val (.int p2), .val (.int p0), .val (.int (1 : Int32)), .val (.int p2), .val (.int p2), .val (.int (0 : Int32)), .unset]) rfl ?_
      show Steps p.tables e below (T147.setTop (mkF m 104 #[.val (.int p0), .val (.int p1), .val (.int p2), .val (.int p3), .val (.int (0 : Int32)), .val (.ref b136), .val (.int (2 : Int32)), .val (.int p2), .val (.int p0), .val (.int (1 : Int32)), .val (.int p2), .val (.int p2), .val (.int (0 : Int32)), .unset] [])) _
      refine XS.iload X147.here hx rfl (hb hby at_104) rfl ?_
      show Steps p.tables e below (T147.setTop (mkF m 106 #[.val (.int p0), .val (.int p1), .val (.int p2), .val (.int p3), .val (.int (0 : Int32)), .val (.ref b136), .val (.int (2 : Int32)), .val (.int p2), .val (.int p0), .val (.int (1 : Int32)), .val (.int p2), .val (.int p2), .val (.int (0 : Int32)), .unset] [(.int p0)])) _
      refine XS.iloadN X147.here hx rfl (hb hby at_106) rfl ?_
      show Steps p.tables e below (T147.setTop (mkF m 107 #[.val (.int p0), .val (.int p1), .val (.int p2), .val (.int p3), .val (.int (0 : Int32)), .val (.ref b136), .val (.int (2 : Int32)), .val (.int p2), .val (.int p0), .val (.int (1 : Int32)), .val (.int p2), .val (.int p2), .val (.int (0 : Int32)), .unset] [(.int p0), (.int p0)])) _
      refine XS.icmpNo X147.here hx rfl (hb hby at_107) rfl (teq (rfl : p0 = p0)).2 ?_
      show Steps p.tables e below (T147.setTop (mkF m 110 #[.val (.int p0), .val (.int p1), .val (.int p2), .val (.int p3), .val (.int (0 : Int32)), .val (.ref b136), .val (.int (2 : Int32)), .val (.int p2), .val (.int p0), .val (.int (1 : Int32)), .val (.int p2), .val (.int p2), .val (.int (0 : Int32)), .unset] [])) _
      refine XS.iload X147.here hx rfl (hb hby at_110) rfl ?_
      show Steps p.tables e below (T147.setTop (mkF m 112 #[.val (.int p0), .val (.int p1), .val (.int p2), .val (.int p3), .val (.int (0 : Int32)), .val (.ref b136), .val (.int (2 : Int32)), .val (.int p2), .val (.int p0), .val (.int (1 : Int32)), .val (.int p2), .val (.int p2), .val (.int (0 : Int32)), .unset] [(.int (1 : Int32))])) _
      refine XS.iload X147.here hx rfl (hb hby at_112) rfl ?_
      show Steps p.tables e below (T147.setTop (mkF m 114 #[.val (.int p0), .val (.int p1), .val (.int p2), .val (.int p3), .val (.int (0 : Int32)), .val (.ref b136), .val (.int (2 : Int32)), .val (.int p2), .val (.int p0), .val (.int (1 : Int32)), .val (.int p2), .val (.int p2), .val (.int (0 : Int32)), .unset] [(.int (2 : Int32)), (.int (1 : Int32))])) _
      refine XS.iconst X147.here hx rfl (hb hby at_114) ?_
      show Steps p.tables e below (T147.setTop (mkF m 115 #[.val (.int p0), .val (.int p1), .val (.int p2), .val (.int p3), .val (.int (0 : Int32)), .val (.ref b136), .val (.int (2 : Int32)), .val (.int p2), .val (.int p0), .val (.int (1 : Int32)), .val (.int p2), .val (.int p2), .val (.int (0 : Int32)), .unset] [(.int (1 : Int32)), (.int (2 : Int32)), (.int (1 : Int32))])) _
      refine XS.isub X147.here hx rfl (hb hby at_115) rfl ?_
      show Steps p.tables e below (T147.setTop (mkF m 116 #[.val (.int p0), .val (.int p1), .val (.int p2), .val (.int p3), .val (.int (0 : Int32)), .val (.ref b136), .val (.int (2 : Int32)), .val (.int p2), .val (.int p0), .val (.int (1 : Int32)), .val (.int p2), .val (.int p2), .val (.int (0 : Int32)), .unset] [(.int (1 : Int32)), (.int (1 : Int32))])) _
      refine XS.icmpNo X147.here hx rfl (hb hby at_116) rfl (teq (by decide : (1 : Int32) = (1 : Int32))).2 ?_
      show Steps p.tables e below (T147.setTop (mkF m 119 #[.val (.int p0), .val (.int p1), .val (.int p2), .val (.int p3), .val (.int (0 : Int32)), .val (.ref b136), .val (.int (2 : Int32)), .val (.int p2), .val (.int p0), .val (.int (1 : Int32)), .val (.int p2), .val (.int p2), .val (.int (0 : Int32)), .unset] [])) _
      refine XS.iload X147.here hx rfl (hb hby at_119) rfl ?_
      show Steps p.tables e below (T147.setTop (mkF m 121 #[.val (.int p0), .val (.int p1), .val (.int p2), .val (.int p3), .val (.int (0 : Int32)), .val (.ref b136), .val (.int (2 : Int32)), .val (.int p2), .val (.int p0), .val (.int (1 : Int32)), .val (.int p2), .val (.int p2), .val (.int (0 : Int32)), .unset] [(.int p2)])) _
      refine XS.iload X147.here hx rfl (hb hby at_121) rfl ?_
      show Steps p.tables e below (T147.setTop (mkF m 123 #[.val (.int p0), .val (.int p1), .val (.int p2), .val (.int p3), .val (.int (0 : Int32)), .val (.ref b136), .val (.int (2 : Int32)), .val (.int p2), .val (.int p0), .val (.int (1 : Int32)), .val (.int p2), .val (.int p2), .val (.int (0 : Int32)), .unset] [(.int p2), (.int p2)])) _
      refine XS.icmpNo X147.here hx rfl (hb hby at_123) rfl (teq (rfl : p2 = p2)).2 ?_
      show Steps p.tables e below (T147.setTop (mkF m 126 #[.val (.int p0), .val (.int p1), .val (.int p2), .val (.int p3), .val (.int (0 : Int32)), .val (.ref b136), .val (.int (2 : Int32)), .val (.int p2), .val (.int p0), .val (.int (1 : Int32)), .val (.int p2), .val (.int p2), .val (.int (0 : Int32)), .unset] [])) _
      refine XS.iload X147.here hx rfl (hb hby at_126) rfl ?_
      show Steps p.tables e below (T147.setTop (mkF m 128 #[.val (.int p0), .val (.int p1), .val (.int p2), .val (.int p3), .val (.int (0 : Int32)), .val (.ref b136), .val (.int (2 : Int32)), .val (.int p2), .val (.int p0), .val (.int (1 : Int32)), .val (.int p2), .val (.int p2), .val (.int (0 : Int32)), .unset] [(.int p2)])) _
      refine XS.iload X147.here hx rfl (hb hby at_128) rfl ?_
      show Steps p.tables e below (T147.setTop (mkF m 130 #[.val (.int p0), .val (.int p1), .val (.int p2), .val (.int p3), .val (.int (0 : Int32)), .val (.ref b136), .val (.int (2 : Int32)), .val (.int p2), .val (.int p0), .val (.int (1 : Int32)), .val (.int p2), .val (.int p2), .val (.int (0 : Int32)), .unset] [(.int p2), (.int p2)])) _
      refine XS.icmpNo X147.here hx rfl (hb hby at_130) rfl (teq (rfl : p2 = p2)).2 ?_
      show Steps p.tables e below (T147.setTop (mkF m 133 #[.val (.int p0), .val (.int p1), .val (.int p2), .val (.int p3), .val (.int (0 : Int32)), .val (.ref b136), .val (.int (2 : Int32)), .val (.int p2), .val (.int p0), .val (.int (1 : Int32)), .val (.int p2), .val (.int p2), .val (.int (0 : Int32)), .unset] [])) _
      refine XS.iload X147.here hx rfl (hb hby at_133) rfl ?_
      show Steps p.tables e below (T147.setTop (mkF m 135 #[.val (.int p0), .val (.int p1), .val (.int p2), .val (.int p3), .val (.int (0 : Int32)), .val (.ref b136), .val (.int (2 : Int32)), .val (.int p2), .val (.int p0), .val (.int (1 : Int32)), .val (.int p2), .val (.int p2), .val (.int (0 : Int32)), .unset] [(.int (0 : Int32))])) _
      refine XS.iload X147.here hx rfl (hb hby at_135) rfl ?_
      show Steps p.tables e below (T147.setTop (mkF m 137 #[.val (.int p0), .val (.int p1), .val (.int p2), .val (.int p3), .val (.int (0 : Int32)), .val (.ref b136), .val (.int (2 : Int32)), .val (.int p2), .val (.int p0), .val (.int (1 : Int32)), .val (.int p2), .val (.int p2), .val (.int (0 : Int32)), .unset] [(.int (2 : Int32)), (.int (0 : Int32))])) _
      refine XS.iconst X147.here hx rfl (hb hby at_137) ?_
      show Steps p.tables e below (T147.setTop (mkF m 138 #[.val (.int p0), .val (.int p1), .val (.int p2), .val (.int p3), .val (.int (0 : Int32)), .val (.ref b136), .val (.int (2 : Int32)), .val (.int p2), .val (.int p0), .val (.int (1 : Int32)), .val (.int p2), .val (.int p2), .val (.int (0 : Int32)), .unset] [(.int (2 : Int32)), (.int (2 : Int32)), (.int (0 : Int32))])) _
      refine XS.isub X147.here hx rfl (hb hby at_138) rfl ?_
      show Steps p.tables e below (T147.setTop (mkF m 139 #[.val (.int p0), .val (.int p1), .val (.int p2), .val (.int p3), .val (.int (0 : Int32)), .val (.ref b136), .val (.int (2 : Int32)), .val (.int p2), .val (.int p0), .val (.int (1 : Int32)), .val (.int p2), .val (.int p2), .val (.int (0 : Int32)), .unset] [(.int (0 : Int32)), (.int (0 : Int32))])) _
      refine XS.icmpNo X147.here hx rfl (hb hby at_139) rfl (teq (by decide : (0 : Int32) = (0 : Int32))).2 ?_
      show Steps p.tables e below (T147.setTop (mkF m 142 #[.val (.int p0), .val (.int p1), .val (.int p2), .val (.int p3), .val (.int (0 : Int32)), .val (.ref b136), .val (.int (2 : Int32)), .val (.int p2), .val (.int p0), .val (.int (1 : Int32)), .val (.int p2), .val (.int p2), .val (.int (0 : Int32)), .unset] [])) _
      refine XS.iconst X147.here hx rfl (hb hby at_142) ?_
      show Steps p.tables e below (T147.setTop (mkF m 143 #[.val (.int p0), .val (.int p1), .val (.int p2), .val (.int p3), .val (.int (0 : Int32)), .val (.ref b136), .val (.int (2 : Int32)), .val (.int p2), .val (.int p0), .val (.int (1 : Int32)), .val (.int p2), .val (.int p2), .val (.int (0 : Int32)), .unset] [(.int (1 : Int32))])) _
      refine XS.goto X147.here hx rfl (pc0 := 143) (pc' := 147) rfl (hb hby at_143) (by decide) (by decide) ?_
      show Steps p.tables e below (T147.setTop (mkF m 147 #[.val (.int p0), .val (.int p1), .val (.int p2), .val (.int p3), .val (.int (0 : Int32)), .val (.ref b136), .val (.int (2 : Int32)), .val (.int p2), .val (.int p0), .val (.int (1 : Int32)), .val (.int p2), .val (.int p2), .val (.int (0 : Int32)), .unset] [(.int (1 : Int32))])) _
      refine XS.istore X147.here hx rfl (hb hby at_147) rfl (l' := #[.val (.int p0), .val (.int p1), .val (.int p2), .val (.int p3), .val (.int (0 : Int32)), .val (.ref b136), .val (.int (2 : Int32)), .val (.int p2), .val (.int p0), .val (.int (1 : Int32)), .val (.int p2), .val (.int p2), .val (.int (0 : Int32)), .val (.int (1 : Int32))]) rfl ?_
      show Steps p.tables e below (T147.setTop (mkF m 149 #[.val (.int p0), .val (.int p1), .val (.int p2), .val (.int p3), .val (.int (0 : Int32)), .val (.ref b136), .val (.int (2 : Int32)), .val (.int p2), .val (.int p0), .val (.int (1 : Int32)), .val (.int p2), .val (.int p2), .val (.int (0 : Int32)), .val (.int (1 : Int32))] [])) _
      refine XS.iload X147.here hx rfl (hb hby at_149) rfl ?_
      show Steps p.tables e below (T147.setTop (mkF m 151 #[.val (.int p0), .val (.int p1), .val (.int p2), .val (.int p3), .val (.int (0 : Int32)), .val (.ref b136), .val (.int (2 : Int32)), .val (.int p2), .val (.int p0), .val (.int (1 : Int32)), .val (.int p2), .val (.int p2), .val (.int (0 : Int32)), .val (.int (1 : Int32))] [(.int (0 : Int32))])) _
      refine XS.ifYes X147.here hx rfl (pc0 := 151) (pc' := 175) rfl (hb hby at_151) rfl ((if0 _ _).trans (teq (by decide : (0 : Int32) = (0 : Int32))).1) (by decide) (by decide) ?_
      show Steps p.tables e below (T147.setTop (mkF m 175 #[.val (.int p0), .val (.int p1), .val (.int p2), .val (.int p3), .val (.int (0 : Int32)), .val (.ref b136), .val (.int (2 : Int32)), .val (.int p2), .val (.int p0), .val (.int (1 : Int32)), .val (.int p2), .val (.int p2), .val (.int (0 : Int32)), .val (.int (1 : Int32))] [])) _
      refine XS.iload X147.here hx rfl (hb hby at_175) rfl ?_
      show Steps p.tables e below (T147.setTop (mkF m 177 #[.val (.int p0), .val (.int p1), .val (.int p2), .val (.int p3), .val (.int (0 : Int32)), .val (.ref b136), .val (.int (2 : Int32)), .val (.int p2), .val (.int p0), .val (.int (1 : Int32)), .val (.int p2), .val (.int p2), .val (.int (0 : Int32)), .val (.int (1 : Int32))] [(.int (1 : Int32))])) _
      exact retN X147 hx (t := .boolean) Bd.returns (by simp) (hb hby at_177) hr
    · show own_Q0 Z u p0 p1 p2 p3 h0 n0 _ T147.heap _
      rw [e147]
      exact ⟨rfl, N147, trivial⟩
  · --
    obtain ⟨T149, h149, X149, e149, E149, A149, D149, -, st149⟩ := newO X0 hx hZ hown (hw _ (List.mem_of_getElem? (i := 0) rfl)) (hw _ (List.mem_of_getElem? (i := 1) rfl)) (hw _ (List.mem_of_getElem? (i := 2) rfl)) e0 (g := (mkF m 13 #[.val (.int p0), .val (.int p1), .val (.int p2), .val (.int p3), .val (.int (1 : Int32)), .unset, .unset, .unset, .unset, .unset, .unset, .unset, .unset, .unset] [])) rfl (hb hby at_13) (by decide) (by decide)
    obtain ⟨b149, g149⟩ : ∃ z, z = h0.size := ⟨_, rfl⟩
    rw [← g149] at A149 D149 st149
    have gx_b149 : n0 ≤ b149 := Nat.le_trans (O.1 ▸ O.2.1) (Nat.le_of_eq g149.symm)
    have sz_b149 : h0.size ≤ b149 := Nat.le_trans K0.1 (Nat.le_of_eq g149.symm)
    have O149 := O.ext E149
    have K149 := K0.ext E149
    have F_ring_b149 : Fld Z h149 b149 "com/example/wakachi/wakachi/match/IntDeque" "ring" "[I" .null := D149 (Or.inl (hw _ (List.mem_of_getElem? (i := 12) rfl))) (ty := (.array .int)) (by decide)
    have F_size_b149 : Fld Z h149 b149 "com/example/wakachi/wakachi/match/IntDeque" "size" "I" (.int (0 : Int32)) := D149 (Or.inl (hw _ (List.mem_of_getElem? (i := 19) rfl))) (ty := .int) (by decide)
    have F_head_b149 : Fld Z h149 b149 "com/example/wakachi/wakachi/match/IntDeque" "head" "I" (.int (0 : Int32)) := D149 (Or.inl (hw _ (List.mem_of_getElem? (i := 30) rfl))) (ty := .int) (by decide)
    obtain ⟨vr150, _, ⟨T150, L150, k150, n150⟩, -, X150, ⟨Lc150, hQ150, l150, y150, z150⟩, st150⟩ := X149.specialBack hx (y := (⟨"com/example/wakachi/wakachi/match/IntDeque", "<init>", "()V"⟩ : MethodName)) rfl hown (mvT hZ (hw _ (List.mem_of_getElem? (i := 3) rfl))) (mvT hZ (hw _ (List.mem_of_getElem? (i := 4) rfl))) (mvT hZ (hw _ (List.mem_of_getElem? (i := 5) rfl))) (by decide) (backOf (W := 1) (rm1 l Z a0 hw [] u b149 B h149 n0 O149 A149 F_ring_b149 F_head_b149 F_size_b149 gx_b149) hZ (hw _ (List.mem_of_getElem? (i := 5) rfl)) (hw _ (List.mem_of_getElem? (i := 2) rfl)) (by decide) (by decide)) (g := (mkF m 17 #[.val (.int p0), .val (.int p1), .val (.int p2), .val (.int p3), .val (.int (1 : Int32)), .unset, .unset, .unset, .unset, .unset, .unset, .unset, .unset, .unset] [(.ref b149), (.ref b149)])) rfl (by rw [hml]; rfl) (Steps.refl _) (a := b149) (argsL := []) (rest := [(.ref b149)]) (lenOf own_pd1 rfl) rfl (by show 2 * 0 + _ ≤ _; exact Nat.le_of_eq rfl) (hb hby at_17) (fun _ _ => ⟨rfl, e149, (by decide : 1 + 0 ≤ _), (by decide : 3 + 0 ≤ _)⟩)
    dsimp only [Pt.U, Pt.locs, Pt.cells, Pt.slots] at X150 l150 y150 z150 st150 hQ150
    subst l150 y150 z150
    obtain ⟨rfl, N150q, Kq150, x150E, x150r, x150h, x150s⟩ := hQ150
    have N150 := Fr.app N0 N150q
    have O150 := O149.keep Kq150 (allS gx_b149 all0)
    have K150 := Keep.trans K149 Kq150 (allS (Or.inr sz_b149) all0)
    have x150h' : Fld Z T150.heap b149 "com/example/wakachi/wakachi/match/IntDeque" "head" "I" (.int (0 : Int32)) := x150h
    have x150s' : Fld Z T150.heap b149 "com/example/wakachi/wakachi/match/IntDeque" "size" "I" (.int (0 : Int32)) := x150s
    obtain ⟨cq151, kq151, q151a, q151b, q151c⟩ := isOf hZ rfl x150E
    obtain ⟨vr151, _, ⟨T151, L151, k151, n151⟩, -, X151, ⟨Lc151, hQ151, l151, y151, z151⟩, st151⟩ := X150.virtualBack hx (y := (⟨"com/example/wakachi/wakachi/match/IntDeque", "add", "(I)V"⟩ : MethodName)) (z := (⟨"com/example/wakachi/wakachi/match/IntDeque", "add", "(I)V"⟩ : MethodName)) hown (mvT hZ (hw _ (List.mem_of_getElem? (i := 13) rfl))) (mvT hZ (hw _ (List.mem_of_getElem? (i := 14) rfl))) (notFace_of_selects (args := #[]) (mvT hZ (hw _ (List.mem_of_getElem? (i := 16) rfl)))) (mvT hZ (hw _ (List.mem_of_getElem? (i := 16) rfl))) (mvT hZ (hw _ (List.mem_of_getElem? (i := 15) rfl))) (by decide) (backOf (W := 0) (rmadd0 l Z a0 hw [] u b149 p0 B T150.heap n0 O150 x150E x150r x150h' x150s' gx_b149) hZ (hw _ (List.mem_of_getElem? (i := 17) rfl)) (hw _ (List.mem_of_getElem? (i := 2) rfl)) (by decide) (by decide)) q151a q151c (g := (mkF m 25 #[.val (.int p0), .val (.int p1), .val (.int p2), .val (.int p3), .val (.int (1 : Int32)), .val (.ref b149), .unset, .unset, .unset, .unset, .unset, .unset, .unset, .unset] [(.int p0), (.ref b149)])) rfl (by rw [hml]; rfl) (Steps.refl _) (argsL := [(.int p0)]) (rest := []) (lenOf own_pd2 rfl) rfl (by show 2 * 0 + _ ≤ _; exact Nat.le_of_eq rfl) (hb hby at_25) (fun _ _ => ⟨rfl, rfl, (by decide : 1 + 1 ≤ _), (by decide : 3 + 16 ≤ _)⟩)
    dsimp only [Pt.U, Pt.locs, Pt.cells, Pt.slots] at X151 l151 y151 z151 st151 hQ151
    subst l151 y151 z151
    obtain ⟨b151, k151v, rfl, N151q, Kq151, gx_b151, zz151, x151E, x151r, x151h, x151s, V_b151⟩ := hQ151
    have N151 := Fr.app N150 N151q
    have sz_b151 : h0.size ≤ b151 := Nat.le_trans K150.1 zz151
    have ne152 : b149 ≠ b151 := Nat.ne_of_lt (Nat.lt_of_lt_of_le x150s'.lt zz151)
    have O151 := O150.keep Kq151 (allS gx_b149 all0)
    have K151 := Keep.trans K150 Kq151 (allS (Or.inr sz_b149) all0)
    have x151h' : Fld Z T151.heap b149 "com/example/wakachi/wakachi/match/IntDeque" "head" "I" (.int (0 : Int32)) := x151h
    have x151s' : Fld Z T151.heap b149 "com/example/wakachi/wakachi/match/IntDeque" "size" "I" (.int (1 : Int32)) := x151s
    obtain ⟨cq153, kq153, q153a, q153b, q153c⟩ := isOf hZ rfl x151E
    obtain ⟨vr153, _, ⟨T153, L153, k153, n153⟩, -, X153, ⟨Lc153, hQ153, l153, y153, z153⟩, st153⟩ := X151.virtualBack hx (y := (⟨"com/example/wakachi/wakachi/match/IntDeque", "add", "(I)V"⟩ : MethodName)) (z := (⟨"com/example/wakachi/wakachi/match/IntDeque", "add", "(I)V"⟩ : MethodName)) hown (mvT hZ (hw _ (List.mem_of_getElem? (i := 13) rfl))) (mvT hZ (hw _ (List.mem_of_getElem? (i := 14) rfl))) (notFace_of_selects (args := #[]) (mvT hZ (hw _ (List.mem_of_getElem? (i := 16) rfl)))) (mvT hZ (hw _ (List.mem_of_getElem? (i := 16) rfl))) (mvT hZ (hw _ (List.mem_of_getElem? (i := 15) rfl))) (by decide) (backOf (W := 0) (rmaddN l Z a0 hw [] u b149 p1 b151 (0 : Int32) (1 : Int32) k151v [.int p0, .int (0 : Int32), .int (0 : Int32), .int (0 : Int32), .int (0 : Int32), .int (0 : Int32), .int (0 : Int32), .int (0 : Int32), .int (0 : Int32), .int (0 : Int32), .int (0 : Int32), .int (0 : Int32), .int (0 : Int32), .int (0 : Int32), .int (0 : Int32), .int (0 : Int32)] 1 B T151.heap n0 O151 x151E x151r x151h' x151s' gx_b149 gx_b151 ne152 V_b151 (by decide) (by decide) (by decide) (Nat.le_of_ble_eq_true rfl)) hZ (hw _ (List.mem_of_getElem? (i := 17) rfl)) (hw _ (List.mem_of_getElem? (i := 2) rfl)) (by decide) (by decide)) q153a q153c (g := (mkF m 36 #[.val (.int p0), .val (.int p1), .val (.int p2), .val (.int p3), .val (.int (1 : Int32)), .val (.ref b149), .unset, .unset, .unset, .unset, .unset, .unset, .unset, .unset] [(.int p1), (.ref b149)])) rfl (by rw [hml]; rfl) (Steps.refl _) (argsL := [(.int p1)]) (rest := []) (lenOf own_pd2 rfl) rfl (by show 2 * 0 + _ ≤ _; exact Nat.le_of_eq rfl) (hb hby at_36) (fun _ _ => ⟨rfl, rfl, (by decide : 2 + 0 ≤ _), (by decide : 19 + 0 ≤ _)⟩)
    dsimp only [Pt.U, Pt.locs, Pt.cells, Pt.slots] at X153 l153 y153 z153 st153 hQ153
    subst l153 y153 z153
    obtain ⟨rfl, N153q, Kq153, x153E, x153r, x153h, x153s, x153V⟩ := hQ153
    have N153 := Fr.app N151 N153q
    have O153 := O151.keep Kq153 (allS gx_b149 (allS gx_b151 all0))
    have K153 := Keep.trans K151 Kq153 (allS (Or.inr sz_b149) (allS (Or.inr sz_b151) all0))
    have x153h' : Fld Z T153.heap b149 "com/example/wakachi/wakachi/match/IntDeque" "head" "I" (.int (0 : Int32)) := x153h
    have x153s' : Fld Z T153.heap b149 "com/example/wakachi/wakachi/match/IntDeque" "size" "I" (.int (2 : Int32)) := x153s
    have x153W : Arv Z T153.heap b151 k151v .int (16 : Int32) [.int p0, .int p1, .int (0 : Int32), .int (0 : Int32), .int (0 : Int32), .int (0 : Int32), .int (0 : Int32), .int (0 : Int32), .int (0 : Int32), .int (0 : Int32), .int (0 : Int32), .int (0 : Int32), .int (0 : Int32), .int (0 : Int32), .int (0 : Int32), .int (0 : Int32)] (.int (0 : Int32)) := x153V
    obtain ⟨cq154, kq154, q154a, q154b, q154c⟩ := isOf hZ rfl x153E
    obtain ⟨vr154, _, ⟨T154, L154, k154, n154⟩, -, X154, ⟨Lc154, hQ154, l154, y154, z154⟩, st154⟩ := X153.virtualBack hx (y := (⟨"com/example/wakachi/wakachi/match/IntDeque", "add", "(I)V"⟩ : MethodName)) (z := (⟨"com/example/wakachi/wakachi/match/IntDeque", "add", "(I)V"⟩ : MethodName)) hown (mvT hZ (hw _ (List.mem_of_getElem? (i := 13) rfl))) (mvT hZ (hw _ (List.mem_of_getElem? (i := 14) rfl))) (notFace_of_selects (args := #[]) (mvT hZ (hw _ (List.mem_of_getElem? (i := 16) rfl)))) (mvT hZ (hw _ (List.mem_of_getElem? (i := 16) rfl))) (mvT hZ (hw _ (List.mem_of_getElem? (i := 15) rfl))) (by decide) (backOf (W := 0) (rmaddN l Z a0 hw [] u b149 p2 b151 (0 : Int32) (2 : Int32) k151v [.int p0, .int p1, .int (0 : Int32), .int (0 : Int32), .int (0 : Int32), .int (0 : Int32), .int (0 : Int32), .int (0 : Int32), .int (0 : Int32), .int (0 : Int32), .int (0 : Int32), .int (0 : Int32), .int (0 : Int32), .int (0 : Int32), .int (0 : Int32), .int (0 : Int32)] 2 B T153.heap n0 O153 x153E x153r x153h' x153s' gx_b149 gx_b151 ne152 x153W (by decide) (by decide) (by decide) (Nat.le_of_ble_eq_true rfl)) hZ (hw _ (List.mem_of_getElem? (i := 17) rfl)) (hw _ (List.mem_of_getElem? (i := 2) rfl)) (by decide) (by decide)) q154a q154c (g := (mkF m 42 #[.val (.int p0), .val (.int p1), .val (.int p2), .val (.int p3), .val (.int (1 : Int32)), .val (.ref b149), .unset, .unset, .unset, .unset, .unset, .unset, .unset, .unset] [(.int p2), (.ref b149)])) rfl (by rw [hml]; rfl) (Steps.refl _) (argsL := [(.int p2)]) (rest := []) (lenOf own_pd2 rfl) rfl (by show 2 * 0 + _ ≤ _; exact Nat.le_of_eq rfl) (hb hby at_42) (fun _ _ => ⟨rfl, rfl, (by decide : 2 + 0 ≤ _), (by decide : 19 + 0 ≤ _)⟩)
    dsimp only [Pt.U, Pt.locs, Pt.cells, Pt.slots] at X154 l154 y154 z154 st154 hQ154
    subst l154 y154 z154
    obtain ⟨rfl, N154q, Kq154, x154E, x154r, x154h, x154s, x154V⟩ := hQ154
    have N154 := Fr.app N153 N154q
    have O154 := O153.keep Kq154 (allS gx_b149 (allS gx_b151 all0))
    have K154 := Keep.trans K153 Kq154 (allS (Or.inr sz_b149) (allS (Or.inr sz_b151) all0))
    have x154h' : Fld Z T154.heap b149 "com/example/wakachi/wakachi/match/IntDeque" "head" "I" (.int (0 : Int32)) := x154h
    have x154s' : Fld Z T154.heap b149 "com/example/wakachi/wakachi/match/IntDeque" "size" "I" (.int (3 : Int32)) := x154s
    have x154W : Arv Z T154.heap b151 k151v .int (16 : Int32) [.int p0, .int p1, .int p2, .int (0 : Int32), .int (0 : Int32), .int (0 : Int32), .int (0 : Int32), .int (0 : Int32), .int (0 : Int32), .int (0 : Int32), .int (0 : Int32), .int (0 : Int32), .int (0 : Int32), .int (0 : Int32), .int (0 : Int32), .int (0 : Int32)] (.int (0 : Int32)) := x154V
    obtain ⟨cq155, kq155, q155a, q155b, q155c⟩ := isOf hZ rfl x154E
    obtain ⟨vr155, _, ⟨T155, L155, k155, n155⟩, -, X155, ⟨Lc155, hQ155, l155, y155, z155⟩, st155⟩ := X154.virtualBack hx (y := (⟨"com/example/wakachi/wakachi/match/IntDeque", "removeFirst", "()I"⟩ : MethodName)) (z := (⟨"com/example/wakachi/wakachi/match/IntDeque", "removeFirst", "()I"⟩ : MethodName)) hown (mvT hZ (hw _ (List.mem_of_getElem? (i := 31) rfl))) (mvT hZ (hw _ (List.mem_of_getElem? (i := 32) rfl))) (notFace_of_selects (args := #[]) (mvT hZ (hw _ (List.mem_of_getElem? (i := 34) rfl)))) (mvT hZ (hw _ (List.mem_of_getElem? (i := 34) rfl))) (mvT hZ (hw _ (List.mem_of_getElem? (i := 33) rfl))) (by decide) (backOf (W := 0) (rm6 l Z a0 hw [] u b149 b151 (0 : Int32) (3 : Int32) k151v [.int p0, .int p1, .int p2, .int (0 : Int32), .int (0 : Int32), .int (0 : Int32), .int (0 : Int32), .int (0 : Int32), .int (0 : Int32), .int (0 : Int32), .int (0 : Int32), .int (0 : Int32), .int (0 : Int32), .int (0 : Int32), .int (0 : Int32), .int (0 : Int32)] p0 B T154.heap n0 O154 x154E x154r x154h' x154s' gx_b149 gx_b151 ne152 x154W (by decide) rfl) hZ (hw _ (List.mem_of_getElem? (i := 35) rfl)) (hw _ (List.mem_of_getElem? (i := 2) rfl)) (by decide) (by decide)) q155a q155c (g := (mkF m 71 #[.val (.int p0), .val (.int p1), .val (.int p2), .val (.int p3), .val (.int (1 : Int32)), .val (.ref b149), .val (.int (3 : Int32)), .val (.int p1), .unset, .unset, .unset, .unset, .unset, .unset] [(.ref b149)])) rfl (by rw [hml]; rfl) (Steps.refl _) (argsL := []) (rest := []) (lenOf own_pd3 rfl) rfl (by show 2 * 0 + _ ≤ _; exact Nat.le_of_eq rfl) (hb hby at_71) (fun _ _ => ⟨rfl, rfl, (by decide : 2 + 0 ≤ _), (by decide : 19 + 0 ≤ _)⟩)
    dsimp only [Pt.U, Pt.locs, Pt.cells, Pt.slots] at X155 l155 y155 z155 st155 hQ155
    subst l155 y155 z155
    obtain ⟨rfl, N155q, Kq155, x155E, x155r, x155h, x155s⟩ := hQ155
    have N155 := Fr.app N154 N155q
    have O155 := O154.keep Kq155 (allS gx_b149 all0)
    have K155 := Keep.trans K154 Kq155 (allS (Or.inr sz_b149) all0)
    have f156 := x154W.keep Kq155 (ninS (Ne.symm ne152) nin0)
    have x155h' : Fld Z T155.heap b149 "com/example/wakachi/wakachi/match/IntDeque" "head" "I" (.int (1 : Int32)) := x155h
    have x155s' : Fld Z T155.heap b149 "com/example/wakachi/wakachi/match/IntDeque" "size" "I" (.int (2 : Int32)) := x155s
    obtain ⟨cq157, kq157, q157a, q157b, q157c⟩ := isOf hZ rfl x155E
    obtain ⟨vr157, _, ⟨T157, L157, k157, n157⟩, -, X157, ⟨Lc157, hQ157, l157, y157, z157⟩, st157⟩ := X155.virtualBack hx (y := (⟨"com/example/wakachi/wakachi/match/IntDeque", "size", "()I"⟩ : MethodName)) (z := (⟨"com/example/wakachi/wakachi/match/IntDeque", "size", "()I"⟩ : MethodName)) hown (mvT hZ (hw _ (List.mem_of_getElem? (i := 36) rfl))) (mvT hZ (hw _ (List.mem_of_getElem? (i := 37) rfl))) (notFace_of_selects (args := #[]) (mvT hZ (hw _ (List.mem_of_getElem? (i := 39) rfl)))) (mvT hZ (hw _ (List.mem_of_getElem? (i := 39) rfl))) (mvT hZ (hw _ (List.mem_of_getElem? (i := 38) rfl))) (by decide) (backOf (W := 0) (rm7 l Z a0 hw [] u b149 (2 : Int32) B T155.heap n0 O155 x155s') hZ (hw _ (List.mem_of_getElem? (i := 40) rfl)) (hw _ (List.mem_of_getElem? (i := 2) rfl)) (by decide) (by decide)) q157a q157c (g := (mkF m 78 #[.val (.int p0), .val (.int p1), .val (.int p2), .val (.int p3), .val (.int (1 : Int32)), .val (.ref b149), .val (.int (3 : Int32)), .val (.int p1), .val (.int p0), .unset, .unset, .unset, .unset, .unset] [(.ref b149)])) rfl (by rw [hml]; rfl) (Steps.refl _) (argsL := []) (rest := []) (lenOf own_pd3 rfl) rfl (by show 2 * 0 + _ ≤ _; exact Nat.le_of_eq rfl) (hb hby at_78) (fun _ _ => ⟨rfl, rfl, (by decide : 2 + 0 ≤ _), (by decide : 19 + 0 ≤ _)⟩)
    dsimp only [Pt.U, Pt.locs, Pt.cells, Pt.slots] at X157 l157 y157 z157 st157 hQ157
    subst l157 y157 z157
    obtain ⟨rfl, N157q, e157⟩ := hQ157
    have N157 := Fr.app N155 N157q
    obtain ⟨cq158, kq158, q158a, q158b, q158c⟩ := isOf hZ e157 x155E
    obtain ⟨vr158, _, ⟨T158, L158, k158, n158⟩, -, X158, ⟨Lc158, hQ158, l158, y158, z158⟩, st158⟩ := X157.virtualBack hx (y := (⟨"com/example/wakachi/wakachi/match/IntDeque", "first", "()I"⟩ : MethodName)) (z := (⟨"com/example/wakachi/wakachi/match/IntDeque", "first", "()I"⟩ : MethodName)) hown (mvT hZ (hw _ (List.mem_of_getElem? (i := 41) rfl))) (mvT hZ (hw _ (List.mem_of_getElem? (i := 42) rfl))) (notFace_of_selects (args := #[]) (mvT hZ (hw _ (List.mem_of_getElem? (i := 44) rfl)))) (mvT hZ (hw _ (List.mem_of_getElem? (i := 44) rfl))) (mvT hZ (hw _ (List.mem_of_getElem? (i := 43) rfl))) (by decide) (backOf (W := 0) (rm8 l Z a0 hw [] u b149 b151 (1 : Int32) (2 : Int32) k151v [.int p0, .int p1, .int p2, .int (0 : Int32), .int (0 : Int32), .int (0 : Int32), .int (0 : Int32), .int (0 : Int32), .int (0 : Int32), .int (0 : Int32), .int (0 : Int32), .int (0 : Int32), .int (0 : Int32), .int (0 : Int32), .int (0 : Int32), .int (0 : Int32)] p1 B T155.heap n0 O155 x155E x155r x155h' x155s' gx_b149 gx_b151 ne152 f156 (by decide) rfl) hZ (hw _ (List.mem_of_getElem? (i := 45) rfl)) (hw _ (List.mem_of_getElem? (i := 2) rfl)) (by decide) (by decide)) q158a q158c (g := (mkF m 85 #[.val (.int p0), .val (.int p1), .val (.int p2), .val (.int p3), .val (.int (1 : Int32)), .val (.ref b149), .val (.int (3 : Int32)), .val (.int p1), .val (.int p0), .val (.int (2 : Int32)), .unset, .unset, .unset, .unset] [(.ref b149)])) rfl (by rw [hml]; rfl) (Steps.refl _) (argsL := []) (rest := []) (lenOf own_pd3 rfl) rfl (by show 2 * 0 + _ ≤ _; exact Nat.le_of_eq rfl) (hb hby at_85) (fun _ _ => ⟨rfl, e157, (by decide : 2 + 0 ≤ _), (by decide : 19 + 0 ≤ _)⟩)
    dsimp only [Pt.U, Pt.locs, Pt.cells, Pt.slots] at X158 l158 y158 z158 st158 hQ158
    subst l158 y158 z158
    obtain ⟨rfl, N158q, e158⟩ := hQ158
    have N158 := Fr.app N157 N158q
    obtain ⟨cq159, kq159, q159a, q159b, q159c⟩ := isOf hZ e158 x155E
    obtain ⟨vr159, _, ⟨T159, L159, k159, n159⟩, -, X159, ⟨Lc159, hQ159, l159, y159, z159⟩, st159⟩ := X158.virtualBack hx (y := (⟨"com/example/wakachi/wakachi/match/IntDeque", "removeFirst", "()I"⟩ : MethodName)) (z := (⟨"com/example/wakachi/wakachi/match/IntDeque", "removeFirst", "()I"⟩ : MethodName)) hown (mvT hZ (hw _ (List.mem_of_getElem? (i := 31) rfl))) (mvT hZ (hw _ (List.mem_of_getElem? (i := 32) rfl))) (notFace_of_selects (args := #[]) (mvT hZ (hw _ (List.mem_of_getElem? (i := 34) rfl)))) (mvT hZ (hw _ (List.mem_of_getElem? (i := 34) rfl))) (mvT hZ (hw _ (List.mem_of_getElem? (i := 33) rfl))) (by decide) (backOf (W := 0) (rm6 l Z a0 hw [] u b149 b151 (1 : Int32) (2 : Int32) k151v [.int p0, .int p1, .int p2, .int (0 : Int32), .int (0 : Int32), .int (0 : Int32), .int (0 : Int32), .int (0 : Int32), .int (0 : Int32), .int (0 : Int32), .int (0 : Int32), .int (0 : Int32), .int (0 : Int32), .int (0 : Int32), .int (0 : Int32), .int (0 : Int32)] p1 B T155.heap n0 O155 x155E x155r x155h' x155s' gx_b149 gx_b151 ne152 f156 (by decide) rfl) hZ (hw _ (List.mem_of_getElem? (i := 35) rfl)) (hw _ (List.mem_of_getElem? (i := 2) rfl)) (by decide) (by decide)) q159a q159c (g := (mkF m 92 #[.val (.int p0), .val (.int p1), .val (.int p2), .val (.int p3), .val (.int (1 : Int32)), .val (.ref b149), .val (.int (3 : Int32)), .val (.int p1), .val (.int p0), .val (.int (2 : Int32)), .val (.int p1), .unset, .unset, .unset] [(.ref b149)])) rfl (by rw [hml]; rfl) (Steps.refl _) (argsL := []) (rest := []) (lenOf own_pd3 rfl) rfl (by show 2 * 0 + _ ≤ _; exact Nat.le_of_eq rfl) (hb hby at_92) (fun _ _ => ⟨rfl, e158, (by decide : 2 + 0 ≤ _), (by decide : 19 + 0 ≤ _)⟩)
    dsimp only [Pt.U, Pt.locs, Pt.cells, Pt.slots] at X159 l159 y159 z159 st159 hQ159
    subst l159 y159 z159
    obtain ⟨rfl, N159q, Kq159, x159E, x159r, x159h, x159s⟩ := hQ159
    have N159 := Fr.app N158 N159q
    have O159 := O155.keep Kq159 (allS gx_b149 all0)
    have K159 := Keep.trans K155 Kq159 (allS (Or.inr sz_b149) all0)
    have f160 := f156.keep Kq159 (ninS (Ne.symm ne152) nin0)
    have x159h' : Fld Z T159.heap b149 "com/example/wakachi/wakachi/match/IntDeque" "head" "I" (.int (2 : Int32)) := x159h
    have x159s' : Fld Z T159.heap b149 "com/example/wakachi/wakachi/match/IntDeque" "size" "I" (.int (1 : Int32)) := x159s
    obtain ⟨cq161, kq161, q161a, q161b, q161c⟩ := isOf hZ rfl x159E
    obtain ⟨vr161, _, ⟨T161, L161, k161, n161⟩, -, X161, ⟨Lc161, hQ161, l161, y161, z161⟩, st161⟩ := X159.virtualBack hx (y := (⟨"com/example/wakachi/wakachi/match/IntDeque", "size", "()I"⟩ : MethodName)) (z := (⟨"com/example/wakachi/wakachi/match/IntDeque", "size", "()I"⟩ : MethodName)) hown (mvT hZ (hw _ (List.mem_of_getElem? (i := 36) rfl))) (mvT hZ (hw _ (List.mem_of_getElem? (i := 37) rfl))) (notFace_of_selects (args := #[]) (mvT hZ (hw _ (List.mem_of_getElem? (i := 39) rfl)))) (mvT hZ (hw _ (List.mem_of_getElem? (i := 39) rfl))) (mvT hZ (hw _ (List.mem_of_getElem? (i := 38) rfl))) (by decide) (backOf (W := 0) (rm7 l Z a0 hw [] u b149 (1 : Int32) B T159.heap n0 O159 x159s') hZ (hw _ (List.mem_of_getElem? (i := 40) rfl)) (hw _ (List.mem_of_getElem? (i := 2) rfl)) (by decide) (by decide)) q161a q161c (g := (mkF m 99 #[.val (.int p0), .val (.int p1), .val (.int p2), .val (.int p3), .val (.int (1 : Int32)), .val (.ref b149), .val (.int (3 : Int32)), .val (.int p1), .val (.int p0), .val (.int (2 : Int32)), .val (.int p1), .val (.int p1), .unset, .unset] [(.ref b149)])) rfl (by rw [hml]; rfl) (Steps.refl _) (argsL := []) (rest := []) (lenOf own_pd3 rfl) rfl (by show 2 * 0 + _ ≤ _; exact Nat.le_of_eq rfl) (hb hby at_99) (fun _ _ => ⟨rfl, rfl, (by decide : 2 + 0 ≤ _), (by decide : 19 + 0 ≤ _)⟩)
    dsimp only [Pt.U, Pt.locs, Pt.cells, Pt.slots] at X161 l161 y161 z161 st161 hQ161
    subst l161 y161 z161
    obtain ⟨rfl, N161q, e161⟩ := hQ161
    have N161 := Fr.app N159 N161q
    obtain ⟨cq162, kq162, q162a, q162b, q162c⟩ := isOf hZ e161 x159E
    obtain ⟨vr162, _, ⟨T162, L162, k162, n162⟩, -, X162, ⟨Lc162, hQ162, l162, y162, z162⟩, st162⟩ := X161.virtualBack hx (y := (⟨"com/example/wakachi/wakachi/match/IntDeque", "first", "()I"⟩ : MethodName)) (z := (⟨"com/example/wakachi/wakachi/match/IntDeque", "first", "()I"⟩ : MethodName)) hown (mvT hZ (hw _ (List.mem_of_getElem? (i := 41) rfl))) (mvT hZ (hw _ (List.mem_of_getElem? (i := 42) rfl))) (notFace_of_selects (args := #[]) (mvT hZ (hw _ (List.mem_of_getElem? (i := 44) rfl)))) (mvT hZ (hw _ (List.mem_of_getElem? (i := 44) rfl))) (mvT hZ (hw _ (List.mem_of_getElem? (i := 43) rfl))) (by decide) (backOf (W := 0) (rm8 l Z a0 hw [] u b149 b151 (2 : Int32) (1 : Int32) k151v [.int p0, .int p1, .int p2, .int (0 : Int32), .int (0 : Int32), .int (0 : Int32), .int (0 : Int32), .int (0 : Int32), .int (0 : Int32), .int (0 : Int32), .int (0 : Int32), .int (0 : Int32), .int (0 : Int32), .int (0 : Int32), .int (0 : Int32), .int (0 : Int32)] p2 B T159.heap n0 O159 x159E x159r x159h' x159s' gx_b149 gx_b151 ne152 f160 (by decide) rfl) hZ (hw _ (List.mem_of_getElem? (i := 45) rfl)) (hw _ (List.mem_of_getElem? (i := 2) rfl)) (by decide) (by decide)) q162a q162c (g := (mkF m 161 #[.val (.int p0), .val (.int p1), .val (.int p2), .val (.int p3), .val (.int (1 : Int32)), .val (.ref b149), .val (.int (3 : Int32)), .val (.int p1), .val (.int p0), .val (.int (2 : Int32)), .val (.int p1), .val (.int p1), .val (.int (1 : Int32)), .val (.int (1 : Int32))] [(.ref b149)])) rfl (by rw [hml]; rfl) (Steps.refl _) (argsL := []) (rest := []) (lenOf own_pd3 rfl) rfl (by show 2 * 0 + _ ≤ _; exact Nat.le_of_eq rfl) (hb hby at_161) (fun _ _ => ⟨rfl, e161, (by decide : 2 + 0 ≤ _), (by decide : 19 + 0 ≤ _)⟩)
    dsimp only [Pt.U, Pt.locs, Pt.cells, Pt.slots] at X162 l162 y162 z162 st162 hQ162
    subst l162 y162 z162
    obtain ⟨rfl, N162q, e162⟩ := hQ162
    have N162 := Fr.app N161 N162q
    obtain ⟨fs, hr, hrun, hended, hW, hsame⟩ := X162.leave (v := some (.int (1 : Int32))) (fun h => by rw [Bd.returns] at h; cases h)
    refine ⟨_, _, pre134 _ ?_, hrun, hended, _, _, rfl, ?_, ⟨_, rfl⟩, hW, hsame.mono (by decide) (by decide)⟩
    · show Steps p.tables e below (s₁.setTop (mkF m 3 #[.val (.int p0), .val (.int p1), .val (.int p2), .val (.int p3), .unset, .unset, .unset, .unset, .unset, .unset, .unset, .unset, .unset, .unset] [(.int (p3 &&& (1 : Int32)))])) _
      refine XS.ifNo X0.here hx rfl (hb hby at_3) rfl ((if0 _ _).trans (feq hc135).1) ?_
      show Steps p.tables e below (s₁.setTop (mkF m 6 #[.val (.int p0), .val (.int p1), .val (.int p2), .val (.int p3), .unset, .unset, .unset, .unset, .unset, .unset, .unset, .unset, .unset, .unset] [])) _
      refine XS.iconst X0.here hx rfl (hb hby at_6) ?_
      show Steps p.tables e below (s₁.setTop (mkF m 7 #[.val (.int p0), .val (.int p1), .val (.int p2), .val (.int p3), .unset, .unset, .unset, .unset, .unset, .unset, .unset, .unset, .unset, .unset] [(.int (1 : Int32))])) _
      refine XS.goto X0.here hx rfl (pc0 := 7) (pc' := 11) rfl (hb hby at_7) (by decide) (by decide) ?_
      show Steps p.tables e below (s₁.setTop (mkF m 11 #[.val (.int p0), .val (.int p1), .val (.int p2), .val (.int p3), .unset, .unset, .unset, .unset, .unset, .unset, .unset, .unset, .unset, .unset] [(.int (1 : Int32))])) _
      refine XS.istore X0.here hx rfl (hb hby at_11) rfl (l' := #[.val (.int p0), .val (.int p1), .val (.int p2), .val (.int p3), .val (.int (1 : Int32)), .unset, .unset, .unset, .unset, .unset, .unset, .unset, .unset, .unset]) rfl ?_
      show Steps p.tables e below (s₁.setTop (mkF m 13 #[.val (.int p0), .val (.int p1), .val (.int p2), .val (.int p3), .val (.int (1 : Int32)), .unset, .unset, .unset, .unset, .unset, .unset, .unset, .unset, .unset] [])) _
      refine st149 _ ?_
      show Steps p.tables e below (T149.setTop (mkF m 16 #[.val (.int p0), .val (.int p1), .val (.int p2), .val (.int p3), .val (.int (1 : Int32)), .unset, .unset, .unset, .unset, .unset, .unset, .unset, .unset, .unset] [(.ref b149)])) _
      refine XS.dup X149.here hx rfl (hb hby at_16) rfl rfl ?_
      show Steps p.tables e below (T149.setTop (mkF m 17 #[.val (.int p0), .val (.int p1), .val (.int p2), .val (.int p3), .val (.int (1 : Int32)), .unset, .unset, .unset, .unset, .unset, .unset, .unset, .unset, .unset] [(.ref b149), (.ref b149)])) _
      refine st150.trans ?_
      show Steps p.tables e below (T150.setTop (mkF m 20 #[.val (.int p0), .val (.int p1), .val (.int p2), .val (.int p3), .val (.int (1 : Int32)), .unset, .unset, .unset, .unset, .unset, .unset, .unset, .unset, .unset] [(.ref b149)])) _
      refine XS.astore X150.here hx rfl (hb hby at_20) rfl rfl (l' := #[.val (.int p0), .val (.int p1), .val (.int p2), .val (.int p3), .val (.int (1 : Int32)), .val (.ref b149), .unset, .unset, .unset, .unset, .unset, .unset, .unset, .unset]) rfl ?_
      show Steps p.tables e below (T150.setTop (mkF m 22 #[.val (.int p0), .val (.int p1), .val (.int p2), .val (.int p3), .val (.int (1 : Int32)), .val (.ref b149), .unset, .unset, .unset, .unset, .unset, .unset, .unset, .unset] [])) _
      refine XS.aload X150.here hx rfl (hb hby at_22) rfl rfl ?_
      show Steps p.tables e below (T150.setTop (mkF m 24 #[.val (.int p0), .val (.int p1), .val (.int p2), .val (.int p3), .val (.int (1 : Int32)), .val (.ref b149), .unset, .unset, .unset, .unset, .unset, .unset, .unset, .unset] [(.ref b149)])) _
      refine XS.iloadN X150.here hx rfl (hb hby at_24) rfl ?_
      show Steps p.tables e below (T150.setTop (mkF m 25 #[.val (.int p0), .val (.int p1), .val (.int p2), .val (.int p3), .val (.int (1 : Int32)), .val (.ref b149), .unset, .unset, .unset, .unset, .unset, .unset, .unset, .unset] [(.int p0), (.ref b149)])) _
      refine st151.trans ?_
      show Steps p.tables e below (T151.setTop (mkF m 28 #[.val (.int p0), .val (.int p1), .val (.int p2), .val (.int p3), .val (.int (1 : Int32)), .val (.ref b149), .unset, .unset, .unset, .unset, .unset, .unset, .unset, .unset] [])) _
      refine XS.iload X151.here hx rfl (hb hby at_28) rfl ?_
      show Steps p.tables e below (T151.setTop (mkF m 30 #[.val (.int p0), .val (.int p1), .val (.int p2), .val (.int p3), .val (.int (1 : Int32)), .val (.ref b149), .unset, .unset, .unset, .unset, .unset, .unset, .unset, .unset] [(.int (1 : Int32))])) _
      refine XS.ifNo X151.here hx rfl (hb hby at_30) rfl ((if0 _ _).trans (feq (by decide : ¬ ((1 : Int32) = (0 : Int32)))).1) ?_
      show Steps p.tables e below (T151.setTop (mkF m 33 #[.val (.int p0), .val (.int p1), .val (.int p2), .val (.int p3), .val (.int (1 : Int32)), .val (.ref b149), .unset, .unset, .unset, .unset, .unset, .unset, .unset, .unset] [])) _
      refine XS.aload X151.here hx rfl (hb hby at_33) rfl rfl ?_
      show Steps p.tables e below (T151.setTop (mkF m 35 #[.val (.int p0), .val (.int p1), .val (.int p2), .val (.int p3), .val (.int (1 : Int32)), .val (.ref b149), .unset, .unset, .unset, .unset, .unset, .unset, .unset, .unset] [(.ref b149)])) _
      refine XS.iloadN X151.here hx rfl (hb hby at_35) rfl ?_
      show Steps p.tables e below (T151.setTop (mkF m 36 #[.val (.int p0), .val (.int p1), .val (.int p2), .val (.int p3), .val (.int (1 : Int32)), .val (.ref b149), .unset, .unset, .unset, .unset, .unset, .unset, .unset, .unset] [(.int p1), (.ref b149)])) _
      refine st153.trans ?_
      show Steps p.tables e below (T153.setTop (mkF m 39 #[.val (.int p0), .val (.int p1), .val (.int p2), .val (.int p3), .val (.int (1 : Int32)), .val (.ref b149), .unset, .unset, .unset, .unset, .unset, .unset, .unset, .unset] [])) _
      refine XS.aload X153.here hx rfl (hb hby at_39) rfl rfl ?_
      show Steps p.tables e below (T153.setTop (mkF m 41 #[.val (.int p0), .val (.int p1), .val (.int p2), .val (.int p3), .val (.int (1 : Int32)), .val (.ref b149), .unset, .unset, .unset, .unset, .unset, .unset, .unset, .unset] [(.ref b149)])) _
      refine XS.iloadN X153.here hx rfl (hb hby at_41) rfl ?_
      show Steps p.tables e below (T153.setTop (mkF m 42 #[.val (.int p0), .val (.int p1), .val (.int p2), .val (.int p3), .val (.int (1 : Int32)), .val (.ref b149), .unset, .unset, .unset, .unset, .unset, .unset, .unset, .unset] [(.int p2), (.ref b149)])) _
      refine st154.trans ?_
      show Steps p.tables e below (T154.setTop (mkF m 45 #[.val (.int p0), .val (.int p1), .val (.int p2), .val (.int p3), .val (.int (1 : Int32)), .val (.ref b149), .unset, .unset, .unset, .unset, .unset, .unset, .unset, .unset] [])) _
      refine XS.iload X154.here hx rfl (hb hby at_45) rfl ?_
      show Steps p.tables e below (T154.setTop (mkF m 47 #[.val (.int p0), .val (.int p1), .val (.int p2), .val (.int p3), .val (.int (1 : Int32)), .val (.ref b149), .unset, .unset, .unset, .unset, .unset, .unset, .unset, .unset] [(.int (1 : Int32))])) _
      refine XS.ifNo X154.here hx rfl (hb hby at_47) rfl ((if0 _ _).trans (feq (by decide : ¬ ((1 : Int32) = (0 : Int32)))).1) ?_
      show Steps p.tables e below (T154.setTop (mkF m 50 #[.val (.int p0), .val (.int p1), .val (.int p2), .val (.int p3), .val (.int (1 : Int32)), .val (.ref b149), .unset, .unset, .unset, .unset, .unset, .unset, .unset, .unset] [])) _
      refine XS.iconst X154.here hx rfl (hb hby at_50) ?_
      show Steps p.tables e below (T154.setTop (mkF m 51 #[.val (.int p0), .val (.int p1), .val (.int p2), .val (.int p3), .val (.int (1 : Int32)), .val (.ref b149), .unset, .unset, .unset, .unset, .unset, .unset, .unset, .unset] [(.int (3 : Int32))])) _
      refine XS.goto X154.here hx rfl (pc0 := 51) (pc' := 55) rfl (hb hby at_51) (by decide) (by decide) ?_
      show Steps p.tables e below (T154.setTop (mkF m 55 #[.val (.int p0), .val (.int p1), .val (.int p2), .val (.int p3), .val (.int (1 : Int32)), .val (.ref b149), .unset, .unset, .unset, .unset, .unset, .unset, .unset, .unset] [(.int (3 : Int32))])) _
      refine XS.istore X154.here hx rfl (hb hby at_55) rfl (l' := #[.val (.int p0), .val (.int p1), .val (.int p2), .val (.int p3), .val (.int (1 : Int32)), .val (.ref b149), .val (.int (3 : Int32)), .unset, .unset, .unset, .unset, .unset, .unset, .unset]) rfl ?_
      show Steps p.tables e below (T154.setTop (mkF m 57 #[.val (.int p0), .val (.int p1), .val (.int p2), .val (.int p3), .val (.int (1 : Int32)), .val (.ref b149), .val (.int (3 : Int32)), .unset, .unset, .unset, .unset, .unset, .unset, .unset] [])) _
      refine XS.iload X154.here hx rfl (hb hby at_57) rfl ?_
      show Steps p.tables e below (T154.setTop (mkF m 59 #[.val (.int p0), .val (.int p1), .val (.int p2), .val (.int p3), .val (.int (1 : Int32)), .val (.ref b149), .val (.int (3 : Int32)), .unset, .unset, .unset, .unset, .unset, .unset, .unset] [(.int (1 : Int32))])) _
      refine XS.ifNo X154.here hx rfl (hb hby at_59) rfl ((if0 _ _).trans (feq (by decide : ¬ ((1 : Int32) = (0 : Int32)))).1) ?_
      show Steps p.tables e below (T154.setTop (mkF m 62 #[.val (.int p0), .val (.int p1), .val (.int p2), .val (.int p3), .val (.int (1 : Int32)), .val (.ref b149), .val (.int (3 : Int32)), .unset, .unset, .unset, .unset, .unset, .unset, .unset] [])) _
      refine XS.iloadN X154.here hx rfl (hb hby at_62) rfl ?_
      show Steps p.tables e below (T154.setTop (mkF m 63 #[.val (.int p0), .val (.int p1), .val (.int p2), .val (.int p3), .val (.int (1 : Int32)), .val (.ref b149), .val (.int (3 : Int32)), .unset, .unset, .unset, .unset, .unset, .unset, .unset] [(.int p1)])) _
      refine XS.goto X154.here hx rfl (pc0 := 63) (pc' := 67) rfl (hb hby at_63) (by decide) (by decide) ?_
      show Steps p.tables e below (T154.setTop (mkF m 67 #[.val (.int p0), .val (.int p1), .val (.int p2), .val (.int p3), .val (.int (1 : Int32)), .val (.ref b149), .val (.int (3 : Int32)), .unset, .unset, .unset, .unset, .unset, .unset, .unset] [(.int p1)])) _
      refine XS.istore X154.here hx rfl (hb hby at_67) rfl (l' := #[.val (.int p0), .val (.int p1), .val (.int p2), .val (.int p3), .val (.int (1 : Int32)), .val (.ref b149), .val (.int (3 : Int32)), .val (.int p1), .unset, .unset, .unset, .unset, .unset, .unset]) rfl ?_
      show Steps p.tables e below (T154.setTop (mkF m 69 #[.val (.int p0), .val (.int p1), .val (.int p2), .val (.int p3), .val (.int (1 : Int32)), .val (.ref b149), .val (.int (3 : Int32)), .val (.int p1), .unset, .unset, .unset, .unset, .unset, .unset] [])) _
      refine XS.aload X154.here hx rfl (hb hby at_69) rfl rfl ?_
      show Steps p.tables e below (T154.setTop (mkF m 71 #[.val (.int p0), .val (.int p1), .val (.int p2), .val (.int p3), .val (.int (1 : Int32)), .val (.ref b149), .val (.int (3 : Int32)), .val (.int p1), .unset, .unset, .unset, .unset, .unset, .unset] [(.ref b149)])) _
      refine st155.trans ?_
      show Steps p.tables e below (T155.setTop (mkF m 74 #[.val (.int p0), .val (.int p1), .val (.int p2), .val (.int p3), .val (.int (1 : Int32)), .val (.ref b149), .val (.int (3 : Int32)), .val (.int p1), .unset, .unset, .unset, .unset, .unset, .unset] [(.int p0)])) _
      refine XS.istore X155.here hx rfl (hb hby at_74) rfl (l' := #[.val (.int p0), .val (.int p1), .val (.int p2), .val (.int p3), .val (.int (1 : Int32)), .val (.ref b149), .val (.int (3 : Int32)), .val (.int p1), .val (.int p0), .unset, .unset, .unset, .unset, .unset]) rfl ?_
      show Steps p.tables e below (T155.setTop (mkF m 76 #[.val (.int p0), .val (.int p1), .val (.int p2), .val (.int p3), .val (.int (1 : Int32)), .val (.ref b149), .val (.int (3 : Int32)), .val (.int p1), .val (.int p0), .unset, .unset, .unset, .unset, .unset] [])) _
      refine XS.aload X155.here hx rfl (hb hby at_76) rfl rfl ?_
      show Steps p.tables e below (T155.setTop (mkF m 78 #[.val (.int p0), .val (.int p1), .val (.int p2), .val (.int p3), .val (.int (1 : Int32)), .val (.ref b149), .val (.int (3 : Int32)), .val (.int p1), .val (.int p0), .unset, .unset, .unset, .unset, .unset] [(.ref b149)])) _
      refine st157.trans ?_
      show Steps p.tables e below (T157.setTop (mkF m 81 #[.val (.int p0), .val (.int p1), .val (.int p2), .val (.int p3), .val (.int (1 : Int32)), .val (.ref b149), .val (.int (3 : Int32)), .val (.int p1), .val (.int p0), .unset, .unset, .unset, .unset, .unset] [(.int (2 : Int32))])) _
      refine XS.istore X157.here hx rfl (hb hby at_81) rfl (l' := #[.val (.int p0), .val (.int p1), .val (.int p2), .val (.int p3), .val (.int (1 : Int32)), .val (.ref b149), .val (.int (3 : Int32)), .val (.int p1), .val (.int p0), .val (.int (2 : Int32)), .unset, .unset, .unset, .unset]) rfl ?_
      show Steps p.tables e below (T157.setTop (mkF m 83 #[.val (.int p0), .val (.int p1), .val (.int p2), .val (.int p3), .val (.int (1 : Int32)), .val (.ref b149), .val (.int (3 : Int32)), .val (.int p1), .val (.int p0), .val (.int (2 : Int32)), .unset, .unset, .unset, .unset] [])) _
      refine XS.aload X157.here hx rfl (hb hby at_83) rfl rfl ?_
      show Steps p.tables e below (T157.setTop (mkF m 85 #[.val (.int p0), .val (.int p1), .val (.int p2), .val (.int p3), .val (.int (1 : Int32)), .val (.ref b149), .val (.int (3 : Int32)), .val (.int p1), .val (.int p0), .val (.int (2 : Int32)), .unset, .unset, .unset, .unset] [(.ref b149)])) _
      refine st158.trans ?_
      show Steps p.tables e below (T158.setTop (mkF m 88 #[.val (.int p0), .val (.int p1), .val (.int p2), .val (.int p3), .val (.int (1 : Int32)), .val (.ref b149), .val (.int (3 : Int32)), .val (.int p1), .val (.int p0), .val (.int (2 : Int32)), .unset, .unset, .unset, .unset] [(.int p1)])) _
      refine XS.istore X158.here hx rfl (hb hby at_88) rfl (l' := #[.val (.int p0), .val (.int p1), .val (.int p2), .val (.int p3), .val (.int (1 : Int32)), .val (.ref b149), .val (.int (3 : Int32)), .val (.int p1), .val (.int p0), .val (.int (2 : Int32)), .val (.int p1), .unset, .unset, .unset]) rfl ?_
      show Steps p.tables e below (T158.setTop (mkF m 90 #[.val (.int p0), .val (.int p1), .val (.int p2), .val (.int p3), .val (.int (1 : Int32)), .val (.ref b149), .val (.int (3 : Int32)), .val (.int p1), .val (.int p0), .val (.int (2 : Int32)), .val (.int p1), .unset, .unset, .unset] [])) _
      refine XS.aload X158.here hx rfl (hb hby at_90) rfl rfl ?_
      show Steps p.tables e below (T158.setTop (mkF m 92 #[.val (.int p0), .val (.int p1), .val (.int p2), .val (.int p3), .val (.int (1 : Int32)), .val (.ref b149), .val (.int (3 : Int32)), .val (.int p1), .val (.int p0), .val (.int (2 : Int32)), .val (.int p1), .unset, .unset, .unset] [(.ref b149)])) _
      refine st159.trans ?_
      show Steps p.tables e below (T159.setTop (mkF m 95 #[.val (.int p0), .val (.int p1), .val (.int p2), .val (.int p3), .val (.int (1 : Int32)), .val (.ref b149), .val (.int (3 : Int32)), .val (.int p1), .val (.int p0), .val (.int (2 : Int32)), .val (.int p1), .unset, .unset, .unset] [(.int p1)])) _
      refine XS.istore X159.here hx rfl (hb hby at_95) rfl (l' := #[.val (.int p0), .val (.int p1), .val (.int p2), .val (.int p3), .val (.int (1 : Int32)), .val (.ref b149), .val (.int (3 : Int32)), .val (.int p1), .val (.int p0), .val (.int (2 : Int32)), .val (.int p1), .val (.int p1), .unset, .unset]) rfl ?_
      show Steps p.tables e below (T159.setTop (mkF m 97 #[.val (.int p0), .val (.int p1), .val (.int p2), .val (.int p3), .val (.int (1 : Int32)), .val (.ref b149), .val (.int (3 : Int32)), .val (.int p1), .val (.int p0), .val (.int (2 : Int32)), .val (.int p1), .val (.int p1), .unset, .unset] [])) _
      refine XS.aload X159.here hx rfl (hb hby at_97) rfl rfl ?_
      show Steps p.tables e below (T159.setTop (mkF m 99 #[.val (.int p0), .val (.int p1), .val (.int p2), .val (.int p3), .val (.int (1 : Int32)), .val (.ref b149), .val (.int (3 : Int32)), .val (.int p1), .val (.int p0), .val (.int (2 : Int32)), .val (.int p1), .val (.int p1), .unset, .unset] [(.ref b149)])) _
      refine st161.trans ?_
      show Steps p.tables e below (T161.setTop (mkF m 102 #[.val (.int p0), .val (.int p1), .val (.int p2), .val (.int p3), .val (.int (1 : Int32)), .val (.ref b149), .val (.int (3 : Int32)), .val (.int p1), .val (.int p0), .val (.int (2 : Int32)), .val (.int p1), .val (.int p1), .unset, .unset] [(.int (1 : Int32))])) _
      refine XS.istore X161.here hx rfl (hb hby at_102) rfl (l' := #[.val (.int p0), .val (.int p1), .val (.int p2), .val (.int p3), .val (.int (1 : Int32)), .val (.ref b149), .val (.int (3 : Int32)), .val (.int p1), .val (.int p0), .val (.int (2 : Int32)), .val (.int p1), .val (.int p1), .val (.int (1 : Int32)), .unset]) rfl ?_
      show Steps p.tables e below (T161.setTop (mkF m 104 #[.val (.int p0), .val (.int p1), .val (.int p2), .val (.int p3), .val (.int (1 : Int32)), .val (.ref b149), .val (.int (3 : Int32)), .val (.int p1), .val (.int p0), .val (.int (2 : Int32)), .val (.int p1), .val (.int p1), .val (.int (1 : Int32)), .unset] [])) _
      refine XS.iload X161.here hx rfl (hb hby at_104) rfl ?_
      show Steps p.tables e below (T161.setTop (mkF m 106 #[.val (.int p0), .val (.int p1), .val (.int p2), .val (.int p3), .val (.int (1 : Int32)), .val (.ref b149), .val (.int (3 : Int32)), .val (.int p1), .val (.int p0), .val (.int (2 : Int32)), .val (.int p1), .val (.int p1), .val (.int (1 : Int32)), .unset] [(.int p0)])) _
      refine XS.iloadN X161.here hx rfl (hb hby at_106) rfl ?_
      show Steps p.tables e below (T161.setTop (mkF m 107 #[.val (.int p0), .val (.int p1), .val (.int p2), .val (.int p3), .val (.int (1 : Int32)), .val (.ref b149), .val (.int (3 : Int32)), .val (.int p1), .val (.int p0), .val (.int (2 : Int32)), .val (.int p1), .val (.int p1), .val (.int (1 : Int32)), .unset] [(.int p0), (.int p0)])) _
      refine XS.icmpNo X161.here hx rfl (hb hby at_107) rfl (teq (rfl : p0 = p0)).2 ?_
      show Steps p.tables e below (T161.setTop (mkF m 110 #[.val (.int p0), .val (.int p1), .val (.int p2), .val (.int p3), .val (.int (1 : Int32)), .val (.ref b149), .val (.int (3 : Int32)), .val (.int p1), .val (.int p0), .val (.int (2 : Int32)), .val (.int p1), .val (.int p1), .val (.int (1 : Int32)), .unset] [])) _
      refine XS.iload X161.here hx rfl (hb hby at_110) rfl ?_
      show Steps p.tables e below (T161.setTop (mkF m 112 #[.val (.int p0), .val (.int p1), .val (.int p2), .val (.int p3), .val (.int (1 : Int32)), .val (.ref b149), .val (.int (3 : Int32)), .val (.int p1), .val (.int p0), .val (.int (2 : Int32)), .val (.int p1), .val (.int p1), .val (.int (1 : Int32)), .unset] [(.int (2 : Int32))])) _
      refine XS.iload X161.here hx rfl (hb hby at_112) rfl ?_
      show Steps p.tables e below (T161.setTop (mkF m 114 #[.val (.int p0), .val (.int p1), .val (.int p2), .val (.int p3), .val (.int (1 : Int32)), .val (.ref b149), .val (.int (3 : Int32)), .val (.int p1), .val (.int p0), .val (.int (2 : Int32)), .val (.int p1), .val (.int p1), .val (.int (1 : Int32)), .unset] [(.int (3 : Int32)), (.int (2 : Int32))])) _
      refine XS.iconst X161.here hx rfl (hb hby at_114) ?_
      show Steps p.tables e below (T161.setTop (mkF m 115 #[.val (.int p0), .val (.int p1), .val (.int p2), .val (.int p3), .val (.int (1 : Int32)), .val (.ref b149), .val (.int (3 : Int32)), .val (.int p1), .val (.int p0), .val (.int (2 : Int32)), .val (.int p1), .val (.int p1), .val (.int (1 : Int32)), .unset] [(.int (1 : Int32)), (.int (3 : Int32)), (.int (2 : Int32))])) _
      refine XS.isub X161.here hx rfl (hb hby at_115) rfl ?_
      show Steps p.tables e below (T161.setTop (mkF m 116 #[.val (.int p0), .val (.int p1), .val (.int p2), .val (.int p3), .val (.int (1 : Int32)), .val (.ref b149), .val (.int (3 : Int32)), .val (.int p1), .val (.int p0), .val (.int (2 : Int32)), .val (.int p1), .val (.int p1), .val (.int (1 : Int32)), .unset] [(.int (2 : Int32)), (.int (2 : Int32))])) _
      refine XS.icmpNo X161.here hx rfl (hb hby at_116) rfl (teq (by decide : (2 : Int32) = (2 : Int32))).2 ?_
      show Steps p.tables e below (T161.setTop (mkF m 119 #[.val (.int p0), .val (.int p1), .val (.int p2), .val (.int p3), .val (.int (1 : Int32)), .val (.ref b149), .val (.int (3 : Int32)), .val (.int p1), .val (.int p0), .val (.int (2 : Int32)), .val (.int p1), .val (.int p1), .val (.int (1 : Int32)), .unset] [])) _
      refine XS.iload X161.here hx rfl (hb hby at_119) rfl ?_
      show Steps p.tables e below (T161.setTop (mkF m 121 #[.val (.int p0), .val (.int p1), .val (.int p2), .val (.int p3), .val (.int (1 : Int32)), .val (.ref b149), .val (.int (3 : Int32)), .val (.int p1), .val (.int p0), .val (.int (2 : Int32)), .val (.int p1), .val (.int p1), .val (.int (1 : Int32)), .unset] [(.int p1)])) _
      refine XS.iload X161.here hx rfl (hb hby at_121) rfl ?_
      show Steps p.tables e below (T161.setTop (mkF m 123 #[.val (.int p0), .val (.int p1), .val (.int p2), .val (.int p3), .val (.int (1 : Int32)), .val (.ref b149), .val (.int (3 : Int32)), .val (.int p1), .val (.int p0), .val (.int (2 : Int32)), .val (.int p1), .val (.int p1), .val (.int (1 : Int32)), .unset] [(.int p1), (.int p1)])) _
      refine XS.icmpNo X161.here hx rfl (hb hby at_123) rfl (teq (rfl : p1 = p1)).2 ?_
      show Steps p.tables e below (T161.setTop (mkF m 126 #[.val (.int p0), .val (.int p1), .val (.int p2), .val (.int p3), .val (.int (1 : Int32)), .val (.ref b149), .val (.int (3 : Int32)), .val (.int p1), .val (.int p0), .val (.int (2 : Int32)), .val (.int p1), .val (.int p1), .val (.int (1 : Int32)), .unset] [])) _
      refine XS.iload X161.here hx rfl (hb hby at_126) rfl ?_
      show Steps p.tables e below (T161.setTop (mkF m 128 #[.val (.int p0), .val (.int p1), .val (.int p2), .val (.int p3), .val (.int (1 : Int32)), .val (.ref b149), .val (.int (3 : Int32)), .val (.int p1), .val (.int p0), .val (.int (2 : Int32)), .val (.int p1), .val (.int p1), .val (.int (1 : Int32)), .unset] [(.int p1)])) _
      refine XS.iload X161.here hx rfl (hb hby at_128) rfl ?_
      show Steps p.tables e below (T161.setTop (mkF m 130 #[.val (.int p0), .val (.int p1), .val (.int p2), .val (.int p3), .val (.int (1 : Int32)), .val (.ref b149), .val (.int (3 : Int32)), .val (.int p1), .val (.int p0), .val (.int (2 : Int32)), .val (.int p1), .val (.int p1), .val (.int (1 : Int32)), .unset] [(.int p1), (.int p1)])) _
      refine XS.icmpNo X161.here hx rfl (hb hby at_130) rfl (teq (rfl : p1 = p1)).2 ?_
      show Steps p.tables e below (T161.setTop (mkF m 133 #[.val (.int p0), .val (.int p1), .val (.int p2), .val (.int p3), .val (.int (1 : Int32)), .val (.ref b149), .val (.int (3 : Int32)), .val (.int p1), .val (.int p0), .val (.int (2 : Int32)), .val (.int p1), .val (.int p1), .val (.int (1 : Int32)), .unset] [])) _
      refine XS.iload X161.here hx rfl (hb hby at_133) rfl ?_
      show Steps p.tables e below (T161.setTop (mkF m 135 #[.val (.int p0), .val (.int p1), .val (.int p2), .val (.int p3), .val (.int (1 : Int32)), .val (.ref b149), .val (.int (3 : Int32)), .val (.int p1), .val (.int p0), .val (.int (2 : Int32)), .val (.int p1), .val (.int p1), .val (.int (1 : Int32)), .unset] [(.int (1 : Int32))])) _
      refine XS.iload X161.here hx rfl (hb hby at_135) rfl ?_
      show Steps p.tables e below (T161.setTop (mkF m 137 #[.val (.int p0), .val (.int p1), .val (.int p2), .val (.int p3), .val (.int (1 : Int32)), .val (.ref b149), .val (.int (3 : Int32)), .val (.int p1), .val (.int p0), .val (.int (2 : Int32)), .val (.int p1), .val (.int p1), .val (.int (1 : Int32)), .unset] [(.int (3 : Int32)), (.int (1 : Int32))])) _
      refine XS.iconst X161.here hx rfl (hb hby at_137) ?_
      show Steps p.tables e below (T161.setTop (mkF m 138 #[.val (.int p0), .val (.int p1), .val (.int p2), .val (.int p3), .val (.int (1 : Int32)), .val (.ref b149), .val (.int (3 : Int32)), .val (.int p1), .val (.int p0), .val (.int (2 : Int32)), .val (.int p1), .val (.int p1), .val (.int (1 : Int32)), .unset] [(.int (2 : Int32)), (.int (3 : Int32)), (.int (1 : Int32))])) _
      refine XS.isub X161.here hx rfl (hb hby at_138) rfl ?_
      show Steps p.tables e below (T161.setTop (mkF m 139 #[.val (.int p0), .val (.int p1), .val (.int p2), .val (.int p3), .val (.int (1 : Int32)), .val (.ref b149), .val (.int (3 : Int32)), .val (.int p1), .val (.int p0), .val (.int (2 : Int32)), .val (.int p1), .val (.int p1), .val (.int (1 : Int32)), .unset] [(.int (1 : Int32)), (.int (1 : Int32))])) _
      refine XS.icmpNo X161.here hx rfl (hb hby at_139) rfl (teq (by decide : (1 : Int32) = (1 : Int32))).2 ?_
      show Steps p.tables e below (T161.setTop (mkF m 142 #[.val (.int p0), .val (.int p1), .val (.int p2), .val (.int p3), .val (.int (1 : Int32)), .val (.ref b149), .val (.int (3 : Int32)), .val (.int p1), .val (.int p0), .val (.int (2 : Int32)), .val (.int p1), .val (.int p1), .val (.int (1 : Int32)), .unset] [])) _
      refine XS.iconst X161.here hx rfl (hb hby at_142) ?_
      show Steps p.tables e below (T161.setTop (mkF m 143 #[.val (.int p0), .val (.int p1), .val (.int p2), .val (.int p3), .val (.int (1 : Int32)), .val (.ref b149), .val (.int (3 : Int32)), .val (.int p1), .val (.int p0), .val (.int (2 : Int32)), .val (.int p1), .val (.int p1), .val (.int (1 : Int32)), .unset] [(.int (1 : Int32))])) _
      refine XS.goto X161.here hx rfl (pc0 := 143) (pc' := 147) rfl (hb hby at_143) (by decide) (by decide) ?_
      show Steps p.tables e below (T161.setTop (mkF m 147 #[.val (.int p0), .val (.int p1), .val (.int p2), .val (.int p3), .val (.int (1 : Int32)), .val (.ref b149), .val (.int (3 : Int32)), .val (.int p1), .val (.int p0), .val (.int (2 : Int32)), .val (.int p1), .val (.int p1), .val (.int (1 : Int32)), .unset] [(.int (1 : Int32))])) _
      refine XS.istore X161.here hx rfl (hb hby at_147) rfl (l' := #[.val (.int p0), .val (.int p1), .val (.int p2), .val (.int p3), .val (.int (1 : Int32)), .val (.ref b149), .val (.int (3 : Int32)), .val (.int p1), .val (.int p0), .val (.int (2 : Int32)), .val (.int p1), .val (.int p1), .val (.int (1 : Int32)), .val (.int (1 : Int32))]) rfl ?_
      show Steps p.tables e below (T161.setTop (mkF m 149 #[.val (.int p0), .val (.int p1), .val (.int p2), .val (.int p3), .val (.int (1 : Int32)), .val (.ref b149), .val (.int (3 : Int32)), .val (.int p1), .val (.int p0), .val (.int (2 : Int32)), .val (.int p1), .val (.int p1), .val (.int (1 : Int32)), .val (.int (1 : Int32))] [])) _
      refine XS.iload X161.here hx rfl (hb hby at_149) rfl ?_
      show Steps p.tables e below (T161.setTop (mkF m 151 #[.val (.int p0), .val (.int p1), .val (.int p2), .val (.int p3), .val (.int (1 : Int32)), .val (.ref b149), .val (.int (3 : Int32)), .val (.int p1), .val (.int p0), .val (.int (2 : Int32)), .val (.int p1), .val (.int p1), .val (.int (1 : Int32)), .val (.int (1 : Int32))] [(.int (1 : Int32))])) _
      refine XS.ifNo X161.here hx rfl (hb hby at_151) rfl ((if0 _ _).trans (feq (by decide : ¬ ((1 : Int32) = (0 : Int32)))).1) ?_
      show Steps p.tables e below (T161.setTop (mkF m 154 #[.val (.int p0), .val (.int p1), .val (.int p2), .val (.int p3), .val (.int (1 : Int32)), .val (.ref b149), .val (.int (3 : Int32)), .val (.int p1), .val (.int p0), .val (.int (2 : Int32)), .val (.int p1), .val (.int p1), .val (.int (1 : Int32)), .val (.int (1 : Int32))] [])) _
      refine XS.iload X161.here hx rfl (hb hby at_154) rfl ?_
      show Steps p.tables e below (T161.setTop (mkF m 156 #[.val (.int p0), .val (.int p1), .val (.int p2), .val (.int p3), .val (.int (1 : Int32)), .val (.ref b149), .val (.int (3 : Int32)), .val (.int p1), .val (.int p0), .val (.int (2 : Int32)), .val (.int p1), .val (.int p1), .val (.int (1 : Int32)), .val (.int (1 : Int32))] [(.int (1 : Int32))])) _
      refine XS.ifNo X161.here hx rfl (hb hby at_156) rfl ((if0 _ _).trans (feq (by decide : ¬ ((1 : Int32) = (0 : Int32)))).1) ?_
      show Steps p.tables e below (T161.setTop (mkF m 159 #[.val (.int p0), .val (.int p1), .val (.int p2), .val (.int p3), .val (.int (1 : Int32)), .val (.ref b149), .val (.int (3 : Int32)), .val (.int p1), .val (.int p0), .val (.int (2 : Int32)), .val (.int p1), .val (.int p1), .val (.int (1 : Int32)), .val (.int (1 : Int32))] [])) _
      refine XS.aload X161.here hx rfl (hb hby at_159) rfl rfl ?_
      show Steps p.tables e below (T161.setTop (mkF m 161 #[.val (.int p0), .val (.int p1), .val (.int p2), .val (.int p3), .val (.int (1 : Int32)), .val (.ref b149), .val (.int (3 : Int32)), .val (.int p1), .val (.int p0), .val (.int (2 : Int32)), .val (.int p1), .val (.int p1), .val (.int (1 : Int32)), .val (.int (1 : Int32))] [(.ref b149)])) _
      refine st162.trans ?_
      show Steps p.tables e below (T162.setTop (mkF m 164 #[.val (.int p0), .val (.int p1), .val (.int p2), .val (.int p3), .val (.int (1 : Int32)), .val (.ref b149), .val (.int (3 : Int32)), .val (.int p1), .val (.int p0), .val (.int (2 : Int32)), .val (.int p1), .val (.int p1), .val (.int (1 : Int32)), .val (.int (1 : Int32))] [(.int p2)])) _
      refine XS.iloadN X162.here hx rfl (hb hby at_164) rfl ?_
      show Steps p.tables e below (T162.setTop (mkF m 165 #[.val (.int p0), .val (.int p1), .val (.int p2), .val (.int p3), .val (.int (1 : Int32)), .val (.ref b149), .val (.int (3 : Int32)), .val (.int p1), .val (.int p0), .val (.int (2 : Int32)), .val (.int p1), .val (.int p1), .val (.int (1 : Int32)), .val (.int (1 : Int32))] [(.int p2), (.int p2)])) _
      refine XS.icmpNo X162.here hx rfl (hb hby at_165) rfl (teq (rfl : p2 = p2)).2 ?_
      show Steps p.tables e below (T162.setTop (mkF m 168 #[.val (.int p0), .val (.int p1), .val (.int p2), .val (.int p3), .val (.int (1 : Int32)), .val (.ref b149), .val (.int (3 : Int32)), .val (.int p1), .val (.int p0), .val (.int (2 : Int32)), .val (.int p1), .val (.int p1), .val (.int (1 : Int32)), .val (.int (1 : Int32))] [])) _
      refine XS.iconst X162.here hx rfl (hb hby at_168) ?_
      show Steps p.tables e below (T162.setTop (mkF m 169 #[.val (.int p0), .val (.int p1), .val (.int p2), .val (.int p3), .val (.int (1 : Int32)), .val (.ref b149), .val (.int (3 : Int32)), .val (.int p1), .val (.int p0), .val (.int (2 : Int32)), .val (.int p1), .val (.int p1), .val (.int (1 : Int32)), .val (.int (1 : Int32))] [(.int (1 : Int32))])) _
      refine XS.goto X162.here hx rfl (pc0 := 169) (pc' := 173) rfl (hb hby at_169) (by decide) (by decide) ?_
      show Steps p.tables e below (T162.setTop (mkF m 173 #[.val (.int p0), .val (.int p1), .val (.int p2), .val (.int p3), .val (.int (1 : Int32)), .val (.ref b149), .val (.int (3 : Int32)), .val (.int p1), .val (.int p0), .val (.int (2 : Int32)), .val (.int p1), .val (.int p1), .val (.int (1 : Int32)), .val (.int (1 : Int32))] [(.int (1 : Int32))])) _
      refine XS.istore X162.here hx rfl (hb hby at_173) rfl (l' := #[.val (.int p0), .val (.int p1), .val (.int p2), .val (.int p3), .val (.int (1 : Int32)), .val (.ref b149), .val (.int (3 : Int32)), .val (.int p1), .val (.int p0), .val (.int (2 : Int32)), .val (.int p1), .val (.int p1), .val (.int (1 : Int32)), .val (.int (1 : Int32))]) rfl ?_
      show Steps p.tables e below (T162.setTop (mkF m 175 #[.val (.int p0), .val (.int p1), .val (.int p2), .val (.int p3), .val (.int (1 : Int32)), .val (.ref b149), .val (.int (3 : Int32)), .val (.int p1), .val (.int p0), .val (.int (2 : Int32)), .val (.int p1), .val (.int p1), .val (.int (1 : Int32)), .val (.int (1 : Int32))] [])) _
      refine XS.iload X162.here hx rfl (hb hby at_175) rfl ?_
      show Steps p.tables e below (T162.setTop (mkF m 177 #[.val (.int p0), .val (.int p1), .val (.int p2), .val (.int p3), .val (.int (1 : Int32)), .val (.ref b149), .val (.int (3 : Int32)), .val (.int p1), .val (.int p0), .val (.int (2 : Int32)), .val (.int p1), .val (.int p1), .val (.int (1 : Int32)), .val (.int (1 : Int32))] [(.int (1 : Int32))])) _
      exact retN X162 hx (t := .boolean) Bd.returns (by simp) (hb hby at_177) hr
    · show own_Q0 Z u p0 p1 p2 p3 h0 n0 _ T162.heap _
      rw [e162]
      exact ⟨rfl, N162, trivial⟩
set_option maxRecDepth 65536 in
set_option maxHeartbeats 40000000 in
theorem comes_1 {Post : Tables → Env → Array Value → State → Outcome → State → Prop} (hpost : ∀ tb e args s v u, (limb_1_1.after args s (.returned v) u = true ∧ limb_1_2.after args s (.returned v) u = true ∧ True) → FrameEnd s (.returned v) u (Jvm.fieldLocs frame_1_writes args s ++ Jvm.arrayLocs frame_1_arrays args s ++ Jvm.staticLocs frame_1_statics s) 16 128 → Post tb e args s (.returned v) u) :
    ArmFor flags0 classFile x code maxLocals ret World_1 tables_1 room_1 Calls_1 rest_1 Pre_1 Post := by
  intro l hfl _ _ p e ha hc hk s m args below hf hA hF happ hP
  obtain ⟨hcalls, hrest, hpre⟩ := hP
  obtain ⟨-, -, -, hnamed, -, -, -, hat⟩ := (Spec.applies_iff hf).mp happ
  obtain ⟨hg, hn⟩ := and_e (Cond.before_iff.mp (show (Jvm.Cond.and given_1 narrow_1).before args s = true from hpre))
  obtain ⟨g0, gr0⟩ := and_e hg
  obtain ⟨g1, gr1⟩ := and_e gr0
  obtain ⟨g2, gr2⟩ := and_e gr1
  obtain ⟨g3, gr3⟩ := and_e gr2
  have g4 := gr3
  obtain ⟨w0, w1, w2, w3, rfl⟩ : ∃ w0 w1 w2 w3 : Value, args = #[w0, w1, w2, w3] := by
    have hs : args.size = 4 := by simpa [Cond.value, given_1] using g0
    obtain ⟨L⟩ := args
    match L, hs with
    | [w0, w1, w2, w3], _ => exact ⟨w0, w1, w2, w3, rfl⟩
  have hw := fun d (hd : d ∈ tables_1) => atoms_spec (ws := Jvm.Cond.code x code maxLocals ret :: tables_1) hat d (List.mem_cons_of_mem _ hd)
  have hfit : Fit s := fun {y c} hc i hi => by
    obtain ⟨ha, rfl⟩ := Array.getElem?_eq_some_iff.mp hc
    have q := List.all_eq_true.mp ((Array.all_eq_true_iff_forall_mem.mp hF) _ (Array.getElem_mem ha)) i (List.mem_range.mpr hi)
    simpa [Array.getElem?_eq_getElem hi] using q
  obtain ⟨i0, ei0⟩ := is_v g1
  obtain rfl : w0 = (.int i0) := Option.some.inj ei0
  obtain ⟨i1, ei1⟩ := is_v g2
  obtain rfl : w1 = (.int i1) := Option.some.inj ei1
  obtain ⟨i2, ei2⟩ := is_v g3
  obtain rfl : w2 = (.int i2) := Option.some.inj ei2
  obtain ⟨i3, ei3⟩ := is_v g4
  obtain rfl : w3 = (.int i3) := Option.some.inj ei3
  obtain ⟨b0, hn0⟩ := and_e hn
  have b1 := hn0
  obtain ⟨x0, v0⟩ := arr_v b0
  obtain ⟨c0, A0⟩ := Arr.start v0 b0
  obtain ⟨l0, m0⟩ := own_len v0 A0.1 b1
  have B : own_Base s (fun i => ([x0] : List Addr).getD i 0) := ⟨Sta.start v0 (Or.inr ⟨(hw _ (List.mem_of_getElem? (i := 2) rfl)), (hw _ (List.mem_of_getElem? (i := 10) rfl))⟩),
    ⟨_, Arv.start hfit A0 l0 m0 (by decide) rfl trivial⟩⟩
  obtain ⟨n, o, h1, h2, h3, _, L, rfl, ⟨rfl, N, -⟩, hq⟩ := rm0 l s _ hw tables_1 (fun i => ([x0] : List Addr).getD i 0) i0 i1 i2 i3 B s.heap s.heap.size (Old.start s)  p e ha hc hk s m _ below hf ((Spec.applies_iff_loose hf).mp happ).1 ⟨rfl, State.Warmed39.refl s, rfl⟩ trivial
  refine ⟨n, _, h1, h2, h3, hpost _ _ _ _ _ _ ⟨Cond.after_iff.mpr rfl, Cond.after_iff.mpr (eq_i res_at (Term.int_eval (1)) rfl), trivial⟩ ⟨hq.1, hq.2.1, (hq.2.2.sift fun y hy => Or.inr (N y hy)).mono (by decide) (by decide)⟩⟩
theorem main_1_1 : Claimed_1_1 := comes_1 fun _ _ _ _ _ _ h hF => ⟨h.1, hF⟩
theorem main_1_2 : Claimed_1_2 := comes_1 fun _ _ _ _ _ _ h hF => ⟨h.2.1, hF⟩
end Jvm.Pilot.@@N@@
namespace Jvm.Pilot.@@N@@
open Jvm Jvm.ClassFile Sem Op Lib Jvm.Free Jvm.Stand Jvm.Pilot.@@N@@.Jvm.D
/-! MADE BY PROGRAM (witnessworld.py) out of the Statement's table words and the real class files: 10 classes; the members and pool entries that the words name. The judged class is class 1, her method 1. -/
namespace start1
open Jvm.ClassFile
def u (s : String) : CpInfo := .utf8 (stringToUtf16 s)
/-- a pool by its gaps: so many unusable entries, then the entry; so many at the end -/
def gap : Nat → List CpInfo → List CpInfo
  | 0, r => r
  | n + 1, r => .unusable :: gap n r
def poolList (es : List (Nat × CpInfo)) (last : Nat) : List CpInfo := es.foldr (fun e r => gap e.1 (e.2 :: r)) (gap last [])
def pool (es : List (Nat × CpInfo)) (last : Nat) : Array CpInfo := ⟨poolList es last⟩
def fileOf (pool : Array CpInfo) (this : Nat) (attrs : Array Attribute := #[]) (ms : Array MethodInfo := #[]) (fl : Nat := 33) (sup : Nat := 0) (ifs : Array Nat := #[]) (fds : Array FieldInfo := #[]) : ClassFile where
  minorVersion := 0
  majorVersion := 65
  constantPool := pool
  accessFlags := fl
  thisClass := this
  superClass := sup
  interfaces := ifs
  fields := fds
  methods := ms
  attributes := attrs
def plain (name : String) (sup : Option ClassId) : Class where
  name := name
  kind := .ordinary
  loader := none
  accessFlags := 33
  super := sup
  interfaces := #[]
  cf := none
  fields := #[]
  methods := #[]
  instanceTypes := #[]
  staticTypes := #[]
  resolved := #[]
  callSites := []
  init := .initialized
  statics := none
  mirror := none

def pool0 : Array CpInfo := pool [(5, u "<init>"), (0, u "()V"), (1, .class_ 10), (1, u "java/lang/Object")] 113

def k0c0 : Code := { maxStack := 0, maxLocals := 1, code := object_method_1_code, exceptionTable := #[], attributes := #[] }
def k0m0 : Method := { name := "<init>", desc := "()V", sig := { parameters := [], returnType := none }, accessFlags := 1, code := some k0c0 }
/-- java/lang/Object -/
def k0 : Class := { plain "java/lang/Object" none with
  accessFlags := 33
  interfaces := #[]
  cf := some (fileOf pool0 8 #[] #[{ accessFlags := 1, nameIndex := 5, descriptorIndex := 6, attributes := #[] }] 33 0 #[] #[])
  fields := #[]
  methods := #[k0m0]
  instanceTypes := #[]
  staticTypes := #[]
  resolved := Array.replicate 124 none
  statics := none }

def pool1 : Array CpInfo := pool [(2, .class_ 4), (0, .nameAndType 5 6), (0, u "java/lang/Object"), (0, u "<init>"), (0, u "()V"), (0, .class_ 8), (0, u "com/example/wakachi/wakachi/match/IntDeque"), (0, .methodref 7 3), (0, .methodref 7 11), (0, .nameAndType 12 13), (0, u "add"), (0, u "(I)V"), (0, .methodref 7 15), (0, .nameAndType 16 17), (0, u "removeFirst"), (0, u "()I"), (0, .methodref 7 19), (0, .nameAndType 20 17), (0, u "size"), (0, .methodref 7 22), (0, .nameAndType 23 17), (0, u "first"), (0, .class_ 25), (0, u "com/example/wakachi/wakachi/match/IntDequeRemoveFirstPinLaw"), (2, u "law"), (0, u "(IIII)Z")] 3

def k1m0 : Method := { name := "<init>", desc := "()V", sig := { parameters := [], returnType := none }, accessFlags := 1, code := none }
def k1c1 : Code := { maxStack := 3, maxLocals := 14, code := code, exceptionTable := #[], attributes := #[] }
def k1m1 : Method := { name := "law", desc := "(IIII)Z", sig := { parameters := [.int, .int, .int, .int], returnType := some .boolean }, accessFlags := 9, code := some k1c1 }
/-- com/example/wakachi/wakachi/match/IntDequeRemoveFirstPinLaw -/
def k1 : Class := { plain "com/example/wakachi/wakachi/match/IntDequeRemoveFirstPinLaw" (some 0) with
  accessFlags := 49
  interfaces := #[]
  cf := some (fileOf pool1 24 #[] #[{ accessFlags := 1, nameIndex := 5, descriptorIndex := 6, attributes := #[] }, { accessFlags := 9, nameIndex := 28, descriptorIndex := 29, attributes := #[] }] 49 2 #[] #[])
  fields := #[]
  methods := #[k1m0, k1m1]
  instanceTypes := #[]
  staticTypes := #[]
  resolved := Array.replicate 33 none
  statics := none }

def pool2 : Array CpInfo := pool [(1, .methodref 2 3), (0, .class_ 4), (0, .nameAndType 5 6), (0, u "java/lang/Object"), (0, u "<init>"), (0, u "()V"), (0, .fieldref 8 9), (0, .class_ 10), (0, .nameAndType 11 12), (0, u "com/example/wakachi/wakachi/match/IntDeque"), (0, u "NONE"), (0, u "[I"), (0, .fieldref 8 14), (0, .nameAndType 15 12), (0, u "ring"), (0, .fieldref 8 17), (0, .nameAndType 18 19), (0, u "size"), (0, u "I"), (0, .methodref 8 21), (0, .nameAndType 22 6), (0, u "grow"), (0, .fieldref 8 24), (0, .nameAndType 25 19), (0, u "head"), (0, .methodref 27 28), (0, .class_ 29), (0, .nameAndType 30 31), (0, u "java/lang/Math"), (0, u "max"), (0, u "(II)I"), (5, u "()I"), (0, u "add"), (0, u "(I)V"), (0, u "first"), (1, u "removeFirst")] 5

def k2c0 : Code := { maxStack := 2, maxLocals := 1, code := prog_46_method_1_code, exceptionTable := #[], attributes := #[] }
def k2m0 : Method := { name := "<init>", desc := "()V", sig := { parameters := [], returnType := none }, accessFlags := 0, code := some k2c0 }
def k2c1 : Code := { maxStack := 1, maxLocals := 1, code := prog_46_method_3_code, exceptionTable := #[], attributes := #[] }
def k2m1 : Method := { name := "size", desc := "()I", sig := { parameters := [], returnType := some .int }, accessFlags := 0, code := some k2c1 }
def k2c2 : Code := { maxStack := 4, maxLocals := 2, code := prog_46_method_4_code, exceptionTable := #[], attributes := #[] }
def k2m2 : Method := { name := "add", desc := "(I)V", sig := { parameters := [.int], returnType := none }, accessFlags := 0, code := some k2c2 }
def k2c3 : Code := { maxStack := 2, maxLocals := 1, code := prog_46_method_5_code, exceptionTable := #[], attributes := #[] }
def k2m3 : Method := { name := "first", desc := "()I", sig := { parameters := [], returnType := some .int }, accessFlags := 0, code := some k2c3 }
def k2c4 : Code := { maxStack := 4, maxLocals := 2, code := prog_46_method_7_code, exceptionTable := #[], attributes := #[] }
def k2m4 : Method := { name := "removeFirst", desc := "()I", sig := { parameters := [], returnType := some .int }, accessFlags := 0, code := some k2c4 }
def k2c5 : Code := { maxStack := 6, maxLocals := 3, code := prog_46_method_9_code, exceptionTable := #[], attributes := #[] }
def k2m5 : Method := { name := "grow", desc := "()V", sig := { parameters := [], returnType := none }, accessFlags := 2, code := some k2c5 }
/-- com/example/wakachi/wakachi/match/IntDeque -/
def k2 : Class := { plain "com/example/wakachi/wakachi/match/IntDeque" (some 0) with
  accessFlags := 32
  interfaces := #[]
  cf := some (fileOf pool2 8 #[] #[{ accessFlags := 0, nameIndex := 5, descriptorIndex := 6, attributes := #[] }, { accessFlags := 0, nameIndex := 18, descriptorIndex := 37, attributes := #[] }, { accessFlags := 0, nameIndex := 38, descriptorIndex := 39, attributes := #[] }, { accessFlags := 0, nameIndex := 40, descriptorIndex := 37, attributes := #[] }, { accessFlags := 0, nameIndex := 42, descriptorIndex := 37, attributes := #[] }, { accessFlags := 2, nameIndex := 22, descriptorIndex := 6, attributes := #[] }] 32 2 #[] #[{ accessFlags := 26, nameIndex := 11, descriptorIndex := 12, attributes := #[] }, { accessFlags := 2, nameIndex := 15, descriptorIndex := 12, attributes := #[] }, { accessFlags := 2, nameIndex := 25, descriptorIndex := 19, attributes := #[] }, { accessFlags := 2, nameIndex := 18, descriptorIndex := 19, attributes := #[] }])
  fields := #[{ name := "NONE", type := (.array .int), accessFlags := 26, slot := 0, constantValue := 0 }, { name := "ring", type := (.array .int), accessFlags := 2, slot := 0, constantValue := 0 }, { name := "head", type := .int, accessFlags := 2, slot := 1, constantValue := 0 }, { name := "size", type := .int, accessFlags := 2, slot := 2, constantValue := 0 }]
  methods := #[k2m0, k2m1, k2m2, k2m3, k2m4, k2m5]
  instanceTypes := #[(.array .int), .int, .int]
  staticTypes := #[(.array .int)]
  resolved := Array.replicate 48 none
  statics := some 0 }

def pool3 : Array CpInfo := pool [(1, .class_ 2), (0, u "java/lang/Math"), (1, .class_ 6), (1, u "java/lang/Object"), (0, u "<init>"), (0, u "()V"), (89, .class_ 100), (1, u "java/lang/Math$RandomNumberGeneratorHolder"), (71, u "negativeZeroFloatBits"), (0, u "J"), (2, u "negativeZeroDoubleBits"), (21, u "max"), (46, u "$assertionsDisabled"), (0, u "Z"), (88, u "(II)I"), (2, u "twoToTheDoubleScaleDown"), (0, u "D"), (4, u "twoToTheDoubleScaleUp"), (9, u "E"), (3, u "PI"), (2, u "TAU"), (2, u "DEGREES_TO_RADIANS"), (0, u "RADIANS_TO_DEGREES")] 94

def k3m0 : Method := { name := "<init>", desc := "()V", sig := { parameters := [], returnType := none }, accessFlags := 2, code := none }
def k3c1 : Code := { maxStack := 2, maxLocals := 2, code := jdk_29_method_65_code, exceptionTable := #[], attributes := #[] }
def k3m1 : Method := { name := "max", desc := "(II)I", sig := { parameters := [.int, .int], returnType := some .int }, accessFlags := 9, code := some k3c1 }
/-- java/lang/Math -/
def k3 : Class := { plain "java/lang/Math" (some 0) with
  accessFlags := 49
  interfaces := #[]
  cf := some (fileOf pool3 1 #[.nestMembers #[98]] #[{ accessFlags := 2, nameIndex := 7, descriptorIndex := 8, attributes := #[] }, { accessFlags := 9, nameIndex := 198, descriptorIndex := 335, attributes := #[] }] 49 4 #[] #[{ accessFlags := 25, nameIndex := 354, descriptorIndex := 339, attributes := #[] }, { accessFlags := 25, nameIndex := 358, descriptorIndex := 339, attributes := #[] }, { accessFlags := 25, nameIndex := 361, descriptorIndex := 339, attributes := #[] }, { accessFlags := 26, nameIndex := 364, descriptorIndex := 339, attributes := #[] }, { accessFlags := 26, nameIndex := 365, descriptorIndex := 339, attributes := #[] }, { accessFlags := 26, nameIndex := 172, descriptorIndex := 173, attributes := #[] }, { accessFlags := 26, nameIndex := 176, descriptorIndex := 173, attributes := #[] }, { accessFlags := 8, nameIndex := 344, descriptorIndex := 339, attributes := #[] }, { accessFlags := 8, nameIndex := 338, descriptorIndex := 339, attributes := #[] }, { accessFlags := 4120, nameIndex := 245, descriptorIndex := 246, attributes := #[] }])
  fields := #[{ name := "E", type := .double, accessFlags := 25, slot := 0, constantValue := 0 }, { name := "PI", type := .double, accessFlags := 25, slot := 1, constantValue := 0 }, { name := "TAU", type := .double, accessFlags := 25, slot := 2, constantValue := 0 }, { name := "DEGREES_TO_RADIANS", type := .double, accessFlags := 26, slot := 3, constantValue := 0 }, { name := "RADIANS_TO_DEGREES", type := .double, accessFlags := 26, slot := 4, constantValue := 0 }, { name := "negativeZeroFloatBits", type := .long, accessFlags := 26, slot := 5, constantValue := 0 }, { name := "negativeZeroDoubleBits", type := .long, accessFlags := 26, slot := 6, constantValue := 0 }, { name := "twoToTheDoubleScaleUp", type := .double, accessFlags := 8, slot := 7, constantValue := 0 }, { name := "twoToTheDoubleScaleDown", type := .double, accessFlags := 8, slot := 8, constantValue := 0 }, { name := "$assertionsDisabled", type := .boolean, accessFlags := 4120, slot := 9, constantValue := 0 }]
  methods := #[k3m0, k3m1]
  instanceTypes := #[]
  staticTypes := #[.double, .double, .double, .double, .double, .long, .long, .double, .double, .boolean]
  resolved := Array.replicate 460 none
  statics := none }

def pool4 : Array CpInfo := pool [(1, u "java/lang/Cloneable"), (0, .class_ 1), (0, u "java/lang/Object"), (0, .class_ 3)] 3

/-- java/lang/Cloneable -/
def k4 : Class := { plain "java/lang/Cloneable" (some 0) with
  accessFlags := 1537
  interfaces := #[]
  cf := some (fileOf pool4 2 #[] #[] 1537 4 #[] #[])
  fields := #[]
  methods := #[]
  instanceTypes := #[]
  staticTypes := #[]
  resolved := Array.replicate 8 none
  statics := none }

def pool5 : Array CpInfo := pool [(1, u "java/io/Serializable"), (0, .class_ 1), (0, u "java/lang/Object"), (0, .class_ 3)] 3

/-- java/io/Serializable -/
def k5 : Class := { plain "java/io/Serializable" (some 0) with
  accessFlags := 1537
  interfaces := #[]
  cf := some (fileOf pool5 2 #[] #[] 1537 4 #[] #[])
  fields := #[]
  methods := #[]
  instanceTypes := #[]
  staticTypes := #[]
  resolved := Array.replicate 8 none
  statics := none }

/-- the primitive byte -/
def k6 : Class := { plain "byte" none with kind := .primitive 'B', accessFlags := 0x411 }
/-- [B -/
def k7 : Class := { plain "[B" (some 0) with kind := .array 6 .byte, interfaces := #[4, 5], accessFlags := 1041 }

/-- the primitive int -/
def k8 : Class := { plain "int" none with kind := .primitive 'I', accessFlags := 0x411 }
/-- [I -/
def k9 : Class := { plain "[I" (some 0) with kind := .array 8 .int, interfaces := #[4, 5], accessFlags := 1041 }

def heap : Heap := #[{ cls := 2, slots := #[.ref 1], vm := .statics 2 },
  { cls := 9, slots := #[], vm := .none }]
def classes : Array Class := #[k0, k1, k2, k3, k4, k5, k6, k7, k8, k9]
def interned : List (Array UInt16 × Addr) := []
def slotsUsed : Nat := 1
def theMethod : MethodId := ⟨1, 1⟩
def args0 : Array Value := #[.int 5, .int 6, .int 7, .int 1]
def aboutOver (below : List Frame) : State where
  vm := { classes := classes, interned := interned.toArray }
  heap := heap
  slotsUsed := slotsUsed
  threads := #[{ frames := .invoking theMethod args0 :: below }]
def below0 : List Frame := [.native { method := ⟨0, 0⟩, args := #[] }]
def about1 : State := aboutOver below0
def p0 : Program := .bare "" "" ""
def e0 : Env := launch0.env 0 0 0
theorem w_frames : about1.frames = Frame.invoking theMethod args0 :: below0 := rfl
set_option maxRecDepth 65536 in
theorem w_args : argsFit about1.vm theMethod args0 = true := by decide +kernel
set_option maxRecDepth 65536 in
theorem w_heap : heapFits about1 = true := by decide +kernel
set_option maxRecDepth 65536 in
theorem w_runnable : about1.curStatus? = some .runnable := by decide +kernel
set_option maxRecDepth 65536 in
theorem w_alone : about1.alone = true := by decide +kernel
set_option maxRecDepth 65536 in
theorem w_named : about1.methodNamed? x = some theMethod := by decide +kernel
set_option maxRecDepth 65536 in
theorem w_hears : about1.hears theMethod below0 = true := by decide +kernel
set_option maxRecDepth 65536 in
theorem w_ripe : about1.ripe theMethod args0 below0 = true := by decide +kernel
theorem w_running : about1.status = .running := rfl
set_option maxRecDepth 65536 in
theorem w_room : about1.hasRoom e0.platform room_1 = true :=
  launch0.hasRoom_least _ room_1 (by decide +kernel) (by decide +kernel) (by decide +kernel) (by decide +kernel) (by decide +kernel) (by decide +kernel)
theorem allAtoms_all (ts : List Jvm.Cond) (a : Array Jvm.Value) (st : Jvm.State) : (allAtoms ts).before a st = ts.all (fun c => c.before a st) := by
  induction ts with
  | nil => rfl
  | cons c t ih =>
    show (Jvm.Cond.and c (allAtoms t)).before a st = _
    rw [Jvm.Cond.before_and, ih, List.all_cons]
def words1 : List Jvm.Cond := Jvm.Cond.code x code maxLocals ret :: tables_1
/-- a 'code' word, met by the world's own term for the bytes: nothing is compared byte by byte -/
theorem code_word {y : MethodName} {bytes : ByteArray} {mx : Nat} {rt : Option FieldType} {a : Array Value} {s : State} {m : MethodId} {meth : Method} {c : Code} (h1 : s.methodNamed? y = some m) (h2 : s.vm.method? m = some meth) (h3 : meth.code = some c) (h4 : c.code = bytes)
    (h5 : (c.maxLocals == mx && c.exceptionTable.isEmpty && decide (c.maxStack ≤ mostOperands) && decide (meth.sig.returnType = rt) && !meth.locks && decide (parseMethodDescriptor y.desc = some meth.sig)) = true) : (Jvm.Cond.code y bytes mx rt).before a s = true := by
  simp only [Bool.and_eq_true, beq_iff_eq, Bool.not_eq_true', decide_eq_true_eq] at h5
  obtain ⟨⟨⟨⟨⟨g1, g2⟩, g3⟩, g4⟩, g5⟩, g6⟩ := h5
  simp [Cond.before, Cond.holds, Cond.value, h1, h2, h3, h4, g1, g2, g3, g4, g5, g6]
def isCode : Jvm.Cond → Bool
  | .code _ _ _ _ => true
  | _ => false
theorem all_split {L : List Jvm.Cond} {P : Jvm.Cond → Bool} (h1 : L.all (fun c => isCode c || P c) = true) (h2 : ∀ c ∈ L.filter isCode, P c = true) : L.all P = true := by
  refine List.all_eq_true.mpr fun c hc => ?_
  have h := List.all_eq_true.mp h1 c hc
  rcases Bool.eq_false_or_eq_true (isCode c) with hi | hi
  · exact h2 c (List.mem_filter.mpr ⟨hc, hi⟩)
  · simpa [hi] using h
set_option maxRecDepth 65536 in
theorem w_c0 : (Jvm.Cond.code x code maxLocals ret).before args0 about1 = true := code_word (m := ⟨1, 1⟩) (meth := k1m1) (c := k1c1) (by decide +kernel) rfl rfl rfl (by decide +kernel)
set_option maxRecDepth 65536 in
theorem w_c1 : (Jvm.Cond.code ({ cls := "com/example/wakachi/wakachi/match/IntDeque", name := "<init>", desc := "()V" } : Jvm.MethodName) prog_46_method_1_code (1 : Nat) (Option.none : Option Jvm.ClassFile.FieldType)).before args0 about1 = true := code_word (m := ⟨2, 0⟩) (meth := k2m0) (c := k2c0) (by decide +kernel) rfl rfl rfl (by decide +kernel)
set_option maxRecDepth 65536 in
theorem w_c2 : (Jvm.Cond.code ({ cls := "java/lang/Object", name := "<init>", desc := "()V" } : Jvm.MethodName) object_method_1_code (1 : Nat) (Option.none : Option Jvm.ClassFile.FieldType)).before args0 about1 = true := code_word (m := ⟨0, 0⟩) (meth := k0m0) (c := k0c0) (by decide +kernel) rfl rfl rfl (by decide +kernel)
set_option maxRecDepth 65536 in
theorem w_c3 : (Jvm.Cond.code ({ cls := "com/example/wakachi/wakachi/match/IntDeque", name := "add", desc := "(I)V" } : Jvm.MethodName) prog_46_method_4_code (2 : Nat) (Option.none : Option Jvm.ClassFile.FieldType)).before args0 about1 = true := code_word (m := ⟨2, 2⟩) (meth := k2m2) (c := k2c2) (by decide +kernel) rfl rfl rfl (by decide +kernel)
set_option maxRecDepth 65536 in
theorem w_c4 : (Jvm.Cond.code ({ cls := "com/example/wakachi/wakachi/match/IntDeque", name := "grow", desc := "()V" } : Jvm.MethodName) prog_46_method_9_code (3 : Nat) (Option.none : Option Jvm.ClassFile.FieldType)).before args0 about1 = true := code_word (m := ⟨2, 5⟩) (meth := k2m5) (c := k2c5) (by decide +kernel) rfl rfl rfl (by decide +kernel)
set_option maxRecDepth 65536 in
theorem w_c5 : (Jvm.Cond.code ({ cls := "java/lang/Math", name := "max", desc := "(II)I" } : Jvm.MethodName) jdk_29_method_65_code (2 : Nat) (Option.some Jvm.ClassFile.FieldType.int)).before args0 about1 = true := code_word (m := ⟨3, 1⟩) (meth := k3m1) (c := k3c1) (by decide +kernel) rfl rfl rfl (by decide +kernel)
set_option maxRecDepth 65536 in
theorem w_c6 : (Jvm.Cond.code ({ cls := "com/example/wakachi/wakachi/match/IntDeque", name := "removeFirst", desc := "()I" } : Jvm.MethodName) prog_46_method_7_code (2 : Nat) (Option.some Jvm.ClassFile.FieldType.int)).before args0 about1 = true := code_word (m := ⟨2, 4⟩) (meth := k2m4) (c := k2c4) (by decide +kernel) rfl rfl rfl (by decide +kernel)
set_option maxRecDepth 65536 in
theorem w_c7 : (Jvm.Cond.code ({ cls := "com/example/wakachi/wakachi/match/IntDeque", name := "size", desc := "()I" } : Jvm.MethodName) prog_46_method_3_code (1 : Nat) (Option.some Jvm.ClassFile.FieldType.int)).before args0 about1 = true := code_word (m := ⟨2, 1⟩) (meth := k2m1) (c := k2c1) (by decide +kernel) rfl rfl rfl (by decide +kernel)
set_option maxRecDepth 65536 in
theorem w_c8 : (Jvm.Cond.code ({ cls := "com/example/wakachi/wakachi/match/IntDeque", name := "first", desc := "()I" } : Jvm.MethodName) prog_46_method_5_code (1 : Nat) (Option.some Jvm.ClassFile.FieldType.int)).before args0 about1 = true := code_word (m := ⟨2, 3⟩) (meth := k2m3) (c := k2c3) (by decide +kernel) rfl rfl rfl (by decide +kernel)
def codes1 : List Jvm.Cond := [Jvm.Cond.code x code maxLocals ret, Jvm.Cond.code ({ cls := "com/example/wakachi/wakachi/match/IntDeque", name := "<init>", desc := "()V" } : Jvm.MethodName) prog_46_method_1_code (1 : Nat) (Option.none : Option Jvm.ClassFile.FieldType), Jvm.Cond.code ({ cls := "java/lang/Object", name := "<init>", desc := "()V" } : Jvm.MethodName) object_method_1_code (1 : Nat) (Option.none : Option Jvm.ClassFile.FieldType), Jvm.Cond.code ({ cls := "com/example/wakachi/wakachi/match/IntDeque", name := "add", desc := "(I)V" } : Jvm.MethodName) prog_46_method_4_code (2 : Nat) (Option.none : Option Jvm.ClassFile.FieldType), Jvm.Cond.code ({ cls := "com/example/wakachi/wakachi/match/IntDeque", name := "grow", desc := "()V" } : Jvm.MethodName) prog_46_method_9_code (3 : Nat) (Option.none : Option Jvm.ClassFile.FieldType), Jvm.Cond.code ({ cls := "java/lang/Math", name := "max", desc := "(II)I" } : Jvm.MethodName) jdk_29_method_65_code (2 : Nat) (Option.some Jvm.ClassFile.FieldType.int), Jvm.Cond.code ({ cls := "com/example/wakachi/wakachi/match/IntDeque", name := "removeFirst", desc := "()I" } : Jvm.MethodName) prog_46_method_7_code (2 : Nat) (Option.some Jvm.ClassFile.FieldType.int), Jvm.Cond.code ({ cls := "com/example/wakachi/wakachi/match/IntDeque", name := "size", desc := "()I" } : Jvm.MethodName) prog_46_method_3_code (1 : Nat) (Option.some Jvm.ClassFile.FieldType.int), Jvm.Cond.code ({ cls := "com/example/wakachi/wakachi/match/IntDeque", name := "first", desc := "()I" } : Jvm.MethodName) prog_46_method_5_code (1 : Nat) (Option.some Jvm.ClassFile.FieldType.int)]
set_option maxRecDepth 65536 in
theorem codes_eq : words1.filter isCode = codes1 := rfl
theorem w_codes : ∀ c ∈ words1.filter isCode, c.before args0 about1 = true := by
  rw [codes_eq]
  intro c hc
  simp only [codes1, List.mem_cons, List.not_mem_nil, or_false] at hc
  rcases hc with rfl | rfl | rfl | rfl | rfl | rfl | rfl | rfl | rfl
  · exact w_c0
  · exact w_c1
  · exact w_c2
  · exact w_c3
  · exact w_c4
  · exact w_c5
  · exact w_c6
  · exact w_c7
  · exact w_c8
set_option maxRecDepth 65536 in
theorem w_t1 : (words1.take 24).all (fun c => isCode c || c.before args0 about1) = true := by decide +kernel
set_option maxRecDepth 65536 in
theorem w_t2 : (words1.drop 24).all (fun c => isCode c || c.before args0 about1) = true := by decide +kernel
theorem w_tables : (allAtoms (Jvm.Cond.code x code maxLocals ret :: tables_1)).before args0 about1 = true := by
  rw [allAtoms_all]
  show words1.all (fun c => c.before args0 about1) = true
  refine all_split ?_ w_codes
  rw [← List.take_append_drop 24 words1, List.all_append, w_t1, w_t2]
  rfl
set_option maxRecDepth 65536 in
theorem w_case : (Jvm.Cond.and given_1 narrow_1).before args0 about1 = true := by decide +kernel
theorem w_applies : (headSpec (Jvm.Cond.code x code maxLocals ret :: tables_1) room_1).applies x e0.platform about1 = true :=
  (Spec.applies_iff w_frames).mpr ⟨w_running, w_runnable, w_alone, w_named, w_hears, w_ripe, w_room, w_tables⟩
theorem atStart : AtStart classFile x code maxLocals ret World_1 tables_1 room_1 Calls_1 rest_1 Pre_1 launch0 p0 e0 about1 theMethod args0 below0 :=
  ⟨lists_1, trivial, launch0.admits_env _ _ _, launch0.least_env, fairChoices_fair.cas, fairChoices_fair.clock, w_frames, w_args, w_heap, w_applies, trivial, trivial, w_case⟩
end start1
theorem witness_1 : WitnessClaimed_1 := ⟨start1.p0, start1.e0, start1.about1, start1.theMethod, start1.args0, start1.below0, start1.atStart⟩
end Jvm.Pilot.@@N@@
