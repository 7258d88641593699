import JvmDerived
import JvmDerived.Pilot.@@N@@Statement
import JvmDerived.Pilot.@@N@@Code
set_option linter.unusedVariables false
set_option linter.unusedSimpArgs false
namespace Jvm.RoadKit
open Sem ClassFile Op Lib Jvm.Stand Jvm.Free Jvm.LawKit
section New
variable {p : Program} {l : Launch} {e : Env} {R : Room} {s : State} {m : MethodId} {args : Array Value} {below : List Frame} {meth : Method} {c : Code} {T : State} {locs : List Loc} {cells slots : Nat}
theorem retI (X : Stand p l e R s m args below meth c T locs cells slots) (hx : p.tables.exec = Jvm.exec) {pc : Nat} {Ls : Array Slot} {z : Int32} {rest : List Value} (hret : meth.sig.returnType = some .int) (hd : decode c.code pc = .ok (.ireturn, 1)) {fs : List Frame}
    (hl : ∀ (f : JFrame) (acts : List Action), f.method = m → f.locked = none → f.entered = [] → (doReturn e (T.setTop f) acts (some (.int z))).1 = T.setFrames fs) : Steps p.tables e below (T.setTop (mkF m pc Ls (.int z :: rest))) (T.setFrames fs) :=
  retOut X hx hret rfl (Or.inl ⟨rfl, Or.inl rfl, z, rfl⟩) hd hl
end New
end Jvm.RoadKit
namespace Jvm.Pilot.@@N@@
open Jvm Jvm.ClassFile Sem Op Lib Jvm.Free Jvm.Stand Jvm.LawKit Jvm.RoadKit Bundle Jvm.Pilot.@@N@@.Jvm.D
/-! small laws of this text's own -/
theorem own_eqv {args : Array Value} {first s : State} {o : Option Outcome} {idx : List Nat} {a b : Term} {v : Value} (h : (Jvm.Cond.eq a b).value args first o s idx = some true) (hb : b.eval args first o idx s = some v) : a.eval args first o idx s = some v := by
  cases ha : a.eval args first o idx s with
  | none => simp [Cond.value, ha] at h
  | some x => cases x <;> cases v <;> simp_all [Cond.value]
theorem own_fld {args : Array Value} {s : State} {t b : Term} {x : Addr} {C n d : String} {v : Value} (ht : t.eval args s none [] s = some (.ref x)) (h : (Jvm.Cond.eq (.field t C n d) b).value args s none s [] = some true) (hb : b.eval args s none [] s = some v) : Fld s s.heap x C n d v :=
  Fld.start ((fld_at ht).symm.trans (own_eqv h hb))
theorem own_len {args : Array Value} {s : State} {t : Term} {x : Addr} {c : Cell} {n : Int32} (ht : t.eval args s none [] s = some (.ref x)) (hc : s.heap[x]? = some c) (h : (Jvm.Cond.eq (.length t) (.int n)).value args s none s [] = some true) : c.slots.size < 2 ^ 31 ∧ c.slots.size.toInt32 = n := by
  have e := own_eqv h (v := .int n) rfl
  simp only [Term.eval, ht, Option.bind_eq_bind, Option.bind_some] at e
  cases hq : s.arrayAt? x with
  | none => simp [hq] at e
  | some c' =>
    have h1 := (State.arrayAt?_spec hq).1
    cases hc.symm.trans h1
    simp only [hq, Option.bind_some] at e
    split at e
    · rename_i hl; exact ⟨hl, by simpa using e⟩
    · cases e
theorem own_elem {args : Array Value} {s : State} {t b : Term} {x : Addr} {c : Cell} {j : Int32} {v : Value} (ht : t.eval args s none [] s = some (.ref x)) (hc : s.heap[x]? = some c) (h : (Jvm.Cond.eq (.elem t (.int j)) b).value args s none s [] = some true) (hb : b.eval args s none [] s = some v) : c.slots[j.toNatClampNeg]? = some v :=
  (elem_in (own_eqv h hb) ht rfl hc).2
theorem own_selpriv {y : MethodName} {s : State} {args : Array Value} {n : Nat} (hy : y.cls ≠ "java/lang/invoke/MethodHandle" ∧ y.cls ≠ "java/lang/invoke/VarHandle") (hins : (Jvm.Cond.instantiable y.cls n).before args s = true) (hpriv : (Jvm.Cond.privateMethod y).before args s = true) (hinst : (Jvm.Cond.instanceMethod y).before args s = true) : (Jvm.Cond.selects y.cls y y).before args s = true := by
  obtain ⟨c, k, hc, hk, -, hniab, -, -⟩ := Cond.instantiable_spec hins
  exact Stand.selects_self_of_private hc hk (Bool.or_eq_false_iff.mp hniab).1 (Cond.privateMethod_at hpriv) hinst hy
theorem own_ext {h0 h : Heap} (K : Keep h0 h []) : Ext h0 h := ⟨K.1, fun x c q => K.2.1 x c q (fun z => nomatch z)⟩
theorem own_cat1 {v : Value} (h : v.isRef = true) : v.category = 1 := by cases v <;> first | rfl | simp [Value.isRef] at h
theorem own_narref {t : FieldType} {v : Value} (h : t.isReference = true) (hv : v.isRef = true) : narrow t v = v := by
  cases v <;> first | (simp [Value.isRef] at hv; done) | (cases t <;> first | rfl | simp [FieldType.isReference] at h)
theorem own_store1 {l : Array Slot} {i : Nat} {v : Value} {o : Slot} (hold : l[i]? = some o) (ho : o = .unset ∨ ∃ w, o = .val w ∧ w.category = 1) (hv : v.category = 1) : storeLocals l i v = some (l.setIfInBounds i (.val v)) := XS.store1 hold ho hv
def own_Base (Z : State) (u : Nat → Addr) : Prop :=
  (Sta Z Z.heap "com/example/trailwire/trailwire/status/StatusCode" "OK" "Lcom/example/trailwire/trailwire/status/StatusCode;" (.ref (u 0))) ∧
  (Exa Z Z.heap (u 0) "com/example/trailwire/trailwire/status/StatusCode") ∧
  (Sta Z Z.heap "com/example/trailwire/trailwire/status/StatusCode" "CANCELLED" "Lcom/example/trailwire/trailwire/status/StatusCode;" (.ref (u 1))) ∧
  (Exa Z Z.heap (u 1) "com/example/trailwire/trailwire/status/StatusCode") ∧
  (Sta Z Z.heap "com/example/trailwire/trailwire/status/StatusCode" "UNKNOWN" "Lcom/example/trailwire/trailwire/status/StatusCode;" (.ref (u 2))) ∧
  (Exa Z Z.heap (u 2) "com/example/trailwire/trailwire/status/StatusCode") ∧
  (Sta Z Z.heap "com/example/trailwire/trailwire/status/StatusCode" "INVALID_ARGUMENT" "Lcom/example/trailwire/trailwire/status/StatusCode;" (.ref (u 3))) ∧
  (Exa Z Z.heap (u 3) "com/example/trailwire/trailwire/status/StatusCode") ∧
  (Sta Z Z.heap "com/example/trailwire/trailwire/status/StatusCode" "DEADLINE_EXCEEDED" "Lcom/example/trailwire/trailwire/status/StatusCode;" (.ref (u 4))) ∧
  (Exa Z Z.heap (u 4) "com/example/trailwire/trailwire/status/StatusCode") ∧
  (Sta Z Z.heap "com/example/trailwire/trailwire/status/StatusCode" "NOT_FOUND" "Lcom/example/trailwire/trailwire/status/StatusCode;" (.ref (u 5))) ∧
  (Exa Z Z.heap (u 5) "com/example/trailwire/trailwire/status/StatusCode") ∧
  (Sta Z Z.heap "com/example/trailwire/trailwire/status/StatusCode" "ALREADY_EXISTS" "Lcom/example/trailwire/trailwire/status/StatusCode;" (.ref (u 6))) ∧
  (Exa Z Z.heap (u 6) "com/example/trailwire/trailwire/status/StatusCode") ∧
  (Sta Z Z.heap "com/example/trailwire/trailwire/status/StatusCode" "PERMISSION_DENIED" "Lcom/example/trailwire/trailwire/status/StatusCode;" (.ref (u 7))) ∧
  (Exa Z Z.heap (u 7) "com/example/trailwire/trailwire/status/StatusCode") ∧
  (Sta Z Z.heap "com/example/trailwire/trailwire/status/StatusCode" "RESOURCE_EXHAUSTED" "Lcom/example/trailwire/trailwire/status/StatusCode;" (.ref (u 8))) ∧
  (Exa Z Z.heap (u 8) "com/example/trailwire/trailwire/status/StatusCode") ∧
  (Sta Z Z.heap "com/example/trailwire/trailwire/status/StatusCode" "FAILED_PRECONDITION" "Lcom/example/trailwire/trailwire/status/StatusCode;" (.ref (u 9))) ∧
  (Exa Z Z.heap (u 9) "com/example/trailwire/trailwire/status/StatusCode") ∧
  (Sta Z Z.heap "com/example/trailwire/trailwire/status/StatusCode" "ABORTED" "Lcom/example/trailwire/trailwire/status/StatusCode;" (.ref (u 10))) ∧
  (Exa Z Z.heap (u 10) "com/example/trailwire/trailwire/status/StatusCode") ∧
  (Sta Z Z.heap "com/example/trailwire/trailwire/status/StatusCode" "OUT_OF_RANGE" "Lcom/example/trailwire/trailwire/status/StatusCode;" (.ref (u 11))) ∧
  (Exa Z Z.heap (u 11) "com/example/trailwire/trailwire/status/StatusCode") ∧
  (Sta Z Z.heap "com/example/trailwire/trailwire/status/StatusCode" "UNIMPLEMENTED" "Lcom/example/trailwire/trailwire/status/StatusCode;" (.ref (u 12))) ∧
  (Exa Z Z.heap (u 12) "com/example/trailwire/trailwire/status/StatusCode") ∧
  (Sta Z Z.heap "com/example/trailwire/trailwire/status/StatusCode" "INTERNAL" "Lcom/example/trailwire/trailwire/status/StatusCode;" (.ref (u 13))) ∧
  (Exa Z Z.heap (u 13) "com/example/trailwire/trailwire/status/StatusCode") ∧
  (Sta Z Z.heap "com/example/trailwire/trailwire/status/StatusCode" "UNAVAILABLE" "Lcom/example/trailwire/trailwire/status/StatusCode;" (.ref (u 14))) ∧
  (Exa Z Z.heap (u 14) "com/example/trailwire/trailwire/status/StatusCode") ∧
  (Sta Z Z.heap "com/example/trailwire/trailwire/status/StatusCode" "DATA_LOSS" "Lcom/example/trailwire/trailwire/status/StatusCode;" (.ref (u 15))) ∧
  (Exa Z Z.heap (u 15) "com/example/trailwire/trailwire/status/StatusCode") ∧
  (Sta Z Z.heap "com/example/trailwire/trailwire/status/StatusCode" "UNAUTHENTICATED" "Lcom/example/trailwire/trailwire/status/StatusCode;" (.ref (u 16))) ∧
  (Exa Z Z.heap (u 16) "com/example/trailwire/trailwire/status/StatusCode") ∧
  (Sta Z Z.heap "com/example/trailwire/trailwire/status/StatusCode" "BY_NUMBER" "[Lcom/example/trailwire/trailwire/status/StatusCode;" (.ref (u 17))) ∧
  (Fld Z Z.heap (u 0) "com/example/trailwire/trailwire/status/StatusCode" "number" "I" (.int (0 : Int32))) ∧
  (Fld Z Z.heap (u 1) "com/example/trailwire/trailwire/status/StatusCode" "number" "I" (.int (1 : Int32))) ∧
  (Fld Z Z.heap (u 2) "com/example/trailwire/trailwire/status/StatusCode" "number" "I" (.int (2 : Int32))) ∧
  (Fld Z Z.heap (u 3) "com/example/trailwire/trailwire/status/StatusCode" "number" "I" (.int (3 : Int32))) ∧
  (Fld Z Z.heap (u 4) "com/example/trailwire/trailwire/status/StatusCode" "number" "I" (.int (4 : Int32))) ∧
  (Fld Z Z.heap (u 5) "com/example/trailwire/trailwire/status/StatusCode" "number" "I" (.int (5 : Int32))) ∧
  (Fld Z Z.heap (u 6) "com/example/trailwire/trailwire/status/StatusCode" "number" "I" (.int (6 : Int32))) ∧
  (Fld Z Z.heap (u 7) "com/example/trailwire/trailwire/status/StatusCode" "number" "I" (.int (7 : Int32))) ∧
  (Fld Z Z.heap (u 8) "com/example/trailwire/trailwire/status/StatusCode" "number" "I" (.int (8 : Int32))) ∧
  (Fld Z Z.heap (u 9) "com/example/trailwire/trailwire/status/StatusCode" "number" "I" (.int (9 : Int32))) ∧
  (Fld Z Z.heap (u 10) "com/example/trailwire/trailwire/status/StatusCode" "number" "I" (.int (10 : Int32))) ∧
  (Fld Z Z.heap (u 11) "com/example/trailwire/trailwire/status/StatusCode" "number" "I" (.int (11 : Int32))) ∧
  (Fld Z Z.heap (u 12) "com/example/trailwire/trailwire/status/StatusCode" "number" "I" (.int (12 : Int32))) ∧
  (Fld Z Z.heap (u 13) "com/example/trailwire/trailwire/status/StatusCode" "number" "I" (.int (13 : Int32))) ∧
  (Fld Z Z.heap (u 14) "com/example/trailwire/trailwire/status/StatusCode" "number" "I" (.int (14 : Int32))) ∧
  (Fld Z Z.heap (u 15) "com/example/trailwire/trailwire/status/StatusCode" "number" "I" (.int (15 : Int32))) ∧
  (Fld Z Z.heap (u 16) "com/example/trailwire/trailwire/status/StatusCode" "number" "I" (.int (16 : Int32))) ∧
  (∃ k, Arv Z Z.heap (u 17) k (.object "com/example/trailwire/trailwire/status/StatusCode") (17 : Int32) [.ref (u 0), .ref (u 1), .ref (u 2), .ref (u 3), .ref (u 4), .ref (u 5), .ref (u 6), .ref (u 7), .ref (u 8), .ref (u 9), .ref (u 10), .ref (u 11), .ref (u 12), .ref (u 13), .ref (u 14), .ref (u 15), .ref (u 16)] .null)
theorem own_pd0 : parseMethodDescriptor "(I)Lcom/example/trailwire/trailwire/status/StatusCode;" = some ⟨[.int], some (.object "com/example/trailwire/trailwire/status/StatusCode")⟩ := by decide +kernel
theorem own_pd1 : parseMethodDescriptor "()I" = some ⟨[], some .int⟩ := by decide +kernel
theorem own_pd2 : parseMethodDescriptor "(I)Z" = some ⟨[.int], some .boolean⟩ := by decide +kernel
theorem own_exh17 {j : Int32} (h0 : 0 ≤ j.toInt) (h1 : j.toInt < 17) (n0 : ¬ j = (0 : Int32)) (n1 : ¬ j = (1 : Int32)) (n2 : ¬ j = (2 : Int32)) (n3 : ¬ j = (3 : Int32)) (n4 : ¬ j = (4 : Int32)) (n5 : ¬ j = (5 : Int32)) (n6 : ¬ j = (6 : Int32)) (n7 : ¬ j = (7 : Int32)) (n8 : ¬ j = (8 : Int32)) (n9 : ¬ j = (9 : Int32)) (n10 : ¬ j = (10 : Int32)) (n11 : ¬ j = (11 : Int32)) (n12 : ¬ j = (12 : Int32)) (n13 : ¬ j = (13 : Int32)) (n14 : ¬ j = (14 : Int32)) (n15 : ¬ j = (15 : Int32)) (n16 : ¬ j = (16 : Int32)) : False := by
  have e0 : j.toInt ≠ 0 := fun q => n0 (Int32.toInt_inj.mp (q.trans rfl))
  have e1 : j.toInt ≠ 1 := fun q => n1 (Int32.toInt_inj.mp (q.trans rfl))
  have e2 : j.toInt ≠ 2 := fun q => n2 (Int32.toInt_inj.mp (q.trans rfl))
  have e3 : j.toInt ≠ 3 := fun q => n3 (Int32.toInt_inj.mp (q.trans rfl))
  have e4 : j.toInt ≠ 4 := fun q => n4 (Int32.toInt_inj.mp (q.trans rfl))
  have e5 : j.toInt ≠ 5 := fun q => n5 (Int32.toInt_inj.mp (q.trans rfl))
  have e6 : j.toInt ≠ 6 := fun q => n6 (Int32.toInt_inj.mp (q.trans rfl))
  have e7 : j.toInt ≠ 7 := fun q => n7 (Int32.toInt_inj.mp (q.trans rfl))
  have e8 : j.toInt ≠ 8 := fun q => n8 (Int32.toInt_inj.mp (q.trans rfl))
  have e9 : j.toInt ≠ 9 := fun q => n9 (Int32.toInt_inj.mp (q.trans rfl))
  have e10 : j.toInt ≠ 10 := fun q => n10 (Int32.toInt_inj.mp (q.trans rfl))
  have e11 : j.toInt ≠ 11 := fun q => n11 (Int32.toInt_inj.mp (q.trans rfl))
  have e12 : j.toInt ≠ 12 := fun q => n12 (Int32.toInt_inj.mp (q.trans rfl))
  have e13 : j.toInt ≠ 13 := fun q => n13 (Int32.toInt_inj.mp (q.trans rfl))
  have e14 : j.toInt ≠ 14 := fun q => n14 (Int32.toInt_inj.mp (q.trans rfl))
  have e15 : j.toInt ≠ 15 := fun q => n15 (Int32.toInt_inj.mp (q.trans rfl))
  have e16 : j.toInt ≠ 16 := fun q => n16 (Int32.toInt_inj.mp (q.trans rfl))
  omega
theorem d3_0 : decode prog_23_method_4_code 0 = .ok (.aload_n 0, 1) := by decide +kernel
theorem d3_1 : decode prog_23_method_4_code 1 = .ok (.getfield 74, 3) := by decide +kernel
theorem d3_4 : decode prog_23_method_4_code 4 = .ok (.ireturn, 1) := by decide +kernel
theorem own_pn_3 : plainName "com/example/trailwire/trailwire/status/StatusCode" = true := by first | (simp [plainName, overriddenIn]; done) | decide +kernel
theorem own_ef_3 (m : MethodId) (x0 : Addr) : entryFrame m #[(.ref x0)] 1 = mkF m 0 #[.val (.ref x0)] [] := by first | (simp [entryFrame, mkF, argsToLocals, Value.category]; done) | rfl
def own_Q3 (Z : State) (u : Nat → Addr) (r0 : Addr) (w_number_r0 : Int32) (h0 : Heap) (n0 : Nat) (v : Option Value) (h : Heap) (L : List Loc) : Prop := v = some (.int w_number_r0) ∧ Fr n0 L ∧ h = h0
set_option maxRecDepth 65536 in
set_option maxHeartbeats 40000000 in
theorem rm3 (l : Launch) (Z : State) (a0 : Array Value) (hw : ∀ d ∈ tables_1, d.before a0 Z = true) (ws : List Jvm.Cond) (u : Nat → Addr) (r0 : Addr) (w_number_r0 : Int32) (B : own_Base Z u) (h0 : Heap) (n0 : Nat) (O : Old Z n0 h0) (F_w_number_r0 : Fld Z h0 r0 "com/example/trailwire/trailwire/status/StatusCode" "number" "I" (.int w_number_r0)) :
    MetFree l (⟨"com/example/trailwire/trailwire/status/StatusCode", "number", "()I"⟩ : MethodName) (head1 (Jvm.Cond.code (⟨"com/example/trailwire/trailwire/status/StatusCode", "number", "()I"⟩ : MethodName) prog_23_method_4_code 1 (some .int) :: ws) ({ frames := 0, cells := 0, slots := 0, locals := 0 } : Room)) (fun a U => a = #[(.ref r0)] ∧ Z.Warmed39 U.vm ∧ U.heap = h0) (fun _ _ _ _ _ => True) (fun _ U o U' => ∃ v L, o = .returned v ∧ own_Q3 Z u r0 w_number_r0 h0 n0 v U'.heap L ∧ FrameEnd U o U' L ({ frames := 0, cells := 0, slots := 0, locals := 0 } : Room).cells ({ frames := 0, cells := 0, slots := 0, locals := 0 } : Room).slots) := by
  refine MetFree.of_bodySF (plainFor_of_name own_pn_3) hisR ?_
  intro p e s m args below meth c s₁ Bd hml0 hP hK
  obtain ⟨rfl, hZ, hh⟩ := hP
  have hx := Bd.exec
  have hby := Bd.bytes
  have hml : c.maxLocals = 1 := hml0
  have hown : s.vm.findClass "com/example/trailwire/trailwire/status/StatusCode" = some m.cls := findClass_of_methodNamed Bd.named
  have hnm := (name_of_methodNamed Bd.named Bd.method).1
  have X0 : Stand p l e ({ frames := 0, cells := 0, slots := 0, locals := 0 } : Room) s m #[(.ref r0)] below meth c s₁ [] 0 0 := Stand.of_body Bd
  have e0 : s₁.heap = h0 := by rw [← hh, Bd.state]; rfl
  have N0 := Fr.nil n0
  have K0 := Keep.refl h0 []
  have Z0 : n0 ≤ h0.size := O.1 ▸ O.2.1
  have pre0 : ∀ t, Steps p.tables e below (s₁.setTop (mkF m 0 #[.val (.ref r0)] [])) t → Steps p.tables e below (s₁.setTop (entryFrame m #[(.ref r0)] 1)) t := fun t k => castTop (own_ef_3 m r0) k
  obtain ⟨T1, X1, e1, st1⟩ := getF X0 hx hZ hown (host := "") (Or.inl (hw _ (List.mem_of_getElem? (i := 53) rfl))) Via.refl e0 F_w_number_r0 (g := (mkF m 1 #[.val (.ref r0)] [(.ref r0)])) rfl rfl (hb hby d3_1)
  obtain ⟨fs, hr, hrun, hended, hW, hsame⟩ := X1.leave (v := some (.int w_number_r0)) (fun h => by rw [Bd.returns] at h; cases h)
  refine ⟨_, _, pre0 _ ?_, hrun, hended, _, _, rfl, ?_, ⟨_, rfl⟩, hW, hsame.mono (by decide) (by decide)⟩
  · show Steps p.tables e below (s₁.setTop (mkF m 0 #[.val (.ref r0)] [])) _
    refine XS.aloadN X0.here hx rfl (hb hby d3_0) rfl rfl ?_
    show Steps p.tables e below (s₁.setTop (mkF m 1 #[.val (.ref r0)] [(.ref r0)])) _
    refine st1 _ ?_
    show Steps p.tables e below (T1.setTop (mkF m 4 #[.val (.ref r0)] [(.int w_number_r0)])) _
    exact retI X1 hx Bd.returns (hb hby d3_4) hr
  · show own_Q3 Z u r0 w_number_r0 h0 n0 _ T1.heap _
    rw [e1]
    exact ⟨rfl, N0, rfl⟩
theorem d2_0 : decode prog_23_method_6_code 0 = .ok (.getstatic 10, 3) := by decide +kernel
theorem d2_3 : decode prog_23_method_6_code 3 = .ok (.astore_n 1, 1) := by decide +kernel
theorem d2_4 : decode prog_23_method_6_code 4 = .ok (.iload_n 0, 1) := by decide +kernel
theorem d2_5 : decode prog_23_method_6_code 5 = .ok (.ifCond .lt 17, 3) := by decide +kernel
theorem d2_8 : decode prog_23_method_6_code 8 = .ok (.iload_n 0, 1) := by decide +kernel
theorem d2_9 : decode prog_23_method_6_code 9 = .ok (.getstatic 88, 3) := by decide +kernel
theorem d2_12 : decode prog_23_method_6_code 12 = .ok (.arraylength, 1) := by decide +kernel
theorem d2_13 : decode prog_23_method_6_code 13 = .ok (.if_icmp .ge 9, 3) := by decide +kernel
theorem d2_16 : decode prog_23_method_6_code 16 = .ok (.getstatic 88, 3) := by decide +kernel
theorem d2_19 : decode prog_23_method_6_code 19 = .ok (.iload_n 0, 1) := by decide +kernel
theorem d2_20 : decode prog_23_method_6_code 20 = .ok (.aaload, 1) := by decide +kernel
theorem d2_21 : decode prog_23_method_6_code 21 = .ok (.astore_n 1, 1) := by decide +kernel
theorem d2_22 : decode prog_23_method_6_code 22 = .ok (.aload_n 1, 1) := by decide +kernel
theorem d2_23 : decode prog_23_method_6_code 23 = .ok (.areturn, 1) := by decide +kernel
theorem own_pn_2 : plainName "com/example/trailwire/trailwire/status/StatusCode" = true := by first | (simp [plainName, overriddenIn]; done) | decide +kernel
theorem own_ef_2 (m : MethodId) (x0 : Int32) : entryFrame m #[(.int x0)] 2 = mkF m 0 #[.val (.int x0), .unset] [] := by first | (simp [entryFrame, mkF, argsToLocals, Value.category]; done) | rfl
def own_r2 (u : Nat → Addr) (p0 : Int32) : Addr :=
  if p0 < (0 : Int32) then
    (u 2)
  else
    if p0 < (17 : Int32) then
      if p0 = (0 : Int32) then
        (u 0)
      else
        if p0 = (1 : Int32) then
          (u 1)
        else
          if p0 = (2 : Int32) then
            (u 2)
          else
            if p0 = (3 : Int32) then
              (u 3)
            else
              if p0 = (4 : Int32) then
                (u 4)
              else
                if p0 = (5 : Int32) then
                  (u 5)
                else
                  if p0 = (6 : Int32) then
                    (u 6)
                  else
                    if p0 = (7 : Int32) then
                      (u 7)
                    else
                      if p0 = (8 : Int32) then
                        (u 8)
                      else
                        if p0 = (9 : Int32) then
                          (u 9)
                        else
                          if p0 = (10 : Int32) then
                            (u 10)
                          else
                            if p0 = (11 : Int32) then
                              (u 11)
                            else
                              if p0 = (12 : Int32) then
                                (u 12)
                              else
                                if p0 = (13 : Int32) then
                                  (u 13)
                                else
                                  if p0 = (14 : Int32) then
                                    (u 14)
                                  else
                                    if p0 = (15 : Int32) then
                                      (u 15)
                                    else
                                      if p0 = (16 : Int32) then
                                        (u 16)
                                      else
                                        (0 : Nat)
    else
      (u 2)
def own_Q2 (Z : State) (u : Nat → Addr) (p0 : Int32) (h0 : Heap) (n0 : Nat) (v : Option Value) (h : Heap) (L : List Loc) : Prop := v = some (.ref (own_r2 u p0)) ∧ Fr n0 L ∧ h = h0
set_option maxRecDepth 65536 in
set_option maxHeartbeats 40000000 in
theorem rm2 (l : Launch) (Z : State) (a0 : Array Value) (hw : ∀ d ∈ tables_1, d.before a0 Z = true) (ws : List Jvm.Cond) (u : Nat → Addr) (p0 : Int32) (B : own_Base Z u) (h0 : Heap) (n0 : Nat) (O : Old Z n0 h0) :
    MetFree l (⟨"com/example/trailwire/trailwire/status/StatusCode", "fromNumber", "(I)Lcom/example/trailwire/trailwire/status/StatusCode;"⟩ : MethodName) (head1 (Jvm.Cond.code (⟨"com/example/trailwire/trailwire/status/StatusCode", "fromNumber", "(I)Lcom/example/trailwire/trailwire/status/StatusCode;"⟩ : MethodName) prog_23_method_6_code 2 (some (.object "com/example/trailwire/trailwire/status/StatusCode")) :: ws) ({ frames := 0, cells := 0, slots := 0, locals := 0 } : Room)) (fun a U => a = #[(.int p0)] ∧ Z.Warmed39 U.vm ∧ U.heap = h0) (fun _ _ _ _ _ => True) (fun _ U o U' => ∃ v L, o = .returned v ∧ own_Q2 Z u p0 h0 n0 v U'.heap L ∧ FrameEnd U o U' L ({ frames := 0, cells := 0, slots := 0, locals := 0 } : Room).cells ({ frames := 0, cells := 0, slots := 0, locals := 0 } : Room).slots) := by
  refine MetFree.of_bodySF (plainFor_of_name own_pn_2) hisR ?_
  intro p e s m args below meth c s₁ Bd hml0 hP hK
  obtain ⟨rfl, hZ, hh⟩ := hP
  have hx := Bd.exec
  have hby := Bd.bytes
  have hml : c.maxLocals = 2 := hml0
  have hown : s.vm.findClass "com/example/trailwire/trailwire/status/StatusCode" = some m.cls := findClass_of_methodNamed Bd.named
  have hnm := (name_of_methodNamed Bd.named Bd.method).1
  have X0 : Stand p l e ({ frames := 0, cells := 0, slots := 0, locals := 0 } : Room) s m #[(.int p0)] below meth c s₁ [] 0 0 := Stand.of_body Bd
  have e0 : s₁.heap = h0 := by rw [← hh, Bd.state]; rfl
  have N0 := Fr.nil n0
  have K0 := Keep.refl h0 []
  have Z0 : n0 ≤ h0.size := O.1 ▸ O.2.1
  have pre0 : ∀ t, Steps p.tables e below (s₁.setTop (mkF m 0 #[.val (.int p0), .unset] [])) t → Steps p.tables e below (s₁.setTop (entryFrame m #[(.int p0)] 2)) t := fun t k => castTop (own_ef_2 m p0) k
  obtain ⟨T3, X3, e3, st3⟩ := getS2 X0 hx hZ hown (host := "") (Or.inl (hw _ (List.mem_of_getElem? (i := 45) rfl))) Via.refl e0 (B.2.2.2.2.1.ext O.2) (g := (mkF m 0 #[.val (.int p0), .unset] [])) rfl (hb hby d2_0)
  have pre4 : ∀ t, Steps p.tables e below (T3.setTop (mkF m 5 #[.val (.int p0), .val (.ref (u 2))] [(.int p0)])) t → Steps p.tables e below (s₁.setTop (entryFrame m #[(.int p0)] 2)) t := fun t kt => pre0 t (by
    show Steps p.tables e below (s₁.setTop (mkF m 0 #[.val (.int p0), .unset] [])) _
    refine st3 _ ?_
    show Steps p.tables e below (T3.setTop (mkF m 3 #[.val (.int p0), .unset] [(.ref (u 2))])) _
    refine XS.astoreN X3.here hx rfl (hb hby d2_3) rfl rfl (l' := #[.val (.int p0), .val (.ref (u 2))]) rfl ?_
    show Steps p.tables e below (T3.setTop (mkF m 4 #[.val (.int p0), .val (.ref (u 2))] [])) _
    refine XS.iloadN X3.here hx rfl (hb hby d2_4) rfl ?_
    exact kt)
  by_cases hc5 : p0 < (0 : Int32)
  · --
    obtain ⟨fs, hr, hrun, hended, hW, hsame⟩ := X3.leave (v := some (.ref (u 2))) (fun h => by rw [Bd.returns] at h; cases h)
    refine ⟨_, _, pre4 _ ?_, hrun, hended, _, _, rfl, ?_, ⟨_, rfl⟩, hW, hsame.mono (by decide) (by decide)⟩
    · show Steps p.tables e below (T3.setTop (mkF m 5 #[.val (.int p0), .val (.ref (u 2))] [(.int p0)])) _
      refine XS.ifYes X3.here hx rfl (pc0 := 5) (pc' := 22) rfl (hb hby d2_5) rfl ((if0 _ _).trans (tlt hc5).1) (by decide) (by decide) ?_
      show Steps p.tables e below (T3.setTop (mkF m 22 #[.val (.int p0), .val (.ref (u 2))] [])) _
      refine XS.aloadN X3.here hx rfl (hb hby d2_22) rfl rfl ?_
      show Steps p.tables e below (T3.setTop (mkF m 23 #[.val (.int p0), .val (.ref (u 2))] [(.ref (u 2))])) _
      exact retOut X3 hx Bd.returns (own_narref rfl rfl) (Or.inr (Or.inr (Or.inr (Or.inr ⟨rfl, rfl, rfl⟩)))) (hb hby d2_23) hr
    · show own_Q2 Z u p0 h0 n0 _ T3.heap _
      rw [e3]
      exact ⟨(by unfold own_r2; rw [if_pos hc5]), N0, rfl⟩
  · --
    obtain ⟨T7, X7, e7, st7⟩ := getS2 X3 hx hZ hown (host := "") (Or.inl (hw _ (List.mem_of_getElem? (i := 46) rfl))) Via.refl e3 (B.2.2.2.2.2.2.2.2.2.2.2.2.2.2.2.2.2.2.2.2.2.2.2.2.2.2.2.2.2.2.2.2.2.2.1.ext O.2) (g := (mkF m 9 #[.val (.int p0), .val (.ref (u 2))] [(.int p0)])) rfl (hb hby d2_9)
    obtain ⟨kA17, VA17⟩ := id B.2.2.2.2.2.2.2.2.2.2.2.2.2.2.2.2.2.2.2.2.2.2.2.2.2.2.2.2.2.2.2.2.2.2.2.2.2.2.2.2.2.2.2.2.2.2.2.2.2.2.2.2
    obtain ⟨cl8, Ar8, -, S8, N8, -, -⟩ := id (VA17.ext O.2)
    have pre9 : ∀ t, Steps p.tables e below (T7.setTop (mkF m 13 #[.val (.int p0), .val (.ref (u 2))] [(.int (17 : Int32)), (.int p0)])) t → Steps p.tables e below (s₁.setTop (entryFrame m #[(.int p0)] 2)) t := fun t kt => pre4 t (by
      show Steps p.tables e below (T3.setTop (mkF m 5 #[.val (.int p0), .val (.ref (u 2))] [(.int p0)])) _
      refine XS.ifNo X3.here hx rfl (hb hby d2_5) rfl ((if0 _ _).trans (flt hc5).1) ?_
      show Steps p.tables e below (T3.setTop (mkF m 8 #[.val (.int p0), .val (.ref (u 2))] [])) _
      refine XS.iloadN X3.here hx rfl (hb hby d2_8) rfl ?_
      show Steps p.tables e below (T3.setTop (mkF m 9 #[.val (.int p0), .val (.ref (u 2))] [(.int p0)])) _
      refine st7 _ ?_
      show Steps p.tables e below (T7.setTop (mkF m 12 #[.val (.int p0), .val (.ref (u 2))] [(.ref (u 17)), (.int p0)])) _
      refine X7.arraylength hx (by rw [e7]; exact Ar8.1) (State.isArrayOf_alike hZ.alike Ar8.2.1) (g := (mkF m 12 #[.val (.int p0), .val (.ref (u 2))] [(.ref (u 17)), (.int p0)])) rfl rfl (hb hby d2_12) _ ?_
      rw [len_of S8 N8]
      exact kt)
    by_cases hc10 : p0 < (17 : Int32)
    · --
      obtain ⟨T11, X11, e11, st11⟩ := getS2 X7 hx hZ hown (host := "") (Or.inl (hw _ (List.mem_of_getElem? (i := 46) rfl))) Via.refl e7 (B.2.2.2.2.2.2.2.2.2.2.2.2.2.2.2.2.2.2.2.2.2.2.2.2.2.2.2.2.2.2.2.2.2.2.1.ext O.2) (g := (mkF m 16 #[.val (.int p0), .val (.ref (u 2))] [])) rfl (hb hby d2_16)
      have pre12 : ∀ t, Steps p.tables e below (T11.setTop (mkF m 20 #[.val (.int p0), .val (.ref (u 2))] [(.int p0), (.ref (u 17))])) t → Steps p.tables e below (s₁.setTop (entryFrame m #[(.int p0)] 2)) t := fun t kt => pre9 t (by
        show Steps p.tables e below (T7.setTop (mkF m 13 #[.val (.int p0), .val (.ref (u 2))] [(.int (17 : Int32)), (.int p0)])) _
        refine XS.icmpNo X7.here hx rfl (hb hby d2_13) rfl (tlt hc10).2.1 ?_
        show Steps p.tables e below (T7.setTop (mkF m 16 #[.val (.int p0), .val (.ref (u 2))] [])) _
        refine st11 _ ?_
        show Steps p.tables e below (T11.setTop (mkF m 19 #[.val (.int p0), .val (.ref (u 2))] [(.ref (u 17))])) _
        refine XS.iloadN X11.here hx rfl (hb hby d2_19) rfl ?_
        exact kt)
      by_cases hc13 : p0 = (0 : Int32)
      · --
        obtain ⟨cl14, Ar14, -, S14, N14, H14, -⟩ := id (VA17.ext O.2)
        have hin14 : ¬ (p0 < 0 ∨ cl14.slots.size ≤ (p0).toNatClampNeg) := by rw [hc13]; exact inb_of S14 ⟨by decide, by decide⟩
        obtain ⟨fs, hr, hrun, hended, hW, hsame⟩ := X11.leave (v := some (.ref (u 0))) (fun h => by rw [Bd.returns] at h; cases h)
        refine ⟨_, _, pre12 _ ?_, hrun, hended, _, _, rfl, ?_, ⟨_, rfl⟩, hW, hsame.mono (by decide) (by decide)⟩
        · show Steps p.tables e below (T11.setTop (mkF m 20 #[.val (.int p0), .val (.ref (u 2))] [(.int p0), (.ref (u 17))])) _
          refine X11.aaload hx (j := p0) (v := (.ref (u 0))) (by rw [e11]; exact Ar14.1) (State.isArrayOf_alike hZ.alike Ar14.2.1) rfl Ar14.2.2 hin14 (H14.at hin14 (by rw [hc13]; rfl)) (g := (mkF m 20 #[.val (.int p0), .val (.ref (u 2))] [(.int p0), (.ref (u 17))])) rfl rfl (hb hby d2_20) _ ?_
          show Steps p.tables e below (T11.setTop (mkF m 21 #[.val (.int p0), .val (.ref (u 2))] [(.ref (u 0))])) _
          refine XS.astoreN X11.here hx rfl (hb hby d2_21) rfl rfl (l' := #[.val (.int p0), .val (.ref (u 0))]) rfl ?_
          show Steps p.tables e below (T11.setTop (mkF m 22 #[.val (.int p0), .val (.ref (u 0))] [])) _
          refine XS.aloadN X11.here hx rfl (hb hby d2_22) rfl rfl ?_
          show Steps p.tables e below (T11.setTop (mkF m 23 #[.val (.int p0), .val (.ref (u 0))] [(.ref (u 0))])) _
          exact retOut X11 hx Bd.returns (own_narref rfl rfl) (Or.inr (Or.inr (Or.inr (Or.inr ⟨rfl, rfl, rfl⟩)))) (hb hby d2_23) hr
        · show own_Q2 Z u p0 h0 n0 _ T11.heap _
          rw [e11]
          exact ⟨(by unfold own_r2; rw [if_neg hc5, if_pos hc10, if_pos hc13]), N0, rfl⟩
      · --
        by_cases hc16 : p0 = (1 : Int32)
        · --
          obtain ⟨cl17, Ar17, -, S17, N17, H17, -⟩ := id (VA17.ext O.2)
          have hin17 : ¬ (p0 < 0 ∨ cl17.slots.size ≤ (p0).toNatClampNeg) := by rw [hc16]; exact inb_of S17 ⟨by decide, by decide⟩
          obtain ⟨fs, hr, hrun, hended, hW, hsame⟩ := X11.leave (v := some (.ref (u 1))) (fun h => by rw [Bd.returns] at h; cases h)
          refine ⟨_, _, pre12 _ ?_, hrun, hended, _, _, rfl, ?_, ⟨_, rfl⟩, hW, hsame.mono (by decide) (by decide)⟩
          · show Steps p.tables e below (T11.setTop (mkF m 20 #[.val (.int p0), .val (.ref (u 2))] [(.int p0), (.ref (u 17))])) _
            refine X11.aaload hx (j := p0) (v := (.ref (u 1))) (by rw [e11]; exact Ar17.1) (State.isArrayOf_alike hZ.alike Ar17.2.1) rfl Ar17.2.2 hin17 (H17.at hin17 (by rw [hc16]; rfl)) (g := (mkF m 20 #[.val (.int p0), .val (.ref (u 2))] [(.int p0), (.ref (u 17))])) rfl rfl (hb hby d2_20) _ ?_
            show Steps p.tables e below (T11.setTop (mkF m 21 #[.val (.int p0), .val (.ref (u 2))] [(.ref (u 1))])) _
            refine XS.astoreN X11.here hx rfl (hb hby d2_21) rfl rfl (l' := #[.val (.int p0), .val (.ref (u 1))]) rfl ?_
            show Steps p.tables e below (T11.setTop (mkF m 22 #[.val (.int p0), .val (.ref (u 1))] [])) _
            refine XS.aloadN X11.here hx rfl (hb hby d2_22) rfl rfl ?_
            show Steps p.tables e below (T11.setTop (mkF m 23 #[.val (.int p0), .val (.ref (u 1))] [(.ref (u 1))])) _
            exact retOut X11 hx Bd.returns (own_narref rfl rfl) (Or.inr (Or.inr (Or.inr (Or.inr ⟨rfl, rfl, rfl⟩)))) (hb hby d2_23) hr
          · show own_Q2 Z u p0 h0 n0 _ T11.heap _
            rw [e11]
            exact ⟨(by unfold own_r2; rw [if_neg hc5, if_pos hc10, if_neg hc13, if_pos hc16]), N0, rfl⟩
        · --
          by_cases hc19 : p0 = (2 : Int32)
          · --
            obtain ⟨cl20, Ar20, -, S20, N20, H20, -⟩ := id (VA17.ext O.2)
            have hin20 : ¬ (p0 < 0 ∨ cl20.slots.size ≤ (p0).toNatClampNeg) := by rw [hc19]; exact inb_of S20 ⟨by decide, by decide⟩
            obtain ⟨fs, hr, hrun, hended, hW, hsame⟩ := X11.leave (v := some (.ref (u 2))) (fun h => by rw [Bd.returns] at h; cases h)
            refine ⟨_, _, pre12 _ ?_, hrun, hended, _, _, rfl, ?_, ⟨_, rfl⟩, hW, hsame.mono (by decide) (by decide)⟩
            · show Steps p.tables e below (T11.setTop (mkF m 20 #[.val (.int p0), .val (.ref (u 2))] [(.int p0), (.ref (u 17))])) _
              refine X11.aaload hx (j := p0) (v := (.ref (u 2))) (by rw [e11]; exact Ar20.1) (State.isArrayOf_alike hZ.alike Ar20.2.1) rfl Ar20.2.2 hin20 (H20.at hin20 (by rw [hc19]; rfl)) (g := (mkF m 20 #[.val (.int p0), .val (.ref (u 2))] [(.int p0), (.ref (u 17))])) rfl rfl (hb hby d2_20) _ ?_
              show Steps p.tables e below (T11.setTop (mkF m 21 #[.val (.int p0), .val (.ref (u 2))] [(.ref (u 2))])) _
              refine XS.astoreN X11.here hx rfl (hb hby d2_21) rfl rfl (l' := #[.val (.int p0), .val (.ref (u 2))]) rfl ?_
              show Steps p.tables e below (T11.setTop (mkF m 22 #[.val (.int p0), .val (.ref (u 2))] [])) _
              refine XS.aloadN X11.here hx rfl (hb hby d2_22) rfl rfl ?_
              show Steps p.tables e below (T11.setTop (mkF m 23 #[.val (.int p0), .val (.ref (u 2))] [(.ref (u 2))])) _
              exact retOut X11 hx Bd.returns (own_narref rfl rfl) (Or.inr (Or.inr (Or.inr (Or.inr ⟨rfl, rfl, rfl⟩)))) (hb hby d2_23) hr
            · show own_Q2 Z u p0 h0 n0 _ T11.heap _
              rw [e11]
              exact ⟨(by unfold own_r2; rw [if_neg hc5, if_pos hc10, if_neg hc13, if_neg hc16, if_pos hc19]), N0, rfl⟩
          · --
            by_cases hc22 : p0 = (3 : Int32)
            · --
              obtain ⟨cl23, Ar23, -, S23, N23, H23, -⟩ := id (VA17.ext O.2)
              have hin23 : ¬ (p0 < 0 ∨ cl23.slots.size ≤ (p0).toNatClampNeg) := by rw [hc22]; exact inb_of S23 ⟨by decide, by decide⟩
              obtain ⟨fs, hr, hrun, hended, hW, hsame⟩ := X11.leave (v := some (.ref (u 3))) (fun h => by rw [Bd.returns] at h; cases h)
              refine ⟨_, _, pre12 _ ?_, hrun, hended, _, _, rfl, ?_, ⟨_, rfl⟩, hW, hsame.mono (by decide) (by decide)⟩
              · show Steps p.tables e below (T11.setTop (mkF m 20 #[.val (.int p0), .val (.ref (u 2))] [(.int p0), (.ref (u 17))])) _
                refine X11.aaload hx (j := p0) (v := (.ref (u 3))) (by rw [e11]; exact Ar23.1) (State.isArrayOf_alike hZ.alike Ar23.2.1) rfl Ar23.2.2 hin23 (H23.at hin23 (by rw [hc22]; rfl)) (g := (mkF m 20 #[.val (.int p0), .val (.ref (u 2))] [(.int p0), (.ref (u 17))])) rfl rfl (hb hby d2_20) _ ?_
                show Steps p.tables e below (T11.setTop (mkF m 21 #[.val (.int p0), .val (.ref (u 2))] [(.ref (u 3))])) _
                refine XS.astoreN X11.here hx rfl (hb hby d2_21) rfl rfl (l' := #[.val (.int p0), .val (.ref (u 3))]) rfl ?_
                show Steps p.tables e below (T11.setTop (mkF m 22 #[.val (.int p0), .val (.ref (u 3))] [])) _
                refine XS.aloadN X11.here hx rfl (hb hby d2_22) rfl rfl ?_
                show Steps p.tables e below (T11.setTop (mkF m 23 #[.val (.int p0), .val (.ref (u 3))] [(.ref (u 3))])) _
                exact retOut X11 hx Bd.returns (own_narref rfl rfl) (Or.inr (Or.inr (Or.inr (Or.inr ⟨rfl, rfl, rfl⟩)))) (hb hby d2_23) hr
              · show own_Q2 Z u p0 h0 n0 _ T11.heap _
                rw [e11]
                exact ⟨(by unfold own_r2; rw [if_neg hc5, if_pos hc10, if_neg hc13, if_neg hc16, if_neg hc19, if_pos hc22]), N0, rfl⟩
            · --
              by_cases hc25 : p0 = (4 : Int32)
              · --
                obtain ⟨cl26, Ar26, -, S26, N26, H26, -⟩ := id (VA17.ext O.2)
                have hin26 : ¬ (p0 < 0 ∨ cl26.slots.size ≤ (p0).toNatClampNeg) := by rw [hc25]; exact inb_of S26 ⟨by decide, by decide⟩
                obtain ⟨fs, hr, hrun, hended, hW, hsame⟩ := X11.leave (v := some (.ref (u 4))) (fun h => by rw [Bd.returns] at h; cases h)
                refine ⟨_, _, pre12 _ ?_, hrun, hended, _, _, rfl, ?_, ⟨_, rfl⟩, hW, hsame.mono (by decide) (by decide)⟩
                · show Steps p.tables e below (T11.setTop (mkF m 20 #[.val (.int p0), .val (.ref (u 2))] [(.int p0), (.ref (u 17))])) _
                  refine X11.aaload hx (j := p0) (v := (.ref (u 4))) (by rw [e11]; exact Ar26.1) (State.isArrayOf_alike hZ.alike Ar26.2.1) rfl Ar26.2.2 hin26 (H26.at hin26 (by rw [hc25]; rfl)) (g := (mkF m 20 #[.val (.int p0), .val (.ref (u 2))] [(.int p0), (.ref (u 17))])) rfl rfl (hb hby d2_20) _ ?_
                  show Steps p.tables e below (T11.setTop (mkF m 21 #[.val (.int p0), .val (.ref (u 2))] [(.ref (u 4))])) _
                  refine XS.astoreN X11.here hx rfl (hb hby d2_21) rfl rfl (l' := #[.val (.int p0), .val (.ref (u 4))]) rfl ?_
                  show Steps p.tables e below (T11.setTop (mkF m 22 #[.val (.int p0), .val (.ref (u 4))] [])) _
                  refine XS.aloadN X11.here hx rfl (hb hby d2_22) rfl rfl ?_
                  show Steps p.tables e below (T11.setTop (mkF m 23 #[.val (.int p0), .val (.ref (u 4))] [(.ref (u 4))])) _
                  exact retOut X11 hx Bd.returns (own_narref rfl rfl) (Or.inr (Or.inr (Or.inr (Or.inr ⟨rfl, rfl, rfl⟩)))) (hb hby d2_23) hr
                · show own_Q2 Z u p0 h0 n0 _ T11.heap _
                  rw [e11]
                  exact ⟨(by unfold own_r2; rw [if_neg hc5, if_pos hc10, if_neg hc13, if_neg hc16, if_neg hc19, if_neg hc22, if_pos hc25]), N0, rfl⟩
              · --
                by_cases hc28 : p0 = (5 : Int32)
                · --
                  obtain ⟨cl29, Ar29, -, S29, N29, H29, -⟩ := id (VA17.ext O.2)
                  have hin29 : ¬ (p0 < 0 ∨ cl29.slots.size ≤ (p0).toNatClampNeg) := by rw [hc28]; exact inb_of S29 ⟨by decide, by decide⟩
                  obtain ⟨fs, hr, hrun, hended, hW, hsame⟩ := X11.leave (v := some (.ref (u 5))) (fun h => by rw [Bd.returns] at h; cases h)
                  refine ⟨_, _, pre12 _ ?_, hrun, hended, _, _, rfl, ?_, ⟨_, rfl⟩, hW, hsame.mono (by decide) (by decide)⟩
                  · show Steps p.tables e below (T11.setTop (mkF m 20 #[.val (.int p0), .val (.ref (u 2))] [(.int p0), (.ref (u 17))])) _
                    refine X11.aaload hx (j := p0) (v := (.ref (u 5))) (by rw [e11]; exact Ar29.1) (State.isArrayOf_alike hZ.alike Ar29.2.1) rfl Ar29.2.2 hin29 (H29.at hin29 (by rw [hc28]; rfl)) (g := (mkF m 20 #[.val (.int p0), .val (.ref (u 2))] [(.int p0), (.ref (u 17))])) rfl rfl (hb hby d2_20) _ ?_
                    show Steps p.tables e below (T11.setTop (mkF m 21 #[.val (.int p0), .val (.ref (u 2))] [(.ref (u 5))])) _
                    refine XS.astoreN X11.here hx rfl (hb hby d2_21) rfl rfl (l' := #[.val (.int p0), .val (.ref (u 5))]) rfl ?_
                    show Steps p.tables e below (T11.setTop (mkF m 22 #[.val (.int p0), .val (.ref (u 5))] [])) _
                    refine XS.aloadN X11.here hx rfl (hb hby d2_22) rfl rfl ?_
                    show Steps p.tables e below (T11.setTop (mkF m 23 #[.val (.int p0), .val (.ref (u 5))] [(.ref (u 5))])) _
                    exact retOut X11 hx Bd.returns (own_narref rfl rfl) (Or.inr (Or.inr (Or.inr (Or.inr ⟨rfl, rfl, rfl⟩)))) (hb hby d2_23) hr
                  · show own_Q2 Z u p0 h0 n0 _ T11.heap _
                    rw [e11]
                    exact ⟨(by unfold own_r2; rw [if_neg hc5, if_pos hc10, if_neg hc13, if_neg hc16, if_neg hc19, if_neg hc22, if_neg hc25, if_pos hc28]), N0, rfl⟩
                · --
                  by_cases hc31 : p0 = (6 : Int32)
                  · --
                    obtain ⟨cl32, Ar32, -, S32, N32, H32, -⟩ := id (VA17.ext O.2)
                    have hin32 : ¬ (p0 < 0 ∨ cl32.slots.size ≤ (p0).toNatClampNeg) := by rw [hc31]; exact inb_of S32 ⟨by decide, by decide⟩
                    obtain ⟨fs, hr, hrun, hended, hW, hsame⟩ := X11.leave (v := some (.ref (u 6))) (fun h => by rw [Bd.returns] at h; cases h)
                    refine ⟨_, _, pre12 _ ?_, hrun, hended, _, _, rfl, ?_, ⟨_, rfl⟩, hW, hsame.mono (by decide) (by decide)⟩
                    · show Steps p.tables e below (T11.setTop (mkF m 20 #[.val (.int p0), .val (.ref (u 2))] [(.int p0), (.ref (u 17))])) _
                      refine X11.aaload hx (j := p0) (v := (.ref (u 6))) (by rw [e11]; exact Ar32.1) (State.isArrayOf_alike hZ.alike Ar32.2.1) rfl Ar32.2.2 hin32 (H32.at hin32 (by rw [hc31]; rfl)) (g := (mkF m 20 #[.val (.int p0), .val (.ref (u 2))] [(.int p0), (.ref (u 17))])) rfl rfl (hb hby d2_20) _ ?_
                      show Steps p.tables e below (T11.setTop (mkF m 21 #[.val (.int p0), .val (.ref (u 2))] [(.ref (u 6))])) _
                      refine XS.astoreN X11.here hx rfl (hb hby d2_21) rfl rfl (l' := #[.val (.int p0), .val (.ref (u 6))]) rfl ?_
                      show Steps p.tables e below (T11.setTop (mkF m 22 #[.val (.int p0), .val (.ref (u 6))] [])) _
                      refine XS.aloadN X11.here hx rfl (hb hby d2_22) rfl rfl ?_
                      show Steps p.tables e below (T11.setTop (mkF m 23 #[.val (.int p0), .val (.ref (u 6))] [(.ref (u 6))])) _
                      exact retOut X11 hx Bd.returns (own_narref rfl rfl) (Or.inr (Or.inr (Or.inr (Or.inr ⟨rfl, rfl, rfl⟩)))) (hb hby d2_23) hr
                    · show own_Q2 Z u p0 h0 n0 _ T11.heap _
                      rw [e11]
                      exact ⟨(by unfold own_r2; rw [if_neg hc5, if_pos hc10, if_neg hc13, if_neg hc16, if_neg hc19, if_neg hc22, if_neg hc25, if_neg hc28, if_pos hc31]), N0, rfl⟩
                  · --
                    by_cases hc34 : p0 = (7 : Int32)
                    · --
                      obtain ⟨cl35, Ar35, -, S35, N35, H35, -⟩ := id (VA17.ext O.2)
                      have hin35 : ¬ (p0 < 0 ∨ cl35.slots.size ≤ (p0).toNatClampNeg) := by rw [hc34]; exact inb_of S35 ⟨by decide, by decide⟩
                      obtain ⟨fs, hr, hrun, hended, hW, hsame⟩ := X11.leave (v := some (.ref (u 7))) (fun h => by rw [Bd.returns] at h; cases h)
                      refine ⟨_, _, pre12 _ ?_, hrun, hended, _, _, rfl, ?_, ⟨_, rfl⟩, hW, hsame.mono (by decide) (by decide)⟩
                      · show Steps p.tables e below (T11.setTop (mkF m 20 #[.val (.int p0), .val (.ref (u 2))] [(.int p0), (.ref (u 17))])) _
                        refine X11.aaload hx (j := p0) (v := (.ref (u 7))) (by rw [e11]; exact Ar35.1) (State.isArrayOf_alike hZ.alike Ar35.2.1) rfl Ar35.2.2 hin35 (H35.at hin35 (by rw [hc34]; rfl)) (g := (mkF m 20 #[.val (.int p0), .val (.ref (u 2))] [(.int p0), (.ref (u 17))])) rfl rfl (hb hby d2_20) _ ?_
                        show Steps p.tables e below (T11.setTop (mkF m 21 #[.val (.int p0), .val (.ref (u 2))] [(.ref (u 7))])) _
                        refine XS.astoreN X11.here hx rfl (hb hby d2_21) rfl rfl (l' := #[.val (.int p0), .val (.ref (u 7))]) rfl ?_
                        show Steps p.tables e below (T11.setTop (mkF m 22 #[.val (.int p0), .val (.ref (u 7))] [])) _
                        refine XS.aloadN X11.here hx rfl (hb hby d2_22) rfl rfl ?_
                        show Steps p.tables e below (T11.setTop (mkF m 23 #[.val (.int p0), .val (.ref (u 7))] [(.ref (u 7))])) _
                        exact retOut X11 hx Bd.returns (own_narref rfl rfl) (Or.inr (Or.inr (Or.inr (Or.inr ⟨rfl, rfl, rfl⟩)))) (hb hby d2_23) hr
                      · show own_Q2 Z u p0 h0 n0 _ T11.heap _
                        rw [e11]
                        exact ⟨(by unfold own_r2; rw [if_neg hc5, if_pos hc10, if_neg hc13, if_neg hc16, if_neg hc19, if_neg hc22, if_neg hc25, if_neg hc28, if_neg hc31, if_pos hc34]), N0, rfl⟩
                    · --
                      by_cases hc37 : p0 = (8 : Int32)
                      · --
                        obtain ⟨cl38, Ar38, -, S38, N38, H38, -⟩ := id (VA17.ext O.2)
                        have hin38 : ¬ (p0 < 0 ∨ cl38.slots.size ≤ (p0).toNatClampNeg) := by rw [hc37]; exact inb_of S38 ⟨by decide, by decide⟩
                        obtain ⟨fs, hr, hrun, hended, hW, hsame⟩ := X11.leave (v := some (.ref (u 8))) (fun h => by rw [Bd.returns] at h; cases h)
                        refine ⟨_, _, pre12 _ ?_, hrun, hended, _, _, rfl, ?_, ⟨_, rfl⟩, hW, hsame.mono (by decide) (by decide)⟩
                        · show Steps p.tables e below (T11.setTop (mkF m 20 #[.val (.int p0), .val (.ref (u 2))] [(.int p0), (.ref (u 17))])) _
                          refine X11.aaload hx (j := p0) (v := (.ref (u 8))) (by rw [e11]; exact Ar38.1) (State.isArrayOf_alike hZ.alike Ar38.2.1) rfl Ar38.2.2 hin38 (H38.at hin38 (by rw [hc37]; rfl)) (g := (mkF m 20 #[.val (.int p0), .val (.ref (u 2))] [(.int p0), (.ref (u 17))])) rfl rfl (hb hby d2_20) _ ?_
                          show Steps p.tables e below (T11.setTop (mkF m 21 #[.val (.int p0), .val (.ref (u 2))] [(.ref (u 8))])) _
                          refine XS.astoreN X11.here hx rfl (hb hby d2_21) rfl rfl (l' := #[.val (.int p0), .val (.ref (u 8))]) rfl ?_
                          show Steps p.tables e below (T11.setTop (mkF m 22 #[.val (.int p0), .val (.ref (u 8))] [])) _
                          refine XS.aloadN X11.here hx rfl (hb hby d2_22) rfl rfl ?_
                          show Steps p.tables e below (T11.setTop (mkF m 23 #[.val (.int p0), .val (.ref (u 8))] [(.ref (u 8))])) _
                          exact retOut X11 hx Bd.returns (own_narref rfl rfl) (Or.inr (Or.inr (Or.inr (Or.inr ⟨rfl, rfl, rfl⟩)))) (hb hby d2_23) hr
                        · show own_Q2 Z u p0 h0 n0 _ T11.heap _
                          rw [e11]
                          exact ⟨(by unfold own_r2; rw [if_neg hc5, if_pos hc10, if_neg hc13, if_neg hc16, if_neg hc19, if_neg hc22, if_neg hc25, if_neg hc28, if_neg hc31, if_neg hc34, if_pos hc37]), N0, rfl⟩
                      · --
                        by_cases hc40 : p0 = (9 : Int32)
                        · --
                          obtain ⟨cl41, Ar41, -, S41, N41, H41, -⟩ := id (VA17.ext O.2)
                          have hin41 : ¬ (p0 < 0 ∨ cl41.slots.size ≤ (p0).toNatClampNeg) := by rw [hc40]; exact inb_of S41 ⟨by decide, by decide⟩
                          obtain ⟨fs, hr, hrun, hended, hW, hsame⟩ := X11.leave (v := some (.ref (u 9))) (fun h => by rw [Bd.returns] at h; cases h)
                          refine ⟨_, _, pre12 _ ?_, hrun, hended, _, _, rfl, ?_, ⟨_, rfl⟩, hW, hsame.mono (by decide) (by decide)⟩
                          · show Steps p.tables e below (T11.setTop (mkF m 20 #[.val (.int p0), .val (.ref (u 2))] [(.int p0), (.ref (u 17))])) _
                            refine X11.aaload hx (j := p0) (v := (.ref (u 9))) (by rw [e11]; exact Ar41.1) (State.isArrayOf_alike hZ.alike Ar41.2.1) rfl Ar41.2.2 hin41 (H41.at hin41 (by rw [hc40]; rfl)) (g := (mkF m 20 #[.val (.int p0), .val (.ref (u 2))] [(.int p0), (.ref (u 17))])) rfl rfl (hb hby d2_20) _ ?_
                            show Steps p.tables e below (T11.setTop (mkF m 21 #[.val (.int p0), .val (.ref (u 2))] [(.ref (u 9))])) _
                            refine XS.astoreN X11.here hx rfl (hb hby d2_21) rfl rfl (l' := #[.val (.int p0), .val (.ref (u 9))]) rfl ?_
                            show Steps p.tables e below (T11.setTop (mkF m 22 #[.val (.int p0), .val (.ref (u 9))] [])) _
                            refine XS.aloadN X11.here hx rfl (hb hby d2_22) rfl rfl ?_
                            show Steps p.tables e below (T11.setTop (mkF m 23 #[.val (.int p0), .val (.ref (u 9))] [(.ref (u 9))])) _
                            exact retOut X11 hx Bd.returns (own_narref rfl rfl) (Or.inr (Or.inr (Or.inr (Or.inr ⟨rfl, rfl, rfl⟩)))) (hb hby d2_23) hr
                          · show own_Q2 Z u p0 h0 n0 _ T11.heap _
                            rw [e11]
                            exact ⟨(by unfold own_r2; rw [if_neg hc5, if_pos hc10, if_neg hc13, if_neg hc16, if_neg hc19, if_neg hc22, if_neg hc25, if_neg hc28, if_neg hc31, if_neg hc34, if_neg hc37, if_pos hc40]), N0, rfl⟩
                        · --
                          by_cases hc43 : p0 = (10 : Int32)
                          · --
                            obtain ⟨cl44, Ar44, -, S44, N44, H44, -⟩ := id (VA17.ext O.2)
                            have hin44 : ¬ (p0 < 0 ∨ cl44.slots.size ≤ (p0).toNatClampNeg) := by rw [hc43]; exact inb_of S44 ⟨by decide, by decide⟩
                            obtain ⟨fs, hr, hrun, hended, hW, hsame⟩ := X11.leave (v := some (.ref (u 10))) (fun h => by rw [Bd.returns] at h; cases h)
                            refine ⟨_, _, pre12 _ ?_, hrun, hended, _, _, rfl, ?_, ⟨_, rfl⟩, hW, hsame.mono (by decide) (by decide)⟩
                            · show Steps p.tables e below (T11.setTop (mkF m 20 #[.val (.int p0), .val (.ref (u 2))] [(.int p0), (.ref (u 17))])) _
                              refine X11.aaload hx (j := p0) (v := (.ref (u 10))) (by rw [e11]; exact Ar44.1) (State.isArrayOf_alike hZ.alike Ar44.2.1) rfl Ar44.2.2 hin44 (H44.at hin44 (by rw [hc43]; rfl)) (g := (mkF m 20 #[.val (.int p0), .val (.ref (u 2))] [(.int p0), (.ref (u 17))])) rfl rfl (hb hby d2_20) _ ?_
                              show Steps p.tables e below (T11.setTop (mkF m 21 #[.val (.int p0), .val (.ref (u 2))] [(.ref (u 10))])) _
                              refine XS.astoreN X11.here hx rfl (hb hby d2_21) rfl rfl (l' := #[.val (.int p0), .val (.ref (u 10))]) rfl ?_
                              show Steps p.tables e below (T11.setTop (mkF m 22 #[.val (.int p0), .val (.ref (u 10))] [])) _
                              refine XS.aloadN X11.here hx rfl (hb hby d2_22) rfl rfl ?_
                              show Steps p.tables e below (T11.setTop (mkF m 23 #[.val (.int p0), .val (.ref (u 10))] [(.ref (u 10))])) _
                              exact retOut X11 hx Bd.returns (own_narref rfl rfl) (Or.inr (Or.inr (Or.inr (Or.inr ⟨rfl, rfl, rfl⟩)))) (hb hby d2_23) hr
                            · show own_Q2 Z u p0 h0 n0 _ T11.heap _
                              rw [e11]
                              exact ⟨(by unfold own_r2; rw [if_neg hc5, if_pos hc10, if_neg hc13, if_neg hc16, if_neg hc19, if_neg hc22, if_neg hc25, if_neg hc28, if_neg hc31, if_neg hc34, if_neg hc37, if_neg hc40, if_pos hc43]), N0, rfl⟩
                          · --
                            by_cases hc46 : p0 = (11 : Int32)
                            · --
                              obtain ⟨cl47, Ar47, -, S47, N47, H47, -⟩ := id (VA17.ext O.2)
                              have hin47 : ¬ (p0 < 0 ∨ cl47.slots.size ≤ (p0).toNatClampNeg) := by rw [hc46]; exact inb_of S47 ⟨by decide, by decide⟩
                              obtain ⟨fs, hr, hrun, hended, hW, hsame⟩ := X11.leave (v := some (.ref (u 11))) (fun h => by rw [Bd.returns] at h; cases h)
                              refine ⟨_, _, pre12 _ ?_, hrun, hended, _, _, rfl, ?_, ⟨_, rfl⟩, hW, hsame.mono (by decide) (by decide)⟩
                              · show Steps p.tables e below (T11.setTop (mkF m 20 #[.val (.int p0), .val (.ref (u 2))] [(.int p0), (.ref (u 17))])) _
                                refine X11.aaload hx (j := p0) (v := (.ref (u 11))) (by rw [e11]; exact Ar47.1) (State.isArrayOf_alike hZ.alike Ar47.2.1) rfl Ar47.2.2 hin47 (H47.at hin47 (by rw [hc46]; rfl)) (g := (mkF m 20 #[.val (.int p0), .val (.ref (u 2))] [(.int p0), (.ref (u 17))])) rfl rfl (hb hby d2_20) _ ?_
                                show Steps p.tables e below (T11.setTop (mkF m 21 #[.val (.int p0), .val (.ref (u 2))] [(.ref (u 11))])) _
                                refine XS.astoreN X11.here hx rfl (hb hby d2_21) rfl rfl (l' := #[.val (.int p0), .val (.ref (u 11))]) rfl ?_
                                show Steps p.tables e below (T11.setTop (mkF m 22 #[.val (.int p0), .val (.ref (u 11))] [])) _
                                refine XS.aloadN X11.here hx rfl (hb hby d2_22) rfl rfl ?_
                                show Steps p.tables e below (T11.setTop (mkF m 23 #[.val (.int p0), .val (.ref (u 11))] [(.ref (u 11))])) _
                                exact retOut X11 hx Bd.returns (own_narref rfl rfl) (Or.inr (Or.inr (Or.inr (Or.inr ⟨rfl, rfl, rfl⟩)))) (hb hby d2_23) hr
                              · show own_Q2 Z u p0 h0 n0 _ T11.heap _
                                rw [e11]
                                exact ⟨(by unfold own_r2; rw [if_neg hc5, if_pos hc10, if_neg hc13, if_neg hc16, if_neg hc19, if_neg hc22, if_neg hc25, if_neg hc28, if_neg hc31, if_neg hc34, if_neg hc37, if_neg hc40, if_neg hc43, if_pos hc46]), N0, rfl⟩
                            · --
                              by_cases hc49 : p0 = (12 : Int32)
                              · --
                                obtain ⟨cl50, Ar50, -, S50, N50, H50, -⟩ := id (VA17.ext O.2)
                                have hin50 : ¬ (p0 < 0 ∨ cl50.slots.size ≤ (p0).toNatClampNeg) := by rw [hc49]; exact inb_of S50 ⟨by decide, by decide⟩
                                obtain ⟨fs, hr, hrun, hended, hW, hsame⟩ := X11.leave (v := some (.ref (u 12))) (fun h => by rw [Bd.returns] at h; cases h)
                                refine ⟨_, _, pre12 _ ?_, hrun, hended, _, _, rfl, ?_, ⟨_, rfl⟩, hW, hsame.mono (by decide) (by decide)⟩
                                · show Steps p.tables e below (T11.setTop (mkF m 20 #[.val (.int p0), .val (.ref (u 2))] [(.int p0), (.ref (u 17))])) _
                                  refine X11.aaload hx (j := p0) (v := (.ref (u 12))) (by rw [e11]; exact Ar50.1) (State.isArrayOf_alike hZ.alike Ar50.2.1) rfl Ar50.2.2 hin50 (H50.at hin50 (by rw [hc49]; rfl)) (g := (mkF m 20 #[.val (.int p0), .val (.ref (u 2))] [(.int p0), (.ref (u 17))])) rfl rfl (hb hby d2_20) _ ?_
                                  show Steps p.tables e below (T11.setTop (mkF m 21 #[.val (.int p0), .val (.ref (u 2))] [(.ref (u 12))])) _
                                  refine XS.astoreN X11.here hx rfl (hb hby d2_21) rfl rfl (l' := #[.val (.int p0), .val (.ref (u 12))]) rfl ?_
                                  show Steps p.tables e below (T11.setTop (mkF m 22 #[.val (.int p0), .val (.ref (u 12))] [])) _
                                  refine XS.aloadN X11.here hx rfl (hb hby d2_22) rfl rfl ?_
                                  show Steps p.tables e below (T11.setTop (mkF m 23 #[.val (.int p0), .val (.ref (u 12))] [(.ref (u 12))])) _
                                  exact retOut X11 hx Bd.returns (own_narref rfl rfl) (Or.inr (Or.inr (Or.inr (Or.inr ⟨rfl, rfl, rfl⟩)))) (hb hby d2_23) hr
                                · show own_Q2 Z u p0 h0 n0 _ T11.heap _
                                  rw [e11]
                                  exact ⟨(by unfold own_r2; rw [if_neg hc5, if_pos hc10, if_neg hc13, if_neg hc16, if_neg hc19, if_neg hc22, if_neg hc25, if_neg hc28, if_neg hc31, if_neg hc34, if_neg hc37, if_neg hc40, if_neg hc43, if_neg hc46, if_pos hc49]), N0, rfl⟩
                              · --
                                by_cases hc52 : p0 = (13 : Int32)
                                · --
                                  obtain ⟨cl53, Ar53, -, S53, N53, H53, -⟩ := id (VA17.ext O.2)
                                  have hin53 : ¬ (p0 < 0 ∨ cl53.slots.size ≤ (p0).toNatClampNeg) := by rw [hc52]; exact inb_of S53 ⟨by decide, by decide⟩
                                  obtain ⟨fs, hr, hrun, hended, hW, hsame⟩ := X11.leave (v := some (.ref (u 13))) (fun h => by rw [Bd.returns] at h; cases h)
                                  refine ⟨_, _, pre12 _ ?_, hrun, hended, _, _, rfl, ?_, ⟨_, rfl⟩, hW, hsame.mono (by decide) (by decide)⟩
                                  · show Steps p.tables e below (T11.setTop (mkF m 20 #[.val (.int p0), .val (.ref (u 2))] [(.int p0), (.ref (u 17))])) _
                                    refine X11.aaload hx (j := p0) (v := (.ref (u 13))) (by rw [e11]; exact Ar53.1) (State.isArrayOf_alike hZ.alike Ar53.2.1) rfl Ar53.2.2 hin53 (H53.at hin53 (by rw [hc52]; rfl)) (g := (mkF m 20 #[.val (.int p0), .val (.ref (u 2))] [(.int p0), (.ref (u 17))])) rfl rfl (hb hby d2_20) _ ?_
                                    show Steps p.tables e below (T11.setTop (mkF m 21 #[.val (.int p0), .val (.ref (u 2))] [(.ref (u 13))])) _
                                    refine XS.astoreN X11.here hx rfl (hb hby d2_21) rfl rfl (l' := #[.val (.int p0), .val (.ref (u 13))]) rfl ?_
                                    show Steps p.tables e below (T11.setTop (mkF m 22 #[.val (.int p0), .val (.ref (u 13))] [])) _
                                    refine XS.aloadN X11.here hx rfl (hb hby d2_22) rfl rfl ?_
                                    show Steps p.tables e below (T11.setTop (mkF m 23 #[.val (.int p0), .val (.ref (u 13))] [(.ref (u 13))])) _
                                    exact retOut X11 hx Bd.returns (own_narref rfl rfl) (Or.inr (Or.inr (Or.inr (Or.inr ⟨rfl, rfl, rfl⟩)))) (hb hby d2_23) hr
                                  · show own_Q2 Z u p0 h0 n0 _ T11.heap _
                                    rw [e11]
                                    exact ⟨(by unfold own_r2; rw [if_neg hc5, if_pos hc10, if_neg hc13, if_neg hc16, if_neg hc19, if_neg hc22, if_neg hc25, if_neg hc28, if_neg hc31, if_neg hc34, if_neg hc37, if_neg hc40, if_neg hc43, if_neg hc46, if_neg hc49, if_pos hc52]), N0, rfl⟩
                                · --
                                  by_cases hc55 : p0 = (14 : Int32)
                                  · --
                                    obtain ⟨cl56, Ar56, -, S56, N56, H56, -⟩ := id (VA17.ext O.2)
                                    have hin56 : ¬ (p0 < 0 ∨ cl56.slots.size ≤ (p0).toNatClampNeg) := by rw [hc55]; exact inb_of S56 ⟨by decide, by decide⟩
                                    obtain ⟨fs, hr, hrun, hended, hW, hsame⟩ := X11.leave (v := some (.ref (u 14))) (fun h => by rw [Bd.returns] at h; cases h)
                                    refine ⟨_, _, pre12 _ ?_, hrun, hended, _, _, rfl, ?_, ⟨_, rfl⟩, hW, hsame.mono (by decide) (by decide)⟩
                                    · show Steps p.tables e below (T11.setTop (mkF m 20 #[.val (.int p0), .val (.ref (u 2))] [(.int p0), (.ref (u 17))])) _
                                      refine X11.aaload hx (j := p0) (v := (.ref (u 14))) (by rw [e11]; exact Ar56.1) (State.isArrayOf_alike hZ.alike Ar56.2.1) rfl Ar56.2.2 hin56 (H56.at hin56 (by rw [hc55]; rfl)) (g := (mkF m 20 #[.val (.int p0), .val (.ref (u 2))] [(.int p0), (.ref (u 17))])) rfl rfl (hb hby d2_20) _ ?_
                                      show Steps p.tables e below (T11.setTop (mkF m 21 #[.val (.int p0), .val (.ref (u 2))] [(.ref (u 14))])) _
                                      refine XS.astoreN X11.here hx rfl (hb hby d2_21) rfl rfl (l' := #[.val (.int p0), .val (.ref (u 14))]) rfl ?_
                                      show Steps p.tables e below (T11.setTop (mkF m 22 #[.val (.int p0), .val (.ref (u 14))] [])) _
                                      refine XS.aloadN X11.here hx rfl (hb hby d2_22) rfl rfl ?_
                                      show Steps p.tables e below (T11.setTop (mkF m 23 #[.val (.int p0), .val (.ref (u 14))] [(.ref (u 14))])) _
                                      exact retOut X11 hx Bd.returns (own_narref rfl rfl) (Or.inr (Or.inr (Or.inr (Or.inr ⟨rfl, rfl, rfl⟩)))) (hb hby d2_23) hr
                                    · show own_Q2 Z u p0 h0 n0 _ T11.heap _
                                      rw [e11]
                                      exact ⟨(by unfold own_r2; rw [if_neg hc5, if_pos hc10, if_neg hc13, if_neg hc16, if_neg hc19, if_neg hc22, if_neg hc25, if_neg hc28, if_neg hc31, if_neg hc34, if_neg hc37, if_neg hc40, if_neg hc43, if_neg hc46, if_neg hc49, if_neg hc52, if_pos hc55]), N0, rfl⟩
                                  · --
                                    by_cases hc58 : p0 = (15 : Int32)
                                    · --
                                      obtain ⟨cl59, Ar59, -, S59, N59, H59, -⟩ := id (VA17.ext O.2)
                                      have hin59 : ¬ (p0 < 0 ∨ cl59.slots.size ≤ (p0).toNatClampNeg) := by rw [hc58]; exact inb_of S59 ⟨by decide, by decide⟩
                                      obtain ⟨fs, hr, hrun, hended, hW, hsame⟩ := X11.leave (v := some (.ref (u 15))) (fun h => by rw [Bd.returns] at h; cases h)
                                      refine ⟨_, _, pre12 _ ?_, hrun, hended, _, _, rfl, ?_, ⟨_, rfl⟩, hW, hsame.mono (by decide) (by decide)⟩
                                      · show Steps p.tables e below (T11.setTop (mkF m 20 #[.val (.int p0), .val (.ref (u 2))] [(.int p0), (.ref (u 17))])) _
                                        refine X11.aaload hx (j := p0) (v := (.ref (u 15))) (by rw [e11]; exact Ar59.1) (State.isArrayOf_alike hZ.alike Ar59.2.1) rfl Ar59.2.2 hin59 (H59.at hin59 (by rw [hc58]; rfl)) (g := (mkF m 20 #[.val (.int p0), .val (.ref (u 2))] [(.int p0), (.ref (u 17))])) rfl rfl (hb hby d2_20) _ ?_
                                        show Steps p.tables e below (T11.setTop (mkF m 21 #[.val (.int p0), .val (.ref (u 2))] [(.ref (u 15))])) _
                                        refine XS.astoreN X11.here hx rfl (hb hby d2_21) rfl rfl (l' := #[.val (.int p0), .val (.ref (u 15))]) rfl ?_
                                        show Steps p.tables e below (T11.setTop (mkF m 22 #[.val (.int p0), .val (.ref (u 15))] [])) _
                                        refine XS.aloadN X11.here hx rfl (hb hby d2_22) rfl rfl ?_
                                        show Steps p.tables e below (T11.setTop (mkF m 23 #[.val (.int p0), .val (.ref (u 15))] [(.ref (u 15))])) _
                                        exact retOut X11 hx Bd.returns (own_narref rfl rfl) (Or.inr (Or.inr (Or.inr (Or.inr ⟨rfl, rfl, rfl⟩)))) (hb hby d2_23) hr
                                      · show own_Q2 Z u p0 h0 n0 _ T11.heap _
                                        rw [e11]
                                        exact ⟨(by unfold own_r2; rw [if_neg hc5, if_pos hc10, if_neg hc13, if_neg hc16, if_neg hc19, if_neg hc22, if_neg hc25, if_neg hc28, if_neg hc31, if_neg hc34, if_neg hc37, if_neg hc40, if_neg hc43, if_neg hc46, if_neg hc49, if_neg hc52, if_neg hc55, if_pos hc58]), N0, rfl⟩
                                    · --
                                      by_cases hc61 : p0 = (16 : Int32)
                                      · --
                                        obtain ⟨cl62, Ar62, -, S62, N62, H62, -⟩ := id (VA17.ext O.2)
                                        have hin62 : ¬ (p0 < 0 ∨ cl62.slots.size ≤ (p0).toNatClampNeg) := by rw [hc61]; exact inb_of S62 ⟨by decide, by decide⟩
                                        obtain ⟨fs, hr, hrun, hended, hW, hsame⟩ := X11.leave (v := some (.ref (u 16))) (fun h => by rw [Bd.returns] at h; cases h)
                                        refine ⟨_, _, pre12 _ ?_, hrun, hended, _, _, rfl, ?_, ⟨_, rfl⟩, hW, hsame.mono (by decide) (by decide)⟩
                                        · show Steps p.tables e below (T11.setTop (mkF m 20 #[.val (.int p0), .val (.ref (u 2))] [(.int p0), (.ref (u 17))])) _
                                          refine X11.aaload hx (j := p0) (v := (.ref (u 16))) (by rw [e11]; exact Ar62.1) (State.isArrayOf_alike hZ.alike Ar62.2.1) rfl Ar62.2.2 hin62 (H62.at hin62 (by rw [hc61]; rfl)) (g := (mkF m 20 #[.val (.int p0), .val (.ref (u 2))] [(.int p0), (.ref (u 17))])) rfl rfl (hb hby d2_20) _ ?_
                                          show Steps p.tables e below (T11.setTop (mkF m 21 #[.val (.int p0), .val (.ref (u 2))] [(.ref (u 16))])) _
                                          refine XS.astoreN X11.here hx rfl (hb hby d2_21) rfl rfl (l' := #[.val (.int p0), .val (.ref (u 16))]) rfl ?_
                                          show Steps p.tables e below (T11.setTop (mkF m 22 #[.val (.int p0), .val (.ref (u 16))] [])) _
                                          refine XS.aloadN X11.here hx rfl (hb hby d2_22) rfl rfl ?_
                                          show Steps p.tables e below (T11.setTop (mkF m 23 #[.val (.int p0), .val (.ref (u 16))] [(.ref (u 16))])) _
                                          exact retOut X11 hx Bd.returns (own_narref rfl rfl) (Or.inr (Or.inr (Or.inr (Or.inr ⟨rfl, rfl, rfl⟩)))) (hb hby d2_23) hr
                                        · show own_Q2 Z u p0 h0 n0 _ T11.heap _
                                          rw [e11]
                                          exact ⟨(by unfold own_r2; rw [if_neg hc5, if_pos hc10, if_neg hc13, if_neg hc16, if_neg hc19, if_neg hc22, if_neg hc25, if_neg hc28, if_neg hc31, if_neg hc34, if_neg hc37, if_neg hc40, if_neg hc43, if_neg hc46, if_neg hc49, if_neg hc52, if_neg hc55, if_neg hc58, if_pos hc61]), N0, rfl⟩
                                      · --
                                        exact absurd (own_exh17 (j := p0) (Int32.not_lt.mp hc5 |> Int32.le_iff_toInt_le.mp) (Int32.lt_iff_toInt_lt.mp hc10) hc13 hc16 hc19 hc22 hc25 hc28 hc31 hc34 hc37 hc40 hc43 hc46 hc49 hc52 hc55 hc58 hc61) id
    · --
      obtain ⟨fs, hr, hrun, hended, hW, hsame⟩ := X7.leave (v := some (.ref (u 2))) (fun h => by rw [Bd.returns] at h; cases h)
      refine ⟨_, _, pre9 _ ?_, hrun, hended, _, _, rfl, ?_, ⟨_, rfl⟩, hW, hsame.mono (by decide) (by decide)⟩
      · show Steps p.tables e below (T7.setTop (mkF m 13 #[.val (.int p0), .val (.ref (u 2))] [(.int (17 : Int32)), (.int p0)])) _
        refine XS.icmpYes X7.here hx rfl (pc0 := 13) (pc' := 22) rfl (hb hby d2_13) rfl (flt hc10).2.1 (by decide) (by decide) ?_
        show Steps p.tables e below (T7.setTop (mkF m 22 #[.val (.int p0), .val (.ref (u 2))] [])) _
        refine XS.aloadN X7.here hx rfl (hb hby d2_22) rfl rfl ?_
        show Steps p.tables e below (T7.setTop (mkF m 23 #[.val (.int p0), .val (.ref (u 2))] [(.ref (u 2))])) _
        exact retOut X7 hx Bd.returns (own_narref rfl rfl) (Or.inr (Or.inr (Or.inr (Or.inr ⟨rfl, rfl, rfl⟩)))) (hb hby d2_23) hr
      · show own_Q2 Z u p0 h0 n0 _ T7.heap _
        rw [e7]
        exact ⟨(by unfold own_r2; rw [if_neg hc5, if_neg hc10]), N0, rfl⟩
theorem own_gt16 {x : Int32} (h : ¬ x < (17 : Int32)) : (16 : Int32) < x := by
  rw [Int32.lt_iff_toInt_lt] at h ⊢
  have z0 : (17 : Int32).toInt = 17 := rfl
  have z1 : (16 : Int32).toInt = 16 := rfl
  omega
theorem d1_0 : decode method_3_code 0 = .ok (.bipush 17, 2) := by decide +kernel
theorem d1_2 : decode method_3_code 2 = .ok (.anewarray 13, 3) := by decide +kernel
theorem d1_5 : decode method_3_code 5 = .ok (.dup, 1) := by decide +kernel
theorem d1_6 : decode method_3_code 6 = .ok (.iconst 0, 1) := by decide +kernel
theorem d1_7 : decode method_3_code 7 = .ok (.getstatic 15, 3) := by decide +kernel
theorem d1_10 : decode method_3_code 10 = .ok (.aastore, 1) := by decide +kernel
theorem d1_11 : decode method_3_code 11 = .ok (.dup, 1) := by decide +kernel
theorem d1_12 : decode method_3_code 12 = .ok (.iconst 1, 1) := by decide +kernel
theorem d1_13 : decode method_3_code 13 = .ok (.getstatic 19, 3) := by decide +kernel
theorem d1_16 : decode method_3_code 16 = .ok (.aastore, 1) := by decide +kernel
theorem d1_17 : decode method_3_code 17 = .ok (.dup, 1) := by decide +kernel
theorem d1_18 : decode method_3_code 18 = .ok (.iconst 2, 1) := by decide +kernel
theorem d1_19 : decode method_3_code 19 = .ok (.getstatic 22, 3) := by decide +kernel
theorem d1_22 : decode method_3_code 22 = .ok (.aastore, 1) := by decide +kernel
theorem d1_23 : decode method_3_code 23 = .ok (.dup, 1) := by decide +kernel
theorem d1_24 : decode method_3_code 24 = .ok (.iconst 3, 1) := by decide +kernel
theorem d1_25 : decode method_3_code 25 = .ok (.getstatic 25, 3) := by decide +kernel
theorem d1_28 : decode method_3_code 28 = .ok (.aastore, 1) := by decide +kernel
theorem d1_29 : decode method_3_code 29 = .ok (.dup, 1) := by decide +kernel
theorem d1_30 : decode method_3_code 30 = .ok (.iconst 4, 1) := by decide +kernel
theorem d1_31 : decode method_3_code 31 = .ok (.getstatic 28, 3) := by decide +kernel
theorem d1_34 : decode method_3_code 34 = .ok (.aastore, 1) := by decide +kernel
theorem d1_35 : decode method_3_code 35 = .ok (.dup, 1) := by decide +kernel
theorem d1_36 : decode method_3_code 36 = .ok (.iconst 5, 1) := by decide +kernel
theorem d1_37 : decode method_3_code 37 = .ok (.getstatic 31, 3) := by decide +kernel
theorem d1_40 : decode method_3_code 40 = .ok (.aastore, 1) := by decide +kernel
theorem d1_41 : decode method_3_code 41 = .ok (.dup, 1) := by decide +kernel
theorem d1_42 : decode method_3_code 42 = .ok (.bipush 6, 2) := by decide +kernel
theorem d1_44 : decode method_3_code 44 = .ok (.getstatic 34, 3) := by decide +kernel
theorem d1_47 : decode method_3_code 47 = .ok (.aastore, 1) := by decide +kernel
theorem d1_48 : decode method_3_code 48 = .ok (.dup, 1) := by decide +kernel
theorem d1_49 : decode method_3_code 49 = .ok (.bipush 7, 2) := by decide +kernel
theorem d1_51 : decode method_3_code 51 = .ok (.getstatic 37, 3) := by decide +kernel
theorem d1_54 : decode method_3_code 54 = .ok (.aastore, 1) := by decide +kernel
theorem d1_55 : decode method_3_code 55 = .ok (.dup, 1) := by decide +kernel
theorem d1_56 : decode method_3_code 56 = .ok (.bipush 8, 2) := by decide +kernel
theorem d1_58 : decode method_3_code 58 = .ok (.getstatic 40, 3) := by decide +kernel
theorem d1_61 : decode method_3_code 61 = .ok (.aastore, 1) := by decide +kernel
theorem d1_62 : decode method_3_code 62 = .ok (.dup, 1) := by decide +kernel
theorem d1_63 : decode method_3_code 63 = .ok (.bipush 9, 2) := by decide +kernel
theorem d1_65 : decode method_3_code 65 = .ok (.getstatic 43, 3) := by decide +kernel
theorem d1_68 : decode method_3_code 68 = .ok (.aastore, 1) := by decide +kernel
theorem d1_69 : decode method_3_code 69 = .ok (.dup, 1) := by decide +kernel
theorem d1_70 : decode method_3_code 70 = .ok (.bipush 10, 2) := by decide +kernel
theorem d1_72 : decode method_3_code 72 = .ok (.getstatic 46, 3) := by decide +kernel
theorem d1_75 : decode method_3_code 75 = .ok (.aastore, 1) := by decide +kernel
theorem d1_76 : decode method_3_code 76 = .ok (.dup, 1) := by decide +kernel
theorem d1_77 : decode method_3_code 77 = .ok (.bipush 11, 2) := by decide +kernel
theorem d1_79 : decode method_3_code 79 = .ok (.getstatic 49, 3) := by decide +kernel
theorem d1_82 : decode method_3_code 82 = .ok (.aastore, 1) := by decide +kernel
theorem d1_83 : decode method_3_code 83 = .ok (.dup, 1) := by decide +kernel
theorem d1_84 : decode method_3_code 84 = .ok (.bipush 12, 2) := by decide +kernel
theorem d1_86 : decode method_3_code 86 = .ok (.getstatic 52, 3) := by decide +kernel
theorem d1_89 : decode method_3_code 89 = .ok (.aastore, 1) := by decide +kernel
theorem d1_90 : decode method_3_code 90 = .ok (.dup, 1) := by decide +kernel
theorem d1_91 : decode method_3_code 91 = .ok (.bipush 13, 2) := by decide +kernel
theorem d1_93 : decode method_3_code 93 = .ok (.getstatic 55, 3) := by decide +kernel
theorem d1_96 : decode method_3_code 96 = .ok (.aastore, 1) := by decide +kernel
theorem d1_97 : decode method_3_code 97 = .ok (.dup, 1) := by decide +kernel
theorem d1_98 : decode method_3_code 98 = .ok (.bipush 14, 2) := by decide +kernel
theorem d1_100 : decode method_3_code 100 = .ok (.getstatic 58, 3) := by decide +kernel
theorem d1_103 : decode method_3_code 103 = .ok (.aastore, 1) := by decide +kernel
theorem d1_104 : decode method_3_code 104 = .ok (.dup, 1) := by decide +kernel
theorem d1_105 : decode method_3_code 105 = .ok (.bipush 15, 2) := by decide +kernel
theorem d1_107 : decode method_3_code 107 = .ok (.getstatic 61, 3) := by decide +kernel
theorem d1_110 : decode method_3_code 110 = .ok (.aastore, 1) := by decide +kernel
theorem d1_111 : decode method_3_code 111 = .ok (.dup, 1) := by decide +kernel
theorem d1_112 : decode method_3_code 112 = .ok (.bipush 16, 2) := by decide +kernel
theorem d1_114 : decode method_3_code 114 = .ok (.getstatic 64, 3) := by decide +kernel
theorem d1_117 : decode method_3_code 117 = .ok (.aastore, 1) := by decide +kernel
theorem d1_118 : decode method_3_code 118 = .ok (.astore_n 1, 1) := by decide +kernel
theorem d1_119 : decode method_3_code 119 = .ok (.iload_n 0, 1) := by decide +kernel
theorem d1_120 : decode method_3_code 120 = .ok (.invokestatic 67, 3) := by decide +kernel
theorem d1_123 : decode method_3_code 123 = .ok (.astore_n 2, 1) := by decide +kernel
theorem d1_124 : decode method_3_code 124 = .ok (.iload_n 0, 1) := by decide +kernel
theorem d1_125 : decode method_3_code 125 = .ok (.ifCond .lt 30, 3) := by decide +kernel
theorem d1_128 : decode method_3_code 128 = .ok (.iload_n 0, 1) := by decide +kernel
theorem d1_129 : decode method_3_code 129 = .ok (.bipush 16, 2) := by decide +kernel
theorem d1_131 : decode method_3_code 131 = .ok (.if_icmp .gt 24, 3) := by decide +kernel
theorem d1_134 : decode method_3_code 134 = .ok (.aload_n 2, 1) := by decide +kernel
theorem d1_135 : decode method_3_code 135 = .ok (.aload_n 1, 1) := by decide +kernel
theorem d1_136 : decode method_3_code 136 = .ok (.iload_n 0, 1) := by decide +kernel
theorem d1_137 : decode method_3_code 137 = .ok (.aaload, 1) := by decide +kernel
theorem d1_138 : decode method_3_code 138 = .ok (.if_acmp .ne 15, 3) := by decide +kernel
theorem d1_141 : decode method_3_code 141 = .ok (.aload_n 2, 1) := by decide +kernel
theorem d1_142 : decode method_3_code 142 = .ok (.invokevirtual 71, 3) := by decide +kernel
theorem d1_145 : decode method_3_code 145 = .ok (.iload_n 0, 1) := by decide +kernel
theorem d1_146 : decode method_3_code 146 = .ok (.if_icmp .ne 7, 3) := by decide +kernel
theorem d1_149 : decode method_3_code 149 = .ok (.iconst 1, 1) := by decide +kernel
theorem d1_150 : decode method_3_code 150 = .ok (.goto 4, 3) := by decide +kernel
theorem d1_154 : decode method_3_code 154 = .ok (.ireturn, 1) := by decide +kernel
theorem d1_155 : decode method_3_code 155 = .ok (.aload_n 2, 1) := by decide +kernel
theorem d1_156 : decode method_3_code 156 = .ok (.getstatic 22, 3) := by decide +kernel
theorem d1_159 : decode method_3_code 159 = .ok (.if_acmp .ne 7, 3) := by decide +kernel
theorem d1_162 : decode method_3_code 162 = .ok (.iconst 1, 1) := by decide +kernel
theorem d1_163 : decode method_3_code 163 = .ok (.goto 4, 3) := by decide +kernel
theorem d1_167 : decode method_3_code 167 = .ok (.ireturn, 1) := by decide +kernel
theorem own_pn_1 : plainName "com/example/trailwire/trailwire/status/StatusCodeFromNumberPinLaw" = true := by first | (simp [plainName, overriddenIn]; done) | decide +kernel
theorem own_ef_1 (m : MethodId) (x0 : Int32) : entryFrame m #[(.int x0)] 3 = mkF m 0 #[.val (.int x0), .unset, .unset] [] := by first | (simp [entryFrame, mkF, argsToLocals, Value.category]; done) | rfl
def own_Q1 (Z : State) (u : Nat → Addr) (p0 : Int32) (h0 : Heap) (n0 : Nat) (v : Option Value) (h : Heap) (L : List Loc) : Prop := v = some (.int (1 : Int32)) ∧ Fr n0 L ∧ Ext h0 h
set_option maxRecDepth 65536 in
set_option maxHeartbeats 40000000 in
theorem rm1 (l : Launch) (Z : State) (a0 : Array Value) (hw : ∀ d ∈ tables_1, d.before a0 Z = true) (ws : List Jvm.Cond) (u : Nat → Addr) (p0 : Int32) (B : own_Base Z u) (h0 : Heap) (n0 : Nat) (O : Old Z n0 h0) :
    MetFree l (⟨"com/example/trailwire/trailwire/status/StatusCodeFromNumberPinLaw", "check", "(I)Z"⟩ : MethodName) (head1 (Jvm.Cond.code (⟨"com/example/trailwire/trailwire/status/StatusCodeFromNumberPinLaw", "check", "(I)Z"⟩ : MethodName) method_3_code 3 (some .boolean) :: ws) ({ frames := 1, cells := 1, slots := 17, locals := 13 } : Room)) (fun a U => a = #[(.int p0)] ∧ Z.Warmed39 U.vm ∧ U.heap = h0) (fun _ _ _ _ _ => True) (fun _ U o U' => ∃ v L, o = .returned v ∧ own_Q1 Z u p0 h0 n0 v U'.heap L ∧ FrameEnd U o U' L ({ frames := 1, cells := 1, slots := 17, locals := 13 } : Room).cells ({ frames := 1, cells := 1, slots := 17, locals := 13 } : Room).slots) := by
  refine MetFree.of_bodySF (plainFor_of_name own_pn_1) hisR ?_
  intro p e s m args below meth c s₁ Bd hml0 hP hK
  obtain ⟨rfl, hZ, hh⟩ := hP
  have hx := Bd.exec
  have hby := Bd.bytes
  have hml : c.maxLocals = 3 := hml0
  have hown : s.vm.findClass "com/example/trailwire/trailwire/status/StatusCodeFromNumberPinLaw" = some m.cls := findClass_of_methodNamed Bd.named
  have hnm := (name_of_methodNamed Bd.named Bd.method).1
  have X0 : Stand p l e ({ frames := 1, cells := 1, slots := 17, locals := 13 } : Room) s m #[(.int p0)] below meth c s₁ [] 0 0 := Stand.of_body Bd
  have e0 : s₁.heap = h0 := by rw [← hh, Bd.state]; rfl
  have N0 := Fr.nil n0
  have K0 := Keep.refl h0 []
  have Z0 : n0 ≤ h0.size := O.1 ▸ O.2.1
  have pre0 : ∀ t, Steps p.tables e below (s₁.setTop (mkF m 0 #[.val (.int p0), .unset, .unset] [])) t → Steps p.tables e below (s₁.setTop (entryFrame m #[(.int p0)] 3)) t := fun t k => castTop (own_ef_1 m p0) k
  obtain ⟨T65, h65, k65, X65, e65, E65, A65, Ov65, st65⟩ := newR X0 hx hZ hown (hw _ (List.mem_of_getElem? (i := 4) rfl)) (hw _ (List.mem_of_getElem? (i := 5) rfl)) e0 (g := (mkF m 2 #[.val (.int p0), .unset, .unset] [(.int (17 : Int32))])) rfl (hb hby d1_2) rfl (by decide) (cap := 17) (by decide) (by decide) (by decide) (by decide)
  obtain ⟨b65, g65⟩ : ∃ z, z = h0.size := ⟨_, rfl⟩
  rw [← g65] at A65 st65
  have gx_b65 : n0 ≤ b65 := Nat.le_trans (O.1 ▸ O.2.1) (Nat.le_of_eq g65.symm)
  have sz_b65 : h0.size ≤ b65 := Nat.le_trans K0.1 (Nat.le_of_eq g65.symm)
  have O65 := O.ext E65
  have K65 := K0.ext E65
  have V_b65 : Arv Z h65 b65 k65 (.object "com/example/trailwire/trailwire/status/StatusCode") (17 : Int32) [.null, .null, .null, .null, .null, .null, .null, .null, .null, .null, .null, .null, .null, .null, .null, .null, .null] .null := (Arv.new A65 (by decide)).pad (pad_rep [] .null 17)
  obtain ⟨T66, X66, e66, st66⟩ := getS2 X65 hx hZ hown (host := "") (Or.inl (hw _ (List.mem_of_getElem? (i := 6) rfl))) Via.refl e65 (B.1.ext O65.2) (g := (mkF m 7 #[.val (.int p0), .unset, .unset] [(.int (0 : Int32)), (.ref b65), (.ref b65)])) rfl (hb hby d1_7)
  obtain ⟨cl67, Ar67, q67, S67, N67, H67, G67⟩ := id V_b65
  have hin67 : ¬ ((0 : Int32) < 0 ∨ cl67.slots.size ≤ ((0 : Int32)).toNatClampNeg) := inb_of S67 ⟨by decide, by decide⟩
  obtain ⟨T68, h68, X68, e68, W68, st68⟩ := stR X66 hx hZ e66 Ar67 (j := (0 : Int32)) hin67 rfl (Sto.ofV Ar67 q67 Ov65 (Ins.self (B.2.1.ext O65.2))) (g := (mkF m 10 #[.val (.int p0), .unset, .unset] [(.ref (u 0)), (.int (0 : Int32)), (.ref b65), (.ref b65)])) rfl rfl (hb hby d1_10)
  have Nf68 := Fr.snoc X68 N0 gx_b65
  have V68 : Arv Z h68 b65 k65 (.object "com/example/trailwire/trailwire/status/StatusCode") (17 : Int32) [.ref (u 0), .null, .null, .null, .null, .null, .null, .null, .null, .null, .null, .null, .null, .null, .null, .null, .null] .null := Arv.set Ar67 q67 S67 N67 H67 G67 rfl W68 0 rfl (Nat.le_of_ble_eq_true rfl)
  have O68 := O65.wr W68 gx_b65
  have K68 := K65.wr W68 (Or.inr sz_b65)
  obtain ⟨T71, X71, e71, st71⟩ := getS2 X68 hx hZ hown (host := "") (Or.inl (hw _ (List.mem_of_getElem? (i := 10) rfl))) Via.refl e68 (B.2.2.1.ext O68.2) (g := (mkF m 13 #[.val (.int p0), .unset, .unset] [(.int (1 : Int32)), (.ref b65), (.ref b65)])) rfl (hb hby d1_13)
  obtain ⟨cl72, Ar72, q72, S72, N72, H72, G72⟩ := id V68
  have hin72 : ¬ ((1 : Int32) < 0 ∨ cl72.slots.size ≤ ((1 : Int32)).toNatClampNeg) := inb_of S72 ⟨by decide, by decide⟩
  obtain ⟨T73, h73, X73, e73, W73, st73⟩ := stR X71 hx hZ e71 Ar72 (j := (1 : Int32)) hin72 rfl (Sto.ofV Ar72 q72 Ov65 (Ins.self (B.2.2.2.1.ext O68.2))) (g := (mkF m 16 #[.val (.int p0), .unset, .unset] [(.ref (u 1)), (.int (1 : Int32)), (.ref b65), (.ref b65)])) rfl rfl (hb hby d1_16)
  have Nf73 := Fr.snoc X73 Nf68 gx_b65
  have V73 : Arv Z h73 b65 k65 (.object "com/example/trailwire/trailwire/status/StatusCode") (17 : Int32) [.ref (u 0), .ref (u 1), .null, .null, .null, .null, .null, .null, .null, .null, .null, .null, .null, .null, .null, .null, .null] .null := Arv.set Ar72 q72 S72 N72 H72 G72 rfl W73 1 rfl (Nat.le_of_ble_eq_true rfl)
  have O73 := O68.wr W73 gx_b65
  have K73 := K68.wr W73 (Or.inr sz_b65)
  obtain ⟨T76, X76, e76, st76⟩ := getS2 X73 hx hZ hown (host := "") (Or.inl (hw _ (List.mem_of_getElem? (i := 12) rfl))) Via.refl e73 (B.2.2.2.2.1.ext O73.2) (g := (mkF m 19 #[.val (.int p0), .unset, .unset] [(.int (2 : Int32)), (.ref b65), (.ref b65)])) rfl (hb hby d1_19)
  obtain ⟨cl77, Ar77, q77, S77, N77, H77, G77⟩ := id V73
  have hin77 : ¬ ((2 : Int32) < 0 ∨ cl77.slots.size ≤ ((2 : Int32)).toNatClampNeg) := inb_of S77 ⟨by decide, by decide⟩
  obtain ⟨T78, h78, X78, e78, W78, st78⟩ := stR X76 hx hZ e76 Ar77 (j := (2 : Int32)) hin77 rfl (Sto.ofV Ar77 q77 Ov65 (Ins.self (B.2.2.2.2.2.1.ext O73.2))) (g := (mkF m 22 #[.val (.int p0), .unset, .unset] [(.ref (u 2)), (.int (2 : Int32)), (.ref b65), (.ref b65)])) rfl rfl (hb hby d1_22)
  have Nf78 := Fr.snoc X78 Nf73 gx_b65
  have V78 : Arv Z h78 b65 k65 (.object "com/example/trailwire/trailwire/status/StatusCode") (17 : Int32) [.ref (u 0), .ref (u 1), .ref (u 2), .null, .null, .null, .null, .null, .null, .null, .null, .null, .null, .null, .null, .null, .null] .null := Arv.set Ar77 q77 S77 N77 H77 G77 rfl W78 2 rfl (Nat.le_of_ble_eq_true rfl)
  have O78 := O73.wr W78 gx_b65
  have K78 := K73.wr W78 (Or.inr sz_b65)
  obtain ⟨T81, X81, e81, st81⟩ := getS2 X78 hx hZ hown (host := "") (Or.inl (hw _ (List.mem_of_getElem? (i := 14) rfl))) Via.refl e78 (B.2.2.2.2.2.2.1.ext O78.2) (g := (mkF m 25 #[.val (.int p0), .unset, .unset] [(.int (3 : Int32)), (.ref b65), (.ref b65)])) rfl (hb hby d1_25)
  obtain ⟨cl82, Ar82, q82, S82, N82, H82, G82⟩ := id V78
  have hin82 : ¬ ((3 : Int32) < 0 ∨ cl82.slots.size ≤ ((3 : Int32)).toNatClampNeg) := inb_of S82 ⟨by decide, by decide⟩
  obtain ⟨T83, h83, X83, e83, W83, st83⟩ := stR X81 hx hZ e81 Ar82 (j := (3 : Int32)) hin82 rfl (Sto.ofV Ar82 q82 Ov65 (Ins.self (B.2.2.2.2.2.2.2.1.ext O78.2))) (g := (mkF m 28 #[.val (.int p0), .unset, .unset] [(.ref (u 3)), (.int (3 : Int32)), (.ref b65), (.ref b65)])) rfl rfl (hb hby d1_28)
  have Nf83 := Fr.snoc X83 Nf78 gx_b65
  have V83 : Arv Z h83 b65 k65 (.object "com/example/trailwire/trailwire/status/StatusCode") (17 : Int32) [.ref (u 0), .ref (u 1), .ref (u 2), .ref (u 3), .null, .null, .null, .null, .null, .null, .null, .null, .null, .null, .null, .null, .null] .null := Arv.set Ar82 q82 S82 N82 H82 G82 rfl W83 3 rfl (Nat.le_of_ble_eq_true rfl)
  have O83 := O78.wr W83 gx_b65
  have K83 := K78.wr W83 (Or.inr sz_b65)
  obtain ⟨T86, X86, e86, st86⟩ := getS2 X83 hx hZ hown (host := "") (Or.inl (hw _ (List.mem_of_getElem? (i := 16) rfl))) Via.refl e83 (B.2.2.2.2.2.2.2.2.1.ext O83.2) (g := (mkF m 31 #[.val (.int p0), .unset, .unset] [(.int (4 : Int32)), (.ref b65), (.ref b65)])) rfl (hb hby d1_31)
  obtain ⟨cl87, Ar87, q87, S87, N87, H87, G87⟩ := id V83
  have hin87 : ¬ ((4 : Int32) < 0 ∨ cl87.slots.size ≤ ((4 : Int32)).toNatClampNeg) := inb_of S87 ⟨by decide, by decide⟩
  obtain ⟨T88, h88, X88, e88, W88, st88⟩ := stR X86 hx hZ e86 Ar87 (j := (4 : Int32)) hin87 rfl (Sto.ofV Ar87 q87 Ov65 (Ins.self (B.2.2.2.2.2.2.2.2.2.1.ext O83.2))) (g := (mkF m 34 #[.val (.int p0), .unset, .unset] [(.ref (u 4)), (.int (4 : Int32)), (.ref b65), (.ref b65)])) rfl rfl (hb hby d1_34)
  have Nf88 := Fr.snoc X88 Nf83 gx_b65
  have V88 : Arv Z h88 b65 k65 (.object "com/example/trailwire/trailwire/status/StatusCode") (17 : Int32) [.ref (u 0), .ref (u 1), .ref (u 2), .ref (u 3), .ref (u 4), .null, .null, .null, .null, .null, .null, .null, .null, .null, .null, .null, .null] .null := Arv.set Ar87 q87 S87 N87 H87 G87 rfl W88 4 rfl (Nat.le_of_ble_eq_true rfl)
  have O88 := O83.wr W88 gx_b65
  have K88 := K83.wr W88 (Or.inr sz_b65)
  obtain ⟨T91, X91, e91, st91⟩ := getS2 X88 hx hZ hown (host := "") (Or.inl (hw _ (List.mem_of_getElem? (i := 18) rfl))) Via.refl e88 (B.2.2.2.2.2.2.2.2.2.2.1.ext O88.2) (g := (mkF m 37 #[.val (.int p0), .unset, .unset] [(.int (5 : Int32)), (.ref b65), (.ref b65)])) rfl (hb hby d1_37)
  obtain ⟨cl92, Ar92, q92, S92, N92, H92, G92⟩ := id V88
  have hin92 : ¬ ((5 : Int32) < 0 ∨ cl92.slots.size ≤ ((5 : Int32)).toNatClampNeg) := inb_of S92 ⟨by decide, by decide⟩
  obtain ⟨T93, h93, X93, e93, W93, st93⟩ := stR X91 hx hZ e91 Ar92 (j := (5 : Int32)) hin92 rfl (Sto.ofV Ar92 q92 Ov65 (Ins.self (B.2.2.2.2.2.2.2.2.2.2.2.1.ext O88.2))) (g := (mkF m 40 #[.val (.int p0), .unset, .unset] [(.ref (u 5)), (.int (5 : Int32)), (.ref b65), (.ref b65)])) rfl rfl (hb hby d1_40)
  have Nf93 := Fr.snoc X93 Nf88 gx_b65
  have V93 : Arv Z h93 b65 k65 (.object "com/example/trailwire/trailwire/status/StatusCode") (17 : Int32) [.ref (u 0), .ref (u 1), .ref (u 2), .ref (u 3), .ref (u 4), .ref (u 5), .null, .null, .null, .null, .null, .null, .null, .null, .null, .null, .null] .null := Arv.set Ar92 q92 S92 N92 H92 G92 rfl W93 5 rfl (Nat.le_of_ble_eq_true rfl)
  have O93 := O88.wr W93 gx_b65
  have K93 := K88.wr W93 (Or.inr sz_b65)
  obtain ⟨T96, X96, e96, st96⟩ := getS2 X93 hx hZ hown (host := "") (Or.inl (hw _ (List.mem_of_getElem? (i := 20) rfl))) Via.refl e93 (B.2.2.2.2.2.2.2.2.2.2.2.2.1.ext O93.2) (g := (mkF m 44 #[.val (.int p0), .unset, .unset] [(.int (6 : Int32)), (.ref b65), (.ref b65)])) rfl (hb hby d1_44)
  obtain ⟨cl97, Ar97, q97, S97, N97, H97, G97⟩ := id V93
  have hin97 : ¬ ((6 : Int32) < 0 ∨ cl97.slots.size ≤ ((6 : Int32)).toNatClampNeg) := inb_of S97 ⟨by decide, by decide⟩
  obtain ⟨T98, h98, X98, e98, W98, st98⟩ := stR X96 hx hZ e96 Ar97 (j := (6 : Int32)) hin97 rfl (Sto.ofV Ar97 q97 Ov65 (Ins.self (B.2.2.2.2.2.2.2.2.2.2.2.2.2.1.ext O93.2))) (g := (mkF m 47 #[.val (.int p0), .unset, .unset] [(.ref (u 6)), (.int (6 : Int32)), (.ref b65), (.ref b65)])) rfl rfl (hb hby d1_47)
  have Nf98 := Fr.snoc X98 Nf93 gx_b65
  have V98 : Arv Z h98 b65 k65 (.object "com/example/trailwire/trailwire/status/StatusCode") (17 : Int32) [.ref (u 0), .ref (u 1), .ref (u 2), .ref (u 3), .ref (u 4), .ref (u 5), .ref (u 6), .null, .null, .null, .null, .null, .null, .null, .null, .null, .null] .null := Arv.set Ar97 q97 S97 N97 H97 G97 rfl W98 6 rfl (Nat.le_of_ble_eq_true rfl)
  have O98 := O93.wr W98 gx_b65
  have K98 := K93.wr W98 (Or.inr sz_b65)
  obtain ⟨T101, X101, e101, st101⟩ := getS2 X98 hx hZ hown (host := "") (Or.inl (hw _ (List.mem_of_getElem? (i := 22) rfl))) Via.refl e98 (B.2.2.2.2.2.2.2.2.2.2.2.2.2.2.1.ext O98.2) (g := (mkF m 51 #[.val (.int p0), .unset, .unset] [(.int (7 : Int32)), (.ref b65), (.ref b65)])) rfl (hb hby d1_51)
  obtain ⟨cl102, Ar102, q102, S102, N102, H102, G102⟩ := id V98
  have hin102 : ¬ ((7 : Int32) < 0 ∨ cl102.slots.size ≤ ((7 : Int32)).toNatClampNeg) := inb_of S102 ⟨by decide, by decide⟩
  obtain ⟨T103, h103, X103, e103, W103, st103⟩ := stR X101 hx hZ e101 Ar102 (j := (7 : Int32)) hin102 rfl (Sto.ofV Ar102 q102 Ov65 (Ins.self (B.2.2.2.2.2.2.2.2.2.2.2.2.2.2.2.1.ext O98.2))) (g := (mkF m 54 #[.val (.int p0), .unset, .unset] [(.ref (u 7)), (.int (7 : Int32)), (.ref b65), (.ref b65)])) rfl rfl (hb hby d1_54)
  have Nf103 := Fr.snoc X103 Nf98 gx_b65
  have V103 : Arv Z h103 b65 k65 (.object "com/example/trailwire/trailwire/status/StatusCode") (17 : Int32) [.ref (u 0), .ref (u 1), .ref (u 2), .ref (u 3), .ref (u 4), .ref (u 5), .ref (u 6), .ref (u 7), .null, .null, .null, .null, .null, .null, .null, .null, .null] .null := Arv.set Ar102 q102 S102 N102 H102 G102 rfl W103 7 rfl (Nat.le_of_ble_eq_true rfl)
  have O103 := O98.wr W103 gx_b65
  have K103 := K98.wr W103 (Or.inr sz_b65)
  obtain ⟨T106, X106, e106, st106⟩ := getS2 X103 hx hZ hown (host := "") (Or.inl (hw _ (List.mem_of_getElem? (i := 24) rfl))) Via.refl e103 (B.2.2.2.2.2.2.2.2.2.2.2.2.2.2.2.2.1.ext O103.2) (g := (mkF m 58 #[.val (.int p0), .unset, .unset] [(.int (8 : Int32)), (.ref b65), (.ref b65)])) rfl (hb hby d1_58)
  obtain ⟨cl107, Ar107, q107, S107, N107, H107, G107⟩ := id V103
  have hin107 : ¬ ((8 : Int32) < 0 ∨ cl107.slots.size ≤ ((8 : Int32)).toNatClampNeg) := inb_of S107 ⟨by decide, by decide⟩
  obtain ⟨T108, h108, X108, e108, W108, st108⟩ := stR X106 hx hZ e106 Ar107 (j := (8 : Int32)) hin107 rfl (Sto.ofV Ar107 q107 Ov65 (Ins.self (B.2.2.2.2.2.2.2.2.2.2.2.2.2.2.2.2.2.1.ext O103.2))) (g := (mkF m 61 #[.val (.int p0), .unset, .unset] [(.ref (u 8)), (.int (8 : Int32)), (.ref b65), (.ref b65)])) rfl rfl (hb hby d1_61)
  have Nf108 := Fr.snoc X108 Nf103 gx_b65
  have V108 : Arv Z h108 b65 k65 (.object "com/example/trailwire/trailwire/status/StatusCode") (17 : Int32) [.ref (u 0), .ref (u 1), .ref (u 2), .ref (u 3), .ref (u 4), .ref (u 5), .ref (u 6), .ref (u 7), .ref (u 8), .null, .null, .null, .null, .null, .null, .null, .null] .null := Arv.set Ar107 q107 S107 N107 H107 G107 rfl W108 8 rfl (Nat.le_of_ble_eq_true rfl)
  have O108 := O103.wr W108 gx_b65
  have K108 := K103.wr W108 (Or.inr sz_b65)
  obtain ⟨T111, X111, e111, st111⟩ := getS2 X108 hx hZ hown (host := "") (Or.inl (hw _ (List.mem_of_getElem? (i := 26) rfl))) Via.refl e108 (B.2.2.2.2.2.2.2.2.2.2.2.2.2.2.2.2.2.2.1.ext O108.2) (g := (mkF m 65 #[.val (.int p0), .unset, .unset] [(.int (9 : Int32)), (.ref b65), (.ref b65)])) rfl (hb hby d1_65)
  obtain ⟨cl112, Ar112, q112, S112, N112, H112, G112⟩ := id V108
  have hin112 : ¬ ((9 : Int32) < 0 ∨ cl112.slots.size ≤ ((9 : Int32)).toNatClampNeg) := inb_of S112 ⟨by decide, by decide⟩
  obtain ⟨T113, h113, X113, e113, W113, st113⟩ := stR X111 hx hZ e111 Ar112 (j := (9 : Int32)) hin112 rfl (Sto.ofV Ar112 q112 Ov65 (Ins.self (B.2.2.2.2.2.2.2.2.2.2.2.2.2.2.2.2.2.2.2.1.ext O108.2))) (g := (mkF m 68 #[.val (.int p0), .unset, .unset] [(.ref (u 9)), (.int (9 : Int32)), (.ref b65), (.ref b65)])) rfl rfl (hb hby d1_68)
  have Nf113 := Fr.snoc X113 Nf108 gx_b65
  have V113 : Arv Z h113 b65 k65 (.object "com/example/trailwire/trailwire/status/StatusCode") (17 : Int32) [.ref (u 0), .ref (u 1), .ref (u 2), .ref (u 3), .ref (u 4), .ref (u 5), .ref (u 6), .ref (u 7), .ref (u 8), .ref (u 9), .null, .null, .null, .null, .null, .null, .null] .null := Arv.set Ar112 q112 S112 N112 H112 G112 rfl W113 9 rfl (Nat.le_of_ble_eq_true rfl)
  have O113 := O108.wr W113 gx_b65
  have K113 := K108.wr W113 (Or.inr sz_b65)
  obtain ⟨T116, X116, e116, st116⟩ := getS2 X113 hx hZ hown (host := "") (Or.inl (hw _ (List.mem_of_getElem? (i := 28) rfl))) Via.refl e113 (B.2.2.2.2.2.2.2.2.2.2.2.2.2.2.2.2.2.2.2.2.1.ext O113.2) (g := (mkF m 72 #[.val (.int p0), .unset, .unset] [(.int (10 : Int32)), (.ref b65), (.ref b65)])) rfl (hb hby d1_72)
  obtain ⟨cl117, Ar117, q117, S117, N117, H117, G117⟩ := id V113
  have hin117 : ¬ ((10 : Int32) < 0 ∨ cl117.slots.size ≤ ((10 : Int32)).toNatClampNeg) := inb_of S117 ⟨by decide, by decide⟩
  obtain ⟨T118, h118, X118, e118, W118, st118⟩ := stR X116 hx hZ e116 Ar117 (j := (10 : Int32)) hin117 rfl (Sto.ofV Ar117 q117 Ov65 (Ins.self (B.2.2.2.2.2.2.2.2.2.2.2.2.2.2.2.2.2.2.2.2.2.1.ext O113.2))) (g := (mkF m 75 #[.val (.int p0), .unset, .unset] [(.ref (u 10)), (.int (10 : Int32)), (.ref b65), (.ref b65)])) rfl rfl (hb hby d1_75)
  have Nf118 := Fr.snoc X118 Nf113 gx_b65
  have V118 : Arv Z h118 b65 k65 (.object "com/example/trailwire/trailwire/status/StatusCode") (17 : Int32) [.ref (u 0), .ref (u 1), .ref (u 2), .ref (u 3), .ref (u 4), .ref (u 5), .ref (u 6), .ref (u 7), .ref (u 8), .ref (u 9), .ref (u 10), .null, .null, .null, .null, .null, .null] .null := Arv.set Ar117 q117 S117 N117 H117 G117 rfl W118 10 rfl (Nat.le_of_ble_eq_true rfl)
  have O118 := O113.wr W118 gx_b65
  have K118 := K113.wr W118 (Or.inr sz_b65)
  obtain ⟨T121, X121, e121, st121⟩ := getS2 X118 hx hZ hown (host := "") (Or.inl (hw _ (List.mem_of_getElem? (i := 30) rfl))) Via.refl e118 (B.2.2.2.2.2.2.2.2.2.2.2.2.2.2.2.2.2.2.2.2.2.2.1.ext O118.2) (g := (mkF m 79 #[.val (.int p0), .unset, .unset] [(.int (11 : Int32)), (.ref b65), (.ref b65)])) rfl (hb hby d1_79)
  obtain ⟨cl122, Ar122, q122, S122, N122, H122, G122⟩ := id V118
  have hin122 : ¬ ((11 : Int32) < 0 ∨ cl122.slots.size ≤ ((11 : Int32)).toNatClampNeg) := inb_of S122 ⟨by decide, by decide⟩
  obtain ⟨T123, h123, X123, e123, W123, st123⟩ := stR X121 hx hZ e121 Ar122 (j := (11 : Int32)) hin122 rfl (Sto.ofV Ar122 q122 Ov65 (Ins.self (B.2.2.2.2.2.2.2.2.2.2.2.2.2.2.2.2.2.2.2.2.2.2.2.1.ext O118.2))) (g := (mkF m 82 #[.val (.int p0), .unset, .unset] [(.ref (u 11)), (.int (11 : Int32)), (.ref b65), (.ref b65)])) rfl rfl (hb hby d1_82)
  have Nf123 := Fr.snoc X123 Nf118 gx_b65
  have V123 : Arv Z h123 b65 k65 (.object "com/example/trailwire/trailwire/status/StatusCode") (17 : Int32) [.ref (u 0), .ref (u 1), .ref (u 2), .ref (u 3), .ref (u 4), .ref (u 5), .ref (u 6), .ref (u 7), .ref (u 8), .ref (u 9), .ref (u 10), .ref (u 11), .null, .null, .null, .null, .null] .null := Arv.set Ar122 q122 S122 N122 H122 G122 rfl W123 11 rfl (Nat.le_of_ble_eq_true rfl)
  have O123 := O118.wr W123 gx_b65
  have K123 := K118.wr W123 (Or.inr sz_b65)
  obtain ⟨T126, X126, e126, st126⟩ := getS2 X123 hx hZ hown (host := "") (Or.inl (hw _ (List.mem_of_getElem? (i := 32) rfl))) Via.refl e123 (B.2.2.2.2.2.2.2.2.2.2.2.2.2.2.2.2.2.2.2.2.2.2.2.2.1.ext O123.2) (g := (mkF m 86 #[.val (.int p0), .unset, .unset] [(.int (12 : Int32)), (.ref b65), (.ref b65)])) rfl (hb hby d1_86)
  obtain ⟨cl127, Ar127, q127, S127, N127, H127, G127⟩ := id V123
  have hin127 : ¬ ((12 : Int32) < 0 ∨ cl127.slots.size ≤ ((12 : Int32)).toNatClampNeg) := inb_of S127 ⟨by decide, by decide⟩
  obtain ⟨T128, h128, X128, e128, W128, st128⟩ := stR X126 hx hZ e126 Ar127 (j := (12 : Int32)) hin127 rfl (Sto.ofV Ar127 q127 Ov65 (Ins.self (B.2.2.2.2.2.2.2.2.2.2.2.2.2.2.2.2.2.2.2.2.2.2.2.2.2.1.ext O123.2))) (g := (mkF m 89 #[.val (.int p0), .unset, .unset] [(.ref (u 12)), (.int (12 : Int32)), (.ref b65), (.ref b65)])) rfl rfl (hb hby d1_89)
  have Nf128 := Fr.snoc X128 Nf123 gx_b65
  have V128 : Arv Z h128 b65 k65 (.object "com/example/trailwire/trailwire/status/StatusCode") (17 : Int32) [.ref (u 0), .ref (u 1), .ref (u 2), .ref (u 3), .ref (u 4), .ref (u 5), .ref (u 6), .ref (u 7), .ref (u 8), .ref (u 9), .ref (u 10), .ref (u 11), .ref (u 12), .null, .null, .null, .null] .null := Arv.set Ar127 q127 S127 N127 H127 G127 rfl W128 12 rfl (Nat.le_of_ble_eq_true rfl)
  have O128 := O123.wr W128 gx_b65
  have K128 := K123.wr W128 (Or.inr sz_b65)
  obtain ⟨T131, X131, e131, st131⟩ := getS2 X128 hx hZ hown (host := "") (Or.inl (hw _ (List.mem_of_getElem? (i := 34) rfl))) Via.refl e128 (B.2.2.2.2.2.2.2.2.2.2.2.2.2.2.2.2.2.2.2.2.2.2.2.2.2.2.1.ext O128.2) (g := (mkF m 93 #[.val (.int p0), .unset, .unset] [(.int (13 : Int32)), (.ref b65), (.ref b65)])) rfl (hb hby d1_93)
  obtain ⟨cl132, Ar132, q132, S132, N132, H132, G132⟩ := id V128
  have hin132 : ¬ ((13 : Int32) < 0 ∨ cl132.slots.size ≤ ((13 : Int32)).toNatClampNeg) := inb_of S132 ⟨by decide, by decide⟩
  obtain ⟨T133, h133, X133, e133, W133, st133⟩ := stR X131 hx hZ e131 Ar132 (j := (13 : Int32)) hin132 rfl (Sto.ofV Ar132 q132 Ov65 (Ins.self (B.2.2.2.2.2.2.2.2.2.2.2.2.2.2.2.2.2.2.2.2.2.2.2.2.2.2.2.1.ext O128.2))) (g := (mkF m 96 #[.val (.int p0), .unset, .unset] [(.ref (u 13)), (.int (13 : Int32)), (.ref b65), (.ref b65)])) rfl rfl (hb hby d1_96)
  have Nf133 := Fr.snoc X133 Nf128 gx_b65
  have V133 : Arv Z h133 b65 k65 (.object "com/example/trailwire/trailwire/status/StatusCode") (17 : Int32) [.ref (u 0), .ref (u 1), .ref (u 2), .ref (u 3), .ref (u 4), .ref (u 5), .ref (u 6), .ref (u 7), .ref (u 8), .ref (u 9), .ref (u 10), .ref (u 11), .ref (u 12), .ref (u 13), .null, .null, .null] .null := Arv.set Ar132 q132 S132 N132 H132 G132 rfl W133 13 rfl (Nat.le_of_ble_eq_true rfl)
  have O133 := O128.wr W133 gx_b65
  have K133 := K128.wr W133 (Or.inr sz_b65)
  obtain ⟨T136, X136, e136, st136⟩ := getS2 X133 hx hZ hown (host := "") (Or.inl (hw _ (List.mem_of_getElem? (i := 36) rfl))) Via.refl e133 (B.2.2.2.2.2.2.2.2.2.2.2.2.2.2.2.2.2.2.2.2.2.2.2.2.2.2.2.2.1.ext O133.2) (g := (mkF m 100 #[.val (.int p0), .unset, .unset] [(.int (14 : Int32)), (.ref b65), (.ref b65)])) rfl (hb hby d1_100)
  obtain ⟨cl137, Ar137, q137, S137, N137, H137, G137⟩ := id V133
  have hin137 : ¬ ((14 : Int32) < 0 ∨ cl137.slots.size ≤ ((14 : Int32)).toNatClampNeg) := inb_of S137 ⟨by decide, by decide⟩
  obtain ⟨T138, h138, X138, e138, W138, st138⟩ := stR X136 hx hZ e136 Ar137 (j := (14 : Int32)) hin137 rfl (Sto.ofV Ar137 q137 Ov65 (Ins.self (B.2.2.2.2.2.2.2.2.2.2.2.2.2.2.2.2.2.2.2.2.2.2.2.2.2.2.2.2.2.1.ext O133.2))) (g := (mkF m 103 #[.val (.int p0), .unset, .unset] [(.ref (u 14)), (.int (14 : Int32)), (.ref b65), (.ref b65)])) rfl rfl (hb hby d1_103)
  have Nf138 := Fr.snoc X138 Nf133 gx_b65
  have V138 : Arv Z h138 b65 k65 (.object "com/example/trailwire/trailwire/status/StatusCode") (17 : Int32) [.ref (u 0), .ref (u 1), .ref (u 2), .ref (u 3), .ref (u 4), .ref (u 5), .ref (u 6), .ref (u 7), .ref (u 8), .ref (u 9), .ref (u 10), .ref (u 11), .ref (u 12), .ref (u 13), .ref (u 14), .null, .null] .null := Arv.set Ar137 q137 S137 N137 H137 G137 rfl W138 14 rfl (Nat.le_of_ble_eq_true rfl)
  have O138 := O133.wr W138 gx_b65
  have K138 := K133.wr W138 (Or.inr sz_b65)
  obtain ⟨T141, X141, e141, st141⟩ := getS2 X138 hx hZ hown (host := "") (Or.inl (hw _ (List.mem_of_getElem? (i := 38) rfl))) Via.refl e138 (B.2.2.2.2.2.2.2.2.2.2.2.2.2.2.2.2.2.2.2.2.2.2.2.2.2.2.2.2.2.2.1.ext O138.2) (g := (mkF m 107 #[.val (.int p0), .unset, .unset] [(.int (15 : Int32)), (.ref b65), (.ref b65)])) rfl (hb hby d1_107)
  obtain ⟨cl142, Ar142, q142, S142, N142, H142, G142⟩ := id V138
  have hin142 : ¬ ((15 : Int32) < 0 ∨ cl142.slots.size ≤ ((15 : Int32)).toNatClampNeg) := inb_of S142 ⟨by decide, by decide⟩
  obtain ⟨T143, h143, X143, e143, W143, st143⟩ := stR X141 hx hZ e141 Ar142 (j := (15 : Int32)) hin142 rfl (Sto.ofV Ar142 q142 Ov65 (Ins.self (B.2.2.2.2.2.2.2.2.2.2.2.2.2.2.2.2.2.2.2.2.2.2.2.2.2.2.2.2.2.2.2.1.ext O138.2))) (g := (mkF m 110 #[.val (.int p0), .unset, .unset] [(.ref (u 15)), (.int (15 : Int32)), (.ref b65), (.ref b65)])) rfl rfl (hb hby d1_110)
  have Nf143 := Fr.snoc X143 Nf138 gx_b65
  have V143 : Arv Z h143 b65 k65 (.object "com/example/trailwire/trailwire/status/StatusCode") (17 : Int32) [.ref (u 0), .ref (u 1), .ref (u 2), .ref (u 3), .ref (u 4), .ref (u 5), .ref (u 6), .ref (u 7), .ref (u 8), .ref (u 9), .ref (u 10), .ref (u 11), .ref (u 12), .ref (u 13), .ref (u 14), .ref (u 15), .null] .null := Arv.set Ar142 q142 S142 N142 H142 G142 rfl W143 15 rfl (Nat.le_of_ble_eq_true rfl)
  have O143 := O138.wr W143 gx_b65
  have K143 := K138.wr W143 (Or.inr sz_b65)
  obtain ⟨T146, X146, e146, st146⟩ := getS2 X143 hx hZ hown (host := "") (Or.inl (hw _ (List.mem_of_getElem? (i := 40) rfl))) Via.refl e143 (B.2.2.2.2.2.2.2.2.2.2.2.2.2.2.2.2.2.2.2.2.2.2.2.2.2.2.2.2.2.2.2.2.1.ext O143.2) (g := (mkF m 114 #[.val (.int p0), .unset, .unset] [(.int (16 : Int32)), (.ref b65), (.ref b65)])) rfl (hb hby d1_114)
  obtain ⟨cl147, Ar147, q147, S147, N147, H147, G147⟩ := id V143
  have hin147 : ¬ ((16 : Int32) < 0 ∨ cl147.slots.size ≤ ((16 : Int32)).toNatClampNeg) := inb_of S147 ⟨by decide, by decide⟩
  obtain ⟨T148, h148, X148, e148, W148, st148⟩ := stR X146 hx hZ e146 Ar147 (j := (16 : Int32)) hin147 rfl (Sto.ofV Ar147 q147 Ov65 (Ins.self (B.2.2.2.2.2.2.2.2.2.2.2.2.2.2.2.2.2.2.2.2.2.2.2.2.2.2.2.2.2.2.2.2.2.1.ext O143.2))) (g := (mkF m 117 #[.val (.int p0), .unset, .unset] [(.ref (u 16)), (.int (16 : Int32)), (.ref b65), (.ref b65)])) rfl rfl (hb hby d1_117)
  have Nf148 := Fr.snoc X148 Nf143 gx_b65
  have V148 : Arv Z h148 b65 k65 (.object "com/example/trailwire/trailwire/status/StatusCode") (17 : Int32) [.ref (u 0), .ref (u 1), .ref (u 2), .ref (u 3), .ref (u 4), .ref (u 5), .ref (u 6), .ref (u 7), .ref (u 8), .ref (u 9), .ref (u 10), .ref (u 11), .ref (u 12), .ref (u 13), .ref (u 14), .ref (u 15), .ref (u 16)] .null := Arv.set Ar147 q147 S147 N147 H147 G147 rfl W148 16 rfl (Nat.le_of_ble_eq_true rfl)
  have O148 := O143.wr W148 gx_b65
  have K148 := K143.wr W148 (Or.inr sz_b65)
  have pre151 : ∀ t, Steps p.tables e below (T148.setTop (mkF m 120 #[.val (.int p0), .val (.ref b65), .unset] [(.int p0)])) t → Steps p.tables e below (s₁.setTop (entryFrame m #[(.int p0)] 3)) t := fun t kt => pre0 t (by
    show Steps p.tables e below (s₁.setTop (mkF m 0 #[.val (.int p0), .unset, .unset] [])) _
    refine XS.bipush X0.here hx rfl (hb hby d1_0) ?_
    show Steps p.tables e below (s₁.setTop (mkF m 2 #[.val (.int p0), .unset, .unset] [(.int (17 : Int32))])) _
    refine st65 _ ?_
    show Steps p.tables e below (T65.setTop (mkF m 5 #[.val (.int p0), .unset, .unset] [(.ref b65)])) _
    refine XS.dup X65.here hx rfl (hb hby d1_5) rfl rfl ?_
    show Steps p.tables e below (T65.setTop (mkF m 6 #[.val (.int p0), .unset, .unset] [(.ref b65), (.ref b65)])) _
    refine XS.iconst X65.here hx rfl (hb hby d1_6) ?_
    show Steps p.tables e below (T65.setTop (mkF m 7 #[.val (.int p0), .unset, .unset] [(.int (0 : Int32)), (.ref b65), (.ref b65)])) _
    refine st66 _ ?_
    show Steps p.tables e below (T66.setTop (mkF m 10 #[.val (.int p0), .unset, .unset] [(.ref (u 0)), (.int (0 : Int32)), (.ref b65), (.ref b65)])) _
    refine st68 _ ?_
    show Steps p.tables e below (T68.setTop (mkF m 11 #[.val (.int p0), .unset, .unset] [(.ref b65)])) _
    refine XS.dup X68.here hx rfl (hb hby d1_11) rfl rfl ?_
    show Steps p.tables e below (T68.setTop (mkF m 12 #[.val (.int p0), .unset, .unset] [(.ref b65), (.ref b65)])) _
    refine XS.iconst X68.here hx rfl (hb hby d1_12) ?_
    show Steps p.tables e below (T68.setTop (mkF m 13 #[.val (.int p0), .unset, .unset] [(.int (1 : Int32)), (.ref b65), (.ref b65)])) _
    refine st71 _ ?_
    show Steps p.tables e below (T71.setTop (mkF m 16 #[.val (.int p0), .unset, .unset] [(.ref (u 1)), (.int (1 : Int32)), (.ref b65), (.ref b65)])) _
    refine st73 _ ?_
    show Steps p.tables e below (T73.setTop (mkF m 17 #[.val (.int p0), .unset, .unset] [(.ref b65)])) _
    refine XS.dup X73.here hx rfl (hb hby d1_17) rfl rfl ?_
    show Steps p.tables e below (T73.setTop (mkF m 18 #[.val (.int p0), .unset, .unset] [(.ref b65), (.ref b65)])) _
    refine XS.iconst X73.here hx rfl (hb hby d1_18) ?_
    show Steps p.tables e below (T73.setTop (mkF m 19 #[.val (.int p0), .unset, .unset] [(.int (2 : Int32)), (.ref b65), (.ref b65)])) _
    refine st76 _ ?_
    show Steps p.tables e below (T76.setTop (mkF m 22 #[.val (.int p0), .unset, .unset] [(.ref (u 2)), (.int (2 : Int32)), (.ref b65), (.ref b65)])) _
    refine st78 _ ?_
    show Steps p.tables e below (T78.setTop (mkF m 23 #[.val (.int p0), .unset, .unset] [(.ref b65)])) _
    refine XS.dup X78.here hx rfl (hb hby d1_23) rfl rfl ?_
    show Steps p.tables e below (T78.setTop (mkF m 24 #[.val (.int p0), .unset, .unset] [(.ref b65), (.ref b65)])) _
    refine XS.iconst X78.here hx rfl (hb hby d1_24) ?_
    show Steps p.tables e below (T78.setTop (mkF m 25 #[.val (.int p0), .unset, .unset] [(.int (3 : Int32)), (.ref b65), (.ref b65)])) _
    refine st81 _ ?_
    show Steps p.tables e below (T81.setTop (mkF m 28 #[.val (.int p0), .unset, .unset] [(.ref (u 3)), (.int (3 : Int32)), (.ref b65), (.ref b65)])) _
    refine st83 _ ?_
    show Steps p.tables e below (T83.setTop (mkF m 29 #[.val (.int p0), .unset, .unset] [(.ref b65)])) _
    refine XS.dup X83.here hx rfl (hb hby d1_29) rfl rfl ?_
    show Steps p.tables e below (T83.setTop (mkF m 30 #[.val (.int p0), .unset, .unset] [(.ref b65), (.ref b65)])) _
    refine XS.iconst X83.here hx rfl (hb hby d1_30) ?_
    show Steps p.tables e below (T83.setTop (mkF m 31 #[.val (.int p0), .unset, .unset] [(.int (4 : Int32)), (.ref b65), (.ref b65)])) _
    refine st86 _ ?_
    show Steps p.tables e below (T86.setTop (mkF m 34 #[.val (.int p0), .unset, .unset] [(.ref (u 4)), (.int (4 : Int32)), (.ref b65), (.ref b65)])) _
    refine st88 _ ?_
    show Steps p.tables e below (T88.setTop (mkF m 35 #[.val (.int p0), .unset, .unset] [(.ref b65)])) _
    refine XS.dup X88.here hx rfl (hb hby d1_35) rfl rfl ?_
    show Steps p.tables e below (T88.setTop (mkF m 36 #[.val (.int p0), .unset, .unset] [(.ref b65), (.ref b65)])) _
    refine XS.iconst X88.here hx rfl (hb hby d1_36) ?_
    show Steps p.tables e below (T88.setTop (mkF m 37 #[.val (.int p0), .unset, .unset] [(.int (5 : Int32)), (.ref b65), (.ref b65)])) _
    refine st91 _ ?_
    show Steps p.tables e below (T91.setTop (mkF m 40 #[.val (.int p0), .unset, .unset] [(.ref (u 5)), (.int (5 : Int32)), (.ref b65), (.ref b65)])) _
    refine st93 _ ?_
    show Steps p.tables e below (T93.setTop (mkF m 41 #[.val (.int p0), .unset, .unset] [(.ref b65)])) _
    refine XS.dup X93.here hx rfl (hb hby d1_41) rfl rfl ?_
    show Steps p.tables e below (T93.setTop (mkF m 42 #[.val (.int p0), .unset, .unset] [(.ref b65), (.ref b65)])) _
    refine XS.bipush X93.here hx rfl (hb hby d1_42) ?_
    show Steps p.tables e below (T93.setTop (mkF m 44 #[.val (.int p0), .unset, .unset] [(.int (6 : Int32)), (.ref b65), (.ref b65)])) _
    refine st96 _ ?_
    show Steps p.tables e below (T96.setTop (mkF m 47 #[.val (.int p0), .unset, .unset] [(.ref (u 6)), (.int (6 : Int32)), (.ref b65), (.ref b65)])) _
    refine st98 _ ?_
    show Steps p.tables e below (T98.setTop (mkF m 48 #[.val (.int p0), .unset, .unset] [(.ref b65)])) _
    refine XS.dup X98.here hx rfl (hb hby d1_48) rfl rfl ?_
    show Steps p.tables e below (T98.setTop (mkF m 49 #[.val (.int p0), .unset, .unset] [(.ref b65), (.ref b65)])) _
    refine XS.bipush X98.here hx rfl (hb hby d1_49) ?_
    show Steps p.tables e below (T98.setTop (mkF m 51 #[.val (.int p0), .unset, .unset] [(.int (7 : Int32)), (.ref b65), (.ref b65)])) _
    refine st101 _ ?_
    show Steps p.tables e below (T101.setTop (mkF m 54 #[.val (.int p0), .unset, .unset] [(.ref (u 7)), (.int (7 : Int32)), (.ref b65), (.ref b65)])) _
    refine st103 _ ?_
    show Steps p.tables e below (T103.setTop (mkF m 55 #[.val (.int p0), .unset, .unset] [(.ref b65)])) _
    refine XS.dup X103.here hx rfl (hb hby d1_55) rfl rfl ?_
    show Steps p.tables e below (T103.setTop (mkF m 56 #[.val (.int p0), .unset, .unset] [(.ref b65), (.ref b65)])) _
    refine XS.bipush X103.here hx rfl (hb hby d1_56) ?_
    show Steps p.tables e below (T103.setTop (mkF m 58 #[.val (.int p0), .unset, .unset] [(.int (8 : Int32)), (.ref b65), (.ref b65)])) _
    refine st106 _ ?_
    show Steps p.tables e below (T106.setTop (mkF m 61 #[.val (.int p0), .unset, .unset] [(.ref (u 8)), (.int (8 : Int32)), (.ref b65), (.ref b65)])) _
    refine st108 _ ?_
    show Steps p.tables e below (T108.setTop (mkF m 62 #[.val (.int p0), .unset, .unset] [(.ref b65)])) _
    refine XS.dup X108.here hx rfl (hb hby d1_62) rfl rfl ?_
    show Steps p.tables e below (T108.setTop (mkF m 63 #[.val (.int p0), .unset, .unset] [(.ref b65), (.ref b65)])) _
    refine XS.bipush X108.here hx rfl (hb hby d1_63) ?_
    show Steps p.tables e below (T108.setTop (mkF m 65 #[.val (.int p0), .unset, .unset] [(.int (9 : Int32)), (.ref b65), (.ref b65)])) _
    refine st111 _ ?_
    show Steps p.tables e below (T111.setTop (mkF m 68 #[.val (.int p0), .unset, .unset] [(.ref (u 9)), (.int (9 : Int32)), (.ref b65), (.ref b65)])) _
    refine st113 _ ?_
    show Steps p.tables e below (T113.setTop (mkF m 69 #[.val (.int p0), .unset, .unset] [(.ref b65)])) _
    refine XS.dup X113.here hx rfl (hb hby d1_69) rfl rfl ?_
    show Steps p.tables e below (T113.setTop (mkF m 70 #[.val (.int p0), .unset, .unset] [(.ref b65), (.ref b65)])) _
    refine XS.bipush X113.here hx rfl (hb hby d1_70) ?_
    show Steps p.tables e below (T113.setTop (mkF m 72 #[.val (.int p0), .unset, .unset] [(.int (10 : Int32)), (.ref b65), (.ref b65)])) _
    refine st116 _ ?_
    show Steps p.tables e below (T116.setTop (mkF m 75 #[.val (.int p0), .unset, .unset] [(.ref (u 10)), (.int (10 : Int32)), (.ref b65), (.ref b65)])) _
    refine st118 _ ?_
    show Steps p.tables e below (T118.setTop (mkF m 76 #[.val (.int p0), .unset, .unset] [(.ref b65)])) _
    refine XS.dup X118.here hx rfl (hb hby d1_76) rfl rfl ?_
    show Steps p.tables e below (T118.setTop (mkF m 77 #[.val (.int p0), .unset, .unset] [(.ref b65), (.ref b65)])) _
    refine XS.bipush X118.here hx rfl (hb hby d1_77) ?_
    show Steps p.tables e below (T118.setTop (mkF m 79 #[.val (.int p0), .unset, .unset] [(.int (11 : Int32)), (.ref b65), (.ref b65)])) _
    refine st121 _ ?_
    show Steps p.tables e below (T121.setTop (mkF m 82 #[.val (.int p0), .unset, .unset] [(.ref (u 11)), (.int (11 : Int32)), (.ref b65), (.ref b65)])) _
    refine st123 _ ?_
    show Steps p.tables e below (T123.setTop (mkF m 83 #[.val (.int p0), .unset, .unset] [(.ref b65)])) _
    refine XS.dup X123.here hx rfl (hb hby d1_83) rfl rfl ?_
    show Steps p.tables e below (T123.setTop (mkF m 84 #[.val (.int p0), .unset, .unset] [(.ref b65), (.ref b65)])) _
    refine XS.bipush X123.here hx rfl (hb hby d1_84) ?_
    show Steps p.tables e below (T123.setTop (mkF m 86 #[.val (.int p0), .unset, .unset] [(.int (12 : Int32)), (.ref b65), (.ref b65)])) _
    refine st126 _ ?_
    show Steps p.tables e below (T126.setTop (mkF m 89 #[.val (.int p0), .unset, .unset] [(.ref (u 12)), (.int (12 : Int32)), (.ref b65), (.ref b65)])) _
    refine st128 _ ?_
    show Steps p.tables e below (T128.setTop (mkF m 90 #[.val (.int p0), .unset, .unset] [(.ref b65)])) _
    refine XS.dup X128.here hx rfl (hb hby d1_90) rfl rfl ?_
    show Steps p.tables e below (T128.setTop (mkF m 91 #[.val (.int p0), .unset, .unset] [(.ref b65), (.ref b65)])) _
    refine XS.bipush X128.here hx rfl (hb hby d1_91) ?_
    show Steps p.tables e below (T128.setTop (mkF m 93 #[.val (.int p0), .unset, .unset] [(.int (13 : Int32)), (.ref b65), (.ref b65)])) _
    refine st131 _ ?_
    show Steps p.tables e below (T131.setTop (mkF m 96 #[.val (.int p0), .unset, .unset] [(.ref (u 13)), (.int (13 : Int32)), (.ref b65), (.ref b65)])) _
    refine st133 _ ?_
    show Steps p.tables e below (T133.setTop (mkF m 97 #[.val (.int p0), .unset, .unset] [(.ref b65)])) _
    refine XS.dup X133.here hx rfl (hb hby d1_97) rfl rfl ?_
    show Steps p.tables e below (T133.setTop (mkF m 98 #[.val (.int p0), .unset, .unset] [(.ref b65), (.ref b65)])) _
    refine XS.bipush X133.here hx rfl (hb hby d1_98) ?_
    show Steps p.tables e below (T133.setTop (mkF m 100 #[.val (.int p0), .unset, .unset] [(.int (14 : Int32)), (.ref b65), (.ref b65)])) _
    refine st136 _ ?_
    show Steps p.tables e below (T136.setTop (mkF m 103 #[.val (.int p0), .unset, .unset] [(.ref (u 14)), (.int (14 : Int32)), (.ref b65), (.ref b65)])) _
    refine st138 _ ?_
    show Steps p.tables e below (T138.setTop (mkF m 104 #[.val (.int p0), .unset, .unset] [(.ref b65)])) _
    refine XS.dup X138.here hx rfl (hb hby d1_104) rfl rfl ?_
    show Steps p.tables e below (T138.setTop (mkF m 105 #[.val (.int p0), .unset, .unset] [(.ref b65), (.ref b65)])) _
    refine XS.bipush X138.here hx rfl (hb hby d1_105) ?_
    show Steps p.tables e below (T138.setTop (mkF m 107 #[.val (.int p0), .unset, .unset] [(.int (15 : Int32)), (.ref b65), (.ref b65)])) _
    refine st141 _ ?_
    show Steps p.tables e below (T141.setTop (mkF m 110 #[.val (.int p0), .unset, .unset] [(.ref (u 15)), (.int (15 : Int32)), (.ref b65), (.ref b65)])) _
    refine st143 _ ?_
    show Steps p.tables e below (T143.setTop (mkF m 111 #[.val (.int p0), .unset, .unset] [(.ref b65)])) _
    refine XS.dup X143.here hx rfl (hb hby d1_111) rfl rfl ?_
    show Steps p.tables e below (T143.setTop (mkF m 112 #[.val (.int p0), .unset, .unset] [(.ref b65), (.ref b65)])) _
    refine XS.bipush X143.here hx rfl (hb hby d1_112) ?_
    show Steps p.tables e below (T143.setTop (mkF m 114 #[.val (.int p0), .unset, .unset] [(.int (16 : Int32)), (.ref b65), (.ref b65)])) _
    refine st146 _ ?_
    show Steps p.tables e below (T146.setTop (mkF m 117 #[.val (.int p0), .unset, .unset] [(.ref (u 16)), (.int (16 : Int32)), (.ref b65), (.ref b65)])) _
    refine st148 _ ?_
    show Steps p.tables e below (T148.setTop (mkF m 118 #[.val (.int p0), .unset, .unset] [(.ref b65)])) _
    refine XS.astoreN X148.here hx rfl (hb hby d1_118) rfl rfl (l' := #[.val (.int p0), .val (.ref b65), .unset]) rfl ?_
    show Steps p.tables e below (T148.setTop (mkF m 119 #[.val (.int p0), .val (.ref b65), .unset] [])) _
    refine XS.iloadN X148.here hx rfl (hb hby d1_119) rfl ?_
    exact kt)
  obtain ⟨vr152, _, ⟨T152, L152, k152, n152⟩, -, X152, ⟨Lc152, hQ152, l152, y152, z152⟩, st152⟩ := Jvm.LawKit.callS X148 hx (y := (⟨"com/example/trailwire/trailwire/status/StatusCode", "fromNumber", "(I)Lcom/example/trailwire/trailwire/status/StatusCode;"⟩ : MethodName)) hown (mvT hZ (hw _ (List.mem_of_getElem? (i := 42) rfl))) (mvT hZ (hw _ (List.mem_of_getElem? (i := 43) rfl))) (mvT hZ (hw _ (List.mem_of_getElem? (i := 7) rfl))) (mvT hZ (hw _ (List.mem_of_getElem? (i := 44) rfl))) (by decide) (backOf (W := 0) (rm2 l Z a0 hw [] u p0 B h148 n0 O148 ) hZ (hw _ (List.mem_of_getElem? (i := 44) rfl)) (hw _ (List.mem_of_getElem? (i := 7) rfl)) (by decide) (by decide)) (g := (mkF m 120 #[.val (.int p0), .val (.ref b65), .unset] [(.int p0)])) rfl (by rw [hml]; rfl) (argsL := [(.int p0)]) (rest := []) (lenOf own_pd0 rfl) rfl (by show 2 * 0 + _ ≤ _; exact Nat.le_of_eq rfl) (hb hby d1_120) (fun _ _ => ⟨rfl, e148, (by decide : 1 + 0 ≤ _), (by decide : 17 + 0 ≤ _)⟩)
  dsimp only [Pt.U, Pt.locs, Pt.cells, Pt.slots] at X152 l152 y152 z152 st152 hQ152
  subst l152 y152 z152
  obtain ⟨hv152, N152q, e152⟩ := hQ152
  have N152 := Fr.app Nf148 N152q
  by_cases hc153 : p0 < (0 : Int32)
  · --
    obtain rfl : vr152 = some (.ref (u 2)) := hv152.trans (by unfold own_r2; rw [if_pos hc153])
    obtain ⟨T154, X154, e154, st154⟩ := getS2 X152 hx hZ hown (host := "") (Or.inl (hw _ (List.mem_of_getElem? (i := 12) rfl))) Via.refl e152 (B.2.2.2.2.1.ext O148.2) (g := (mkF m 156 #[.val (.int p0), .val (.ref b65), .val (.ref (u 2))] [(.ref (u 2))])) rfl (hb hby d1_156)
    obtain ⟨fs, hr, hrun, hended, hW, hsame⟩ := X154.leave (v := some (.int (1 : Int32))) (fun h => by rw [Bd.returns] at h; cases h)
    refine ⟨_, _, pre151 _ ?_, hrun, hended, _, _, rfl, ?_, ⟨_, rfl⟩, hW, hsame.mono (by decide) (by decide)⟩
    · show Steps p.tables e below (T148.setTop (mkF m 120 #[.val (.int p0), .val (.ref b65), .unset] [(.int p0)])) _
      refine st152 _ ?_
      show Steps p.tables e below (T152.setTop (mkF m 123 #[.val (.int p0), .val (.ref b65), .unset] [(.ref (u 2))])) _
      refine XS.astoreN X152.here hx rfl (hb hby d1_123) rfl rfl (l' := #[.val (.int p0), .val (.ref b65), .val (.ref (u 2))]) rfl ?_
      show Steps p.tables e below (T152.setTop (mkF m 124 #[.val (.int p0), .val (.ref b65), .val (.ref (u 2))] [])) _
      refine XS.iloadN X152.here hx rfl (hb hby d1_124) rfl ?_
      show Steps p.tables e below (T152.setTop (mkF m 125 #[.val (.int p0), .val (.ref b65), .val (.ref (u 2))] [(.int p0)])) _
      refine XS.ifYes X152.here hx rfl (pc0 := 125) (pc' := 155) rfl (hb hby d1_125) rfl ((if0 _ _).trans (tlt hc153).1) (by decide) (by decide) ?_
      show Steps p.tables e below (T152.setTop (mkF m 155 #[.val (.int p0), .val (.ref b65), .val (.ref (u 2))] [])) _
      refine XS.aloadN X152.here hx rfl (hb hby d1_155) rfl rfl ?_
      show Steps p.tables e below (T152.setTop (mkF m 156 #[.val (.int p0), .val (.ref b65), .val (.ref (u 2))] [(.ref (u 2))])) _
      refine st154 _ ?_
      show Steps p.tables e below (T154.setTop (mkF m 159 #[.val (.int p0), .val (.ref b65), .val (.ref (u 2))] [(.ref (u 2)), (.ref (u 2))])) _
      refine Jvm.RoadKit.acmp (g := (mkF m 159 #[.val (.int p0), .val (.ref b65), .val (.ref (u 2))] [(.ref (u 2)), (.ref (u 2))])) X154 hx rfl rfl rfl (pc0 := 159) (pc' := 162) (same := true) rfl (hb hby d1_159) rfl (decide_eq_true rfl) (by decide) (by decide) ?_
      show Steps p.tables e below (T154.setTop (mkF m 162 #[.val (.int p0), .val (.ref b65), .val (.ref (u 2))] [])) _
      refine XS.iconst X154.here hx rfl (hb hby d1_162) ?_
      show Steps p.tables e below (T154.setTop (mkF m 163 #[.val (.int p0), .val (.ref b65), .val (.ref (u 2))] [(.int (1 : Int32))])) _
      refine XS.goto X154.here hx rfl (pc0 := 163) (pc' := 167) rfl (hb hby d1_163) (by decide) (by decide) ?_
      show Steps p.tables e below (T154.setTop (mkF m 167 #[.val (.int p0), .val (.ref b65), .val (.ref (u 2))] [(.int (1 : Int32))])) _
      exact retN X154 hx (t := .boolean) Bd.returns (by simp) (hb hby d1_167) hr
    · show own_Q1 Z u p0 h0 n0 _ T154.heap _
      rw [e154]
      exact ⟨rfl, N152, own_ext K148⟩
  · --
    by_cases hc156 : p0 < (17 : Int32)
    · --
      by_cases hc157 : p0 = (0 : Int32)
      · --
        obtain rfl : vr152 = some (.ref (u 0)) := hv152.trans (by unfold own_r2; rw [if_neg hc153, if_pos hc156, if_pos hc157])
        have pre158 : ∀ t, Steps p.tables e below (T152.setTop (mkF m 137 #[.val (.int p0), .val (.ref b65), .val (.ref (u 0))] [(.int p0), (.ref b65), (.ref (u 0))])) t → Steps p.tables e below (s₁.setTop (entryFrame m #[(.int p0)] 3)) t := fun t kt => pre151 t (by
          show Steps p.tables e below (T148.setTop (mkF m 120 #[.val (.int p0), .val (.ref b65), .unset] [(.int p0)])) _
          refine st152 _ ?_
          show Steps p.tables e below (T152.setTop (mkF m 123 #[.val (.int p0), .val (.ref b65), .unset] [(.ref (u 0))])) _
          refine XS.astoreN X152.here hx rfl (hb hby d1_123) rfl rfl (l' := #[.val (.int p0), .val (.ref b65), .val (.ref (u 0))]) rfl ?_
          show Steps p.tables e below (T152.setTop (mkF m 124 #[.val (.int p0), .val (.ref b65), .val (.ref (u 0))] [])) _
          refine XS.iloadN X152.here hx rfl (hb hby d1_124) rfl ?_
          show Steps p.tables e below (T152.setTop (mkF m 125 #[.val (.int p0), .val (.ref b65), .val (.ref (u 0))] [(.int p0)])) _
          refine XS.ifNo X152.here hx rfl (hb hby d1_125) rfl ((if0 _ _).trans (flt hc153).1) ?_
          show Steps p.tables e below (T152.setTop (mkF m 128 #[.val (.int p0), .val (.ref b65), .val (.ref (u 0))] [])) _
          refine XS.iloadN X152.here hx rfl (hb hby d1_128) rfl ?_
          show Steps p.tables e below (T152.setTop (mkF m 129 #[.val (.int p0), .val (.ref b65), .val (.ref (u 0))] [(.int p0)])) _
          refine XS.bipush X152.here hx rfl (hb hby d1_129) ?_
          show Steps p.tables e below (T152.setTop (mkF m 131 #[.val (.int p0), .val (.ref b65), .val (.ref (u 0))] [(.int (16 : Int32)), (.int p0)])) _
          refine XS.icmpNo X152.here hx rfl (hb hby d1_131) rfl (flt (by rw [hc157]; decide : ¬ ((16 : Int32) < p0))).2.2.1 ?_
          show Steps p.tables e below (T152.setTop (mkF m 134 #[.val (.int p0), .val (.ref b65), .val (.ref (u 0))] [])) _
          refine XS.aloadN X152.here hx rfl (hb hby d1_134) rfl rfl ?_
          show Steps p.tables e below (T152.setTop (mkF m 135 #[.val (.int p0), .val (.ref b65), .val (.ref (u 0))] [(.ref (u 0))])) _
          refine XS.aloadN X152.here hx rfl (hb hby d1_135) rfl rfl ?_
          show Steps p.tables e below (T152.setTop (mkF m 136 #[.val (.int p0), .val (.ref b65), .val (.ref (u 0))] [(.ref b65), (.ref (u 0))])) _
          refine XS.iloadN X152.here hx rfl (hb hby d1_136) rfl ?_
          exact kt)
        obtain ⟨cl159, Ar159, -, S159, N159, H159, -⟩ := id V148
        have hin159 : ¬ (p0 < 0 ∨ cl159.slots.size ≤ (p0).toNatClampNeg) := by rw [hc157]; exact inb_of S159 ⟨by decide, by decide⟩
        obtain ⟨cq160, kq160, q160a, q160b, q160c⟩ := isOf hZ e152 (B.2.1.ext O148.2)
        obtain ⟨vr160, _, ⟨T160, L160, k160, n160⟩, -, X160, ⟨Lc160, hQ160, l160, y160, z160⟩, st160⟩ := X152.virtualBack hx (y := (⟨"com/example/trailwire/trailwire/status/StatusCode", "number", "()I"⟩ : MethodName)) (z := (⟨"com/example/trailwire/trailwire/status/StatusCode", "number", "()I"⟩ : MethodName)) hown (mvT hZ (hw _ (List.mem_of_getElem? (i := 48) rfl))) (mvT hZ (hw _ (List.mem_of_getElem? (i := 49) rfl))) (notFace_of_selects (args := #[]) (mvT hZ (hw _ (List.mem_of_getElem? (i := 51) rfl)))) (mvT hZ (hw _ (List.mem_of_getElem? (i := 51) rfl))) (mvT hZ (hw _ (List.mem_of_getElem? (i := 50) rfl))) (by decide) (backOf (W := 0) (rm3 l Z a0 hw [] u (u 0) (0 : Int32) B h148 n0 O148 (B.2.2.2.2.2.2.2.2.2.2.2.2.2.2.2.2.2.2.2.2.2.2.2.2.2.2.2.2.2.2.2.2.2.2.2.1.ext O148.2)) hZ (hw _ (List.mem_of_getElem? (i := 52) rfl)) (hw _ (List.mem_of_getElem? (i := 7) rfl)) (by decide) (by decide)) q160a q160c (g := (mkF m 142 #[.val (.int p0), .val (.ref b65), .val (.ref (u 0))] [(.ref (u 0))])) rfl (by rw [hml]; rfl) (Steps.refl _) (argsL := []) (rest := []) (lenOf own_pd1 rfl) rfl (by show 2 * 0 + _ ≤ _; exact Nat.le_of_eq rfl) (hb hby d1_142) (fun _ _ => ⟨rfl, e152, (by decide : 1 + 0 ≤ _), (by decide : 17 + 0 ≤ _)⟩)
        dsimp only [Pt.U, Pt.locs, Pt.cells, Pt.slots] at X160 l160 y160 z160 st160 hQ160
        subst l160 y160 z160
        obtain ⟨rfl, N160q, e160⟩ := hQ160
        have N160 := Fr.app N152 N160q
        obtain ⟨fs, hr, hrun, hended, hW, hsame⟩ := X160.leave (v := some (.int (1 : Int32))) (fun h => by rw [Bd.returns] at h; cases h)
        refine ⟨_, _, pre158 _ ?_, hrun, hended, _, _, rfl, ?_, ⟨_, rfl⟩, hW, hsame.mono (by decide) (by decide)⟩
        · show Steps p.tables e below (T152.setTop (mkF m 137 #[.val (.int p0), .val (.ref b65), .val (.ref (u 0))] [(.int p0), (.ref b65), (.ref (u 0))])) _
          refine X152.aaload hx (j := p0) (v := (.ref (u 0))) (by rw [e152]; exact Ar159.1) (State.isArrayOf_alike hZ.alike Ar159.2.1) rfl Ar159.2.2 hin159 (H159.at hin159 (by rw [hc157]; rfl)) (g := (mkF m 137 #[.val (.int p0), .val (.ref b65), .val (.ref (u 0))] [(.int p0), (.ref b65), (.ref (u 0))])) rfl rfl (hb hby d1_137) _ ?_
          show Steps p.tables e below (T152.setTop (mkF m 138 #[.val (.int p0), .val (.ref b65), .val (.ref (u 0))] [(.ref (u 0)), (.ref (u 0))])) _
          refine Jvm.RoadKit.acmp (g := (mkF m 138 #[.val (.int p0), .val (.ref b65), .val (.ref (u 0))] [(.ref (u 0)), (.ref (u 0))])) X152 hx rfl rfl rfl (pc0 := 138) (pc' := 141) (same := true) rfl (hb hby d1_138) rfl (decide_eq_true rfl) (by decide) (by decide) ?_
          show Steps p.tables e below (T152.setTop (mkF m 141 #[.val (.int p0), .val (.ref b65), .val (.ref (u 0))] [])) _
          refine XS.aloadN X152.here hx rfl (hb hby d1_141) rfl rfl ?_
          show Steps p.tables e below (T152.setTop (mkF m 142 #[.val (.int p0), .val (.ref b65), .val (.ref (u 0))] [(.ref (u 0))])) _
          refine st160.trans ?_
          show Steps p.tables e below (T160.setTop (mkF m 145 #[.val (.int p0), .val (.ref b65), .val (.ref (u 0))] [(.int (0 : Int32))])) _
          refine XS.iloadN X160.here hx rfl (hb hby d1_145) rfl ?_
          show Steps p.tables e below (T160.setTop (mkF m 146 #[.val (.int p0), .val (.ref b65), .val (.ref (u 0))] [(.int p0), (.int (0 : Int32))])) _
          refine XS.icmpNo X160.here hx rfl (hb hby d1_146) rfl (teq (Eq.symm hc157)).2 ?_
          show Steps p.tables e below (T160.setTop (mkF m 149 #[.val (.int p0), .val (.ref b65), .val (.ref (u 0))] [])) _
          refine XS.iconst X160.here hx rfl (hb hby d1_149) ?_
          show Steps p.tables e below (T160.setTop (mkF m 150 #[.val (.int p0), .val (.ref b65), .val (.ref (u 0))] [(.int (1 : Int32))])) _
          refine XS.goto X160.here hx rfl (pc0 := 150) (pc' := 154) rfl (hb hby d1_150) (by decide) (by decide) ?_
          show Steps p.tables e below (T160.setTop (mkF m 154 #[.val (.int p0), .val (.ref b65), .val (.ref (u 0))] [(.int (1 : Int32))])) _
          exact retN X160 hx (t := .boolean) Bd.returns (by simp) (hb hby d1_154) hr
        · show own_Q1 Z u p0 h0 n0 _ T160.heap _
          rw [e160]
          exact ⟨rfl, N160, own_ext K148⟩
      · --
        by_cases hc162 : p0 = (1 : Int32)
        · --
          obtain rfl : vr152 = some (.ref (u 1)) := hv152.trans (by unfold own_r2; rw [if_neg hc153, if_pos hc156, if_neg hc157, if_pos hc162])
          have pre163 : ∀ t, Steps p.tables e below (T152.setTop (mkF m 137 #[.val (.int p0), .val (.ref b65), .val (.ref (u 1))] [(.int p0), (.ref b65), (.ref (u 1))])) t → Steps p.tables e below (s₁.setTop (entryFrame m #[(.int p0)] 3)) t := fun t kt => pre151 t (by
            show Steps p.tables e below (T148.setTop (mkF m 120 #[.val (.int p0), .val (.ref b65), .unset] [(.int p0)])) _
            refine st152 _ ?_
            show Steps p.tables e below (T152.setTop (mkF m 123 #[.val (.int p0), .val (.ref b65), .unset] [(.ref (u 1))])) _
            refine XS.astoreN X152.here hx rfl (hb hby d1_123) rfl rfl (l' := #[.val (.int p0), .val (.ref b65), .val (.ref (u 1))]) rfl ?_
            show Steps p.tables e below (T152.setTop (mkF m 124 #[.val (.int p0), .val (.ref b65), .val (.ref (u 1))] [])) _
            refine XS.iloadN X152.here hx rfl (hb hby d1_124) rfl ?_
            show Steps p.tables e below (T152.setTop (mkF m 125 #[.val (.int p0), .val (.ref b65), .val (.ref (u 1))] [(.int p0)])) _
            refine XS.ifNo X152.here hx rfl (hb hby d1_125) rfl ((if0 _ _).trans (flt hc153).1) ?_
            show Steps p.tables e below (T152.setTop (mkF m 128 #[.val (.int p0), .val (.ref b65), .val (.ref (u 1))] [])) _
            refine XS.iloadN X152.here hx rfl (hb hby d1_128) rfl ?_
            show Steps p.tables e below (T152.setTop (mkF m 129 #[.val (.int p0), .val (.ref b65), .val (.ref (u 1))] [(.int p0)])) _
            refine XS.bipush X152.here hx rfl (hb hby d1_129) ?_
            show Steps p.tables e below (T152.setTop (mkF m 131 #[.val (.int p0), .val (.ref b65), .val (.ref (u 1))] [(.int (16 : Int32)), (.int p0)])) _
            refine XS.icmpNo X152.here hx rfl (hb hby d1_131) rfl (flt (by rw [hc162]; decide : ¬ ((16 : Int32) < p0))).2.2.1 ?_
            show Steps p.tables e below (T152.setTop (mkF m 134 #[.val (.int p0), .val (.ref b65), .val (.ref (u 1))] [])) _
            refine XS.aloadN X152.here hx rfl (hb hby d1_134) rfl rfl ?_
            show Steps p.tables e below (T152.setTop (mkF m 135 #[.val (.int p0), .val (.ref b65), .val (.ref (u 1))] [(.ref (u 1))])) _
            refine XS.aloadN X152.here hx rfl (hb hby d1_135) rfl rfl ?_
            show Steps p.tables e below (T152.setTop (mkF m 136 #[.val (.int p0), .val (.ref b65), .val (.ref (u 1))] [(.ref b65), (.ref (u 1))])) _
            refine XS.iloadN X152.here hx rfl (hb hby d1_136) rfl ?_
            exact kt)
          obtain ⟨cl164, Ar164, -, S164, N164, H164, -⟩ := id V148
          have hin164 : ¬ (p0 < 0 ∨ cl164.slots.size ≤ (p0).toNatClampNeg) := by rw [hc162]; exact inb_of S164 ⟨by decide, by decide⟩
          obtain ⟨cq165, kq165, q165a, q165b, q165c⟩ := isOf hZ e152 (B.2.2.2.1.ext O148.2)
          obtain ⟨vr165, _, ⟨T165, L165, k165, n165⟩, -, X165, ⟨Lc165, hQ165, l165, y165, z165⟩, st165⟩ := X152.virtualBack hx (y := (⟨"com/example/trailwire/trailwire/status/StatusCode", "number", "()I"⟩ : MethodName)) (z := (⟨"com/example/trailwire/trailwire/status/StatusCode", "number", "()I"⟩ : MethodName)) hown (mvT hZ (hw _ (List.mem_of_getElem? (i := 48) rfl))) (mvT hZ (hw _ (List.mem_of_getElem? (i := 49) rfl))) (notFace_of_selects (args := #[]) (mvT hZ (hw _ (List.mem_of_getElem? (i := 51) rfl)))) (mvT hZ (hw _ (List.mem_of_getElem? (i := 51) rfl))) (mvT hZ (hw _ (List.mem_of_getElem? (i := 50) rfl))) (by decide) (backOf (W := 0) (rm3 l Z a0 hw [] u (u 1) (1 : Int32) B h148 n0 O148 (B.2.2.2.2.2.2.2.2.2.2.2.2.2.2.2.2.2.2.2.2.2.2.2.2.2.2.2.2.2.2.2.2.2.2.2.2.1.ext O148.2)) hZ (hw _ (List.mem_of_getElem? (i := 52) rfl)) (hw _ (List.mem_of_getElem? (i := 7) rfl)) (by decide) (by decide)) q165a q165c (g := (mkF m 142 #[.val (.int p0), .val (.ref b65), .val (.ref (u 1))] [(.ref (u 1))])) rfl (by rw [hml]; rfl) (Steps.refl _) (argsL := []) (rest := []) (lenOf own_pd1 rfl) rfl (by show 2 * 0 + _ ≤ _; exact Nat.le_of_eq rfl) (hb hby d1_142) (fun _ _ => ⟨rfl, e152, (by decide : 1 + 0 ≤ _), (by decide : 17 + 0 ≤ _)⟩)
          dsimp only [Pt.U, Pt.locs, Pt.cells, Pt.slots] at X165 l165 y165 z165 st165 hQ165
          subst l165 y165 z165
          obtain ⟨rfl, N165q, e165⟩ := hQ165
          have N165 := Fr.app N152 N165q
          obtain ⟨fs, hr, hrun, hended, hW, hsame⟩ := X165.leave (v := some (.int (1 : Int32))) (fun h => by rw [Bd.returns] at h; cases h)
          refine ⟨_, _, pre163 _ ?_, hrun, hended, _, _, rfl, ?_, ⟨_, rfl⟩, hW, hsame.mono (by decide) (by decide)⟩
          · show Steps p.tables e below (T152.setTop (mkF m 137 #[.val (.int p0), .val (.ref b65), .val (.ref (u 1))] [(.int p0), (.ref b65), (.ref (u 1))])) _
            refine X152.aaload hx (j := p0) (v := (.ref (u 1))) (by rw [e152]; exact Ar164.1) (State.isArrayOf_alike hZ.alike Ar164.2.1) rfl Ar164.2.2 hin164 (H164.at hin164 (by rw [hc162]; rfl)) (g := (mkF m 137 #[.val (.int p0), .val (.ref b65), .val (.ref (u 1))] [(.int p0), (.ref b65), (.ref (u 1))])) rfl rfl (hb hby d1_137) _ ?_
            show Steps p.tables e below (T152.setTop (mkF m 138 #[.val (.int p0), .val (.ref b65), .val (.ref (u 1))] [(.ref (u 1)), (.ref (u 1))])) _
            refine Jvm.RoadKit.acmp (g := (mkF m 138 #[.val (.int p0), .val (.ref b65), .val (.ref (u 1))] [(.ref (u 1)), (.ref (u 1))])) X152 hx rfl rfl rfl (pc0 := 138) (pc' := 141) (same := true) rfl (hb hby d1_138) rfl (decide_eq_true rfl) (by decide) (by decide) ?_
            show Steps p.tables e below (T152.setTop (mkF m 141 #[.val (.int p0), .val (.ref b65), .val (.ref (u 1))] [])) _
            refine XS.aloadN X152.here hx rfl (hb hby d1_141) rfl rfl ?_
            show Steps p.tables e below (T152.setTop (mkF m 142 #[.val (.int p0), .val (.ref b65), .val (.ref (u 1))] [(.ref (u 1))])) _
            refine st165.trans ?_
            show Steps p.tables e below (T165.setTop (mkF m 145 #[.val (.int p0), .val (.ref b65), .val (.ref (u 1))] [(.int (1 : Int32))])) _
            refine XS.iloadN X165.here hx rfl (hb hby d1_145) rfl ?_
            show Steps p.tables e below (T165.setTop (mkF m 146 #[.val (.int p0), .val (.ref b65), .val (.ref (u 1))] [(.int p0), (.int (1 : Int32))])) _
            refine XS.icmpNo X165.here hx rfl (hb hby d1_146) rfl (teq (Eq.symm hc162)).2 ?_
            show Steps p.tables e below (T165.setTop (mkF m 149 #[.val (.int p0), .val (.ref b65), .val (.ref (u 1))] [])) _
            refine XS.iconst X165.here hx rfl (hb hby d1_149) ?_
            show Steps p.tables e below (T165.setTop (mkF m 150 #[.val (.int p0), .val (.ref b65), .val (.ref (u 1))] [(.int (1 : Int32))])) _
            refine XS.goto X165.here hx rfl (pc0 := 150) (pc' := 154) rfl (hb hby d1_150) (by decide) (by decide) ?_
            show Steps p.tables e below (T165.setTop (mkF m 154 #[.val (.int p0), .val (.ref b65), .val (.ref (u 1))] [(.int (1 : Int32))])) _
            exact retN X165 hx (t := .boolean) Bd.returns (by simp) (hb hby d1_154) hr
          · show own_Q1 Z u p0 h0 n0 _ T165.heap _
            rw [e165]
            exact ⟨rfl, N165, own_ext K148⟩
        · --
          by_cases hc167 : p0 = (2 : Int32)
          · --
            obtain rfl : vr152 = some (.ref (u 2)) := hv152.trans (by unfold own_r2; rw [if_neg hc153, if_pos hc156, if_neg hc157, if_neg hc162, if_pos hc167])
            have pre168 : ∀ t, Steps p.tables e below (T152.setTop (mkF m 137 #[.val (.int p0), .val (.ref b65), .val (.ref (u 2))] [(.int p0), (.ref b65), (.ref (u 2))])) t → Steps p.tables e below (s₁.setTop (entryFrame m #[(.int p0)] 3)) t := fun t kt => pre151 t (by
              show Steps p.tables e below (T148.setTop (mkF m 120 #[.val (.int p0), .val (.ref b65), .unset] [(.int p0)])) _
              refine st152 _ ?_
              show Steps p.tables e below (T152.setTop (mkF m 123 #[.val (.int p0), .val (.ref b65), .unset] [(.ref (u 2))])) _
              refine XS.astoreN X152.here hx rfl (hb hby d1_123) rfl rfl (l' := #[.val (.int p0), .val (.ref b65), .val (.ref (u 2))]) rfl ?_
              show Steps p.tables e below (T152.setTop (mkF m 124 #[.val (.int p0), .val (.ref b65), .val (.ref (u 2))] [])) _
              refine XS.iloadN X152.here hx rfl (hb hby d1_124) rfl ?_
              show Steps p.tables e below (T152.setTop (mkF m 125 #[.val (.int p0), .val (.ref b65), .val (.ref (u 2))] [(.int p0)])) _
              refine XS.ifNo X152.here hx rfl (hb hby d1_125) rfl ((if0 _ _).trans (flt hc153).1) ?_
              show Steps p.tables e below (T152.setTop (mkF m 128 #[.val (.int p0), .val (.ref b65), .val (.ref (u 2))] [])) _
              refine XS.iloadN X152.here hx rfl (hb hby d1_128) rfl ?_
              show Steps p.tables e below (T152.setTop (mkF m 129 #[.val (.int p0), .val (.ref b65), .val (.ref (u 2))] [(.int p0)])) _
              refine XS.bipush X152.here hx rfl (hb hby d1_129) ?_
              show Steps p.tables e below (T152.setTop (mkF m 131 #[.val (.int p0), .val (.ref b65), .val (.ref (u 2))] [(.int (16 : Int32)), (.int p0)])) _
              refine XS.icmpNo X152.here hx rfl (hb hby d1_131) rfl (flt (by rw [hc167]; decide : ¬ ((16 : Int32) < p0))).2.2.1 ?_
              show Steps p.tables e below (T152.setTop (mkF m 134 #[.val (.int p0), .val (.ref b65), .val (.ref (u 2))] [])) _
              refine XS.aloadN X152.here hx rfl (hb hby d1_134) rfl rfl ?_
              show Steps p.tables e below (T152.setTop (mkF m 135 #[.val (.int p0), .val (.ref b65), .val (.ref (u 2))] [(.ref (u 2))])) _
              refine XS.aloadN X152.here hx rfl (hb hby d1_135) rfl rfl ?_
              show Steps p.tables e below (T152.setTop (mkF m 136 #[.val (.int p0), .val (.ref b65), .val (.ref (u 2))] [(.ref b65), (.ref (u 2))])) _
              refine XS.iloadN X152.here hx rfl (hb hby d1_136) rfl ?_
              exact kt)
            obtain ⟨cl169, Ar169, -, S169, N169, H169, -⟩ := id V148
            have hin169 : ¬ (p0 < 0 ∨ cl169.slots.size ≤ (p0).toNatClampNeg) := by rw [hc167]; exact inb_of S169 ⟨by decide, by decide⟩
            obtain ⟨cq170, kq170, q170a, q170b, q170c⟩ := isOf hZ e152 (B.2.2.2.2.2.1.ext O148.2)
            obtain ⟨vr170, _, ⟨T170, L170, k170, n170⟩, -, X170, ⟨Lc170, hQ170, l170, y170, z170⟩, st170⟩ := X152.virtualBack hx (y := (⟨"com/example/trailwire/trailwire/status/StatusCode", "number", "()I"⟩ : MethodName)) (z := (⟨"com/example/trailwire/trailwire/status/StatusCode", "number", "()I"⟩ : MethodName)) hown (mvT hZ (hw _ (List.mem_of_getElem? (i := 48) rfl))) (mvT hZ (hw _ (List.mem_of_getElem? (i := 49) rfl))) (notFace_of_selects (args := #[]) (mvT hZ (hw _ (List.mem_of_getElem? (i := 51) rfl)))) (mvT hZ (hw _ (List.mem_of_getElem? (i := 51) rfl))) (mvT hZ (hw _ (List.mem_of_getElem? (i := 50) rfl))) (by decide) (backOf (W := 0) (rm3 l Z a0 hw [] u (u 2) (2 : Int32) B h148 n0 O148 (B.2.2.2.2.2.2.2.2.2.2.2.2.2.2.2.2.2.2.2.2.2.2.2.2.2.2.2.2.2.2.2.2.2.2.2.2.2.1.ext O148.2)) hZ (hw _ (List.mem_of_getElem? (i := 52) rfl)) (hw _ (List.mem_of_getElem? (i := 7) rfl)) (by decide) (by decide)) q170a q170c (g := (mkF m 142 #[.val (.int p0), .val (.ref b65), .val (.ref (u 2))] [(.ref (u 2))])) rfl (by rw [hml]; rfl) (Steps.refl _) (argsL := []) (rest := []) (lenOf own_pd1 rfl) rfl (by show 2 * 0 + _ ≤ _; exact Nat.le_of_eq rfl) (hb hby d1_142) (fun _ _ => ⟨rfl, e152, (by decide : 1 + 0 ≤ _), (by decide : 17 + 0 ≤ _)⟩)
            dsimp only [Pt.U, Pt.locs, Pt.cells, Pt.slots] at X170 l170 y170 z170 st170 hQ170
            subst l170 y170 z170
            obtain ⟨rfl, N170q, e170⟩ := hQ170
            have N170 := Fr.app N152 N170q
            obtain ⟨fs, hr, hrun, hended, hW, hsame⟩ := X170.leave (v := some (.int (1 : Int32))) (fun h => by rw [Bd.returns] at h; cases h)
            refine ⟨_, _, pre168 _ ?_, hrun, hended, _, _, rfl, ?_, ⟨_, rfl⟩, hW, hsame.mono (by decide) (by decide)⟩
            · show Steps p.tables e below (T152.setTop (mkF m 137 #[.val (.int p0), .val (.ref b65), .val (.ref (u 2))] [(.int p0), (.ref b65), (.ref (u 2))])) _
              refine X152.aaload hx (j := p0) (v := (.ref (u 2))) (by rw [e152]; exact Ar169.1) (State.isArrayOf_alike hZ.alike Ar169.2.1) rfl Ar169.2.2 hin169 (H169.at hin169 (by rw [hc167]; rfl)) (g := (mkF m 137 #[.val (.int p0), .val (.ref b65), .val (.ref (u 2))] [(.int p0), (.ref b65), (.ref (u 2))])) rfl rfl (hb hby d1_137) _ ?_
              show Steps p.tables e below (T152.setTop (mkF m 138 #[.val (.int p0), .val (.ref b65), .val (.ref (u 2))] [(.ref (u 2)), (.ref (u 2))])) _
              refine Jvm.RoadKit.acmp (g := (mkF m 138 #[.val (.int p0), .val (.ref b65), .val (.ref (u 2))] [(.ref (u 2)), (.ref (u 2))])) X152 hx rfl rfl rfl (pc0 := 138) (pc' := 141) (same := true) rfl (hb hby d1_138) rfl (decide_eq_true rfl) (by decide) (by decide) ?_
              show Steps p.tables e below (T152.setTop (mkF m 141 #[.val (.int p0), .val (.ref b65), .val (.ref (u 2))] [])) _
              refine XS.aloadN X152.here hx rfl (hb hby d1_141) rfl rfl ?_
              show Steps p.tables e below (T152.setTop (mkF m 142 #[.val (.int p0), .val (.ref b65), .val (.ref (u 2))] [(.ref (u 2))])) _
              refine st170.trans ?_
              show Steps p.tables e below (T170.setTop (mkF m 145 #[.val (.int p0), .val (.ref b65), .val (.ref (u 2))] [(.int (2 : Int32))])) _
              refine XS.iloadN X170.here hx rfl (hb hby d1_145) rfl ?_
              show Steps p.tables e below (T170.setTop (mkF m 146 #[.val (.int p0), .val (.ref b65), .val (.ref (u 2))] [(.int p0), (.int (2 : Int32))])) _
              refine XS.icmpNo X170.here hx rfl (hb hby d1_146) rfl (teq (Eq.symm hc167)).2 ?_
              show Steps p.tables e below (T170.setTop (mkF m 149 #[.val (.int p0), .val (.ref b65), .val (.ref (u 2))] [])) _
              refine XS.iconst X170.here hx rfl (hb hby d1_149) ?_
              show Steps p.tables e below (T170.setTop (mkF m 150 #[.val (.int p0), .val (.ref b65), .val (.ref (u 2))] [(.int (1 : Int32))])) _
              refine XS.goto X170.here hx rfl (pc0 := 150) (pc' := 154) rfl (hb hby d1_150) (by decide) (by decide) ?_
              show Steps p.tables e below (T170.setTop (mkF m 154 #[.val (.int p0), .val (.ref b65), .val (.ref (u 2))] [(.int (1 : Int32))])) _
              exact retN X170 hx (t := .boolean) Bd.returns (by simp) (hb hby d1_154) hr
            · show own_Q1 Z u p0 h0 n0 _ T170.heap _
              rw [e170]
              exact ⟨rfl, N170, own_ext K148⟩
          · --
            by_cases hc172 : p0 = (3 : Int32)
            · --
              obtain rfl : vr152 = some (.ref (u 3)) := hv152.trans (by unfold own_r2; rw [if_neg hc153, if_pos hc156, if_neg hc157, if_neg hc162, if_neg hc167, if_pos hc172])
              have pre173 : ∀ t, Steps p.tables e below (T152.setTop (mkF m 137 #[.val (.int p0), .val (.ref b65), .val (.ref (u 3))] [(.int p0), (.ref b65), (.ref (u 3))])) t → Steps p.tables e below (s₁.setTop (entryFrame m #[(.int p0)] 3)) t := fun t kt => pre151 t (by
                show Steps p.tables e below (T148.setTop (mkF m 120 #[.val (.int p0), .val (.ref b65), .unset] [(.int p0)])) _
                refine st152 _ ?_
                show Steps p.tables e below (T152.setTop (mkF m 123 #[.val (.int p0), .val (.ref b65), .unset] [(.ref (u 3))])) _
                refine XS.astoreN X152.here hx rfl (hb hby d1_123) rfl rfl (l' := #[.val (.int p0), .val (.ref b65), .val (.ref (u 3))]) rfl ?_
                show Steps p.tables e below (T152.setTop (mkF m 124 #[.val (.int p0), .val (.ref b65), .val (.ref (u 3))] [])) _
                refine XS.iloadN X152.here hx rfl (hb hby d1_124) rfl ?_
                show Steps p.tables e below (T152.setTop (mkF m 125 #[.val (.int p0), .val (.ref b65), .val (.ref (u 3))] [(.int p0)])) _
                refine XS.ifNo X152.here hx rfl (hb hby d1_125) rfl ((if0 _ _).trans (flt hc153).1) ?_
                show Steps p.tables e below (T152.setTop (mkF m 128 #[.val (.int p0), .val (.ref b65), .val (.ref (u 3))] [])) _
                refine XS.iloadN X152.here hx rfl (hb hby d1_128) rfl ?_
                show Steps p.tables e below (T152.setTop (mkF m 129 #[.val (.int p0), .val (.ref b65), .val (.ref (u 3))] [(.int p0)])) _
                refine XS.bipush X152.here hx rfl (hb hby d1_129) ?_
                show Steps p.tables e below (T152.setTop (mkF m 131 #[.val (.int p0), .val (.ref b65), .val (.ref (u 3))] [(.int (16 : Int32)), (.int p0)])) _
                refine XS.icmpNo X152.here hx rfl (hb hby d1_131) rfl (flt (by rw [hc172]; decide : ¬ ((16 : Int32) < p0))).2.2.1 ?_
                show Steps p.tables e below (T152.setTop (mkF m 134 #[.val (.int p0), .val (.ref b65), .val (.ref (u 3))] [])) _
                refine XS.aloadN X152.here hx rfl (hb hby d1_134) rfl rfl ?_
                show Steps p.tables e below (T152.setTop (mkF m 135 #[.val (.int p0), .val (.ref b65), .val (.ref (u 3))] [(.ref (u 3))])) _
                refine XS.aloadN X152.here hx rfl (hb hby d1_135) rfl rfl ?_
                show Steps p.tables e below (T152.setTop (mkF m 136 #[.val (.int p0), .val (.ref b65), .val (.ref (u 3))] [(.ref b65), (.ref (u 3))])) _
                refine XS.iloadN X152.here hx rfl (hb hby d1_136) rfl ?_
                exact kt)
              obtain ⟨cl174, Ar174, -, S174, N174, H174, -⟩ := id V148
              have hin174 : ¬ (p0 < 0 ∨ cl174.slots.size ≤ (p0).toNatClampNeg) := by rw [hc172]; exact inb_of S174 ⟨by decide, by decide⟩
              obtain ⟨cq175, kq175, q175a, q175b, q175c⟩ := isOf hZ e152 (B.2.2.2.2.2.2.2.1.ext O148.2)
              obtain ⟨vr175, _, ⟨T175, L175, k175, n175⟩, -, X175, ⟨Lc175, hQ175, l175, y175, z175⟩, st175⟩ := X152.virtualBack hx (y := (⟨"com/example/trailwire/trailwire/status/StatusCode", "number", "()I"⟩ : MethodName)) (z := (⟨"com/example/trailwire/trailwire/status/StatusCode", "number", "()I"⟩ : MethodName)) hown (mvT hZ (hw _ (List.mem_of_getElem? (i := 48) rfl))) (mvT hZ (hw _ (List.mem_of_getElem? (i := 49) rfl))) (notFace_of_selects (args := #[]) (mvT hZ (hw _ (List.mem_of_getElem? (i := 51) rfl)))) (mvT hZ (hw _ (List.mem_of_getElem? (i := 51) rfl))) (mvT hZ (hw _ (List.mem_of_getElem? (i := 50) rfl))) (by decide) (backOf (W := 0) (rm3 l Z a0 hw [] u (u 3) (3 : Int32) B h148 n0 O148 (B.2.2.2.2.2.2.2.2.2.2.2.2.2.2.2.2.2.2.2.2.2.2.2.2.2.2.2.2.2.2.2.2.2.2.2.2.2.2.1.ext O148.2)) hZ (hw _ (List.mem_of_getElem? (i := 52) rfl)) (hw _ (List.mem_of_getElem? (i := 7) rfl)) (by decide) (by decide)) q175a q175c (g := (mkF m 142 #[.val (.int p0), .val (.ref b65), .val (.ref (u 3))] [(.ref (u 3))])) rfl (by rw [hml]; rfl) (Steps.refl _) (argsL := []) (rest := []) (lenOf own_pd1 rfl) rfl (by show 2 * 0 + _ ≤ _; exact Nat.le_of_eq rfl) (hb hby d1_142) (fun _ _ => ⟨rfl, e152, (by decide : 1 + 0 ≤ _), (by decide : 17 + 0 ≤ _)⟩)
              dsimp only [Pt.U, Pt.locs, Pt.cells, Pt.slots] at X175 l175 y175 z175 st175 hQ175
              subst l175 y175 z175
              obtain ⟨rfl, N175q, e175⟩ := hQ175
              have N175 := Fr.app N152 N175q
              obtain ⟨fs, hr, hrun, hended, hW, hsame⟩ := X175.leave (v := some (.int (1 : Int32))) (fun h => by rw [Bd.returns] at h; cases h)
              refine ⟨_, _, pre173 _ ?_, hrun, hended, _, _, rfl, ?_, ⟨_, rfl⟩, hW, hsame.mono (by decide) (by decide)⟩
              · show Steps p.tables e below (T152.setTop (mkF m 137 #[.val (.int p0), .val (.ref b65), .val (.ref (u 3))] [(.int p0), (.ref b65), (.ref (u 3))])) _
                refine X152.aaload hx (j := p0) (v := (.ref (u 3))) (by rw [e152]; exact Ar174.1) (State.isArrayOf_alike hZ.alike Ar174.2.1) rfl Ar174.2.2 hin174 (H174.at hin174 (by rw [hc172]; rfl)) (g := (mkF m 137 #[.val (.int p0), .val (.ref b65), .val (.ref (u 3))] [(.int p0), (.ref b65), (.ref (u 3))])) rfl rfl (hb hby d1_137) _ ?_
                show Steps p.tables e below (T152.setTop (mkF m 138 #[.val (.int p0), .val (.ref b65), .val (.ref (u 3))] [(.ref (u 3)), (.ref (u 3))])) _
                refine Jvm.RoadKit.acmp (g := (mkF m 138 #[.val (.int p0), .val (.ref b65), .val (.ref (u 3))] [(.ref (u 3)), (.ref (u 3))])) X152 hx rfl rfl rfl (pc0 := 138) (pc' := 141) (same := true) rfl (hb hby d1_138) rfl (decide_eq_true rfl) (by decide) (by decide) ?_
                show Steps p.tables e below (T152.setTop (mkF m 141 #[.val (.int p0), .val (.ref b65), .val (.ref (u 3))] [])) _
                refine XS.aloadN X152.here hx rfl (hb hby d1_141) rfl rfl ?_
                show Steps p.tables e below (T152.setTop (mkF m 142 #[.val (.int p0), .val (.ref b65), .val (.ref (u 3))] [(.ref (u 3))])) _
                refine st175.trans ?_
                show Steps p.tables e below (T175.setTop (mkF m 145 #[.val (.int p0), .val (.ref b65), .val (.ref (u 3))] [(.int (3 : Int32))])) _
                refine XS.iloadN X175.here hx rfl (hb hby d1_145) rfl ?_
                show Steps p.tables e below (T175.setTop (mkF m 146 #[.val (.int p0), .val (.ref b65), .val (.ref (u 3))] [(.int p0), (.int (3 : Int32))])) _
                refine XS.icmpNo X175.here hx rfl (hb hby d1_146) rfl (teq (Eq.symm hc172)).2 ?_
                show Steps p.tables e below (T175.setTop (mkF m 149 #[.val (.int p0), .val (.ref b65), .val (.ref (u 3))] [])) _
                refine XS.iconst X175.here hx rfl (hb hby d1_149) ?_
                show Steps p.tables e below (T175.setTop (mkF m 150 #[.val (.int p0), .val (.ref b65), .val (.ref (u 3))] [(.int (1 : Int32))])) _
                refine XS.goto X175.here hx rfl (pc0 := 150) (pc' := 154) rfl (hb hby d1_150) (by decide) (by decide) ?_
                show Steps p.tables e below (T175.setTop (mkF m 154 #[.val (.int p0), .val (.ref b65), .val (.ref (u 3))] [(.int (1 : Int32))])) _
                exact retN X175 hx (t := .boolean) Bd.returns (by simp) (hb hby d1_154) hr
              · show own_Q1 Z u p0 h0 n0 _ T175.heap _
                rw [e175]
                exact ⟨rfl, N175, own_ext K148⟩
            · --
              by_cases hc177 : p0 = (4 : Int32)
              · --
                obtain rfl : vr152 = some (.ref (u 4)) := hv152.trans (by unfold own_r2; rw [if_neg hc153, if_pos hc156, if_neg hc157, if_neg hc162, if_neg hc167, if_neg hc172, if_pos hc177])
                have pre178 : ∀ t, Steps p.tables e below (T152.setTop (mkF m 137 #[.val (.int p0), .val (.ref b65), .val (.ref (u 4))] [(.int p0), (.ref b65), (.ref (u 4))])) t → Steps p.tables e below (s₁.setTop (entryFrame m #[(.int p0)] 3)) t := fun t kt => pre151 t (by
                  show Steps p.tables e below (T148.setTop (mkF m 120 #[.val (.int p0), .val (.ref b65), .unset] [(.int p0)])) _
                  refine st152 _ ?_
                  show Steps p.tables e below (T152.setTop (mkF m 123 #[.val (.int p0), .val (.ref b65), .unset] [(.ref (u 4))])) _
                  refine XS.astoreN X152.here hx rfl (hb hby d1_123) rfl rfl (l' := #[.val (.int p0), .val (.ref b65), .val (.ref (u 4))]) rfl ?_
                  show Steps p.tables e below (T152.setTop (mkF m 124 #[.val (.int p0), .val (.ref b65), .val (.ref (u 4))] [])) _
                  refine XS.iloadN X152.here hx rfl (hb hby d1_124) rfl ?_
                  show Steps p.tables e below (T152.setTop (mkF m 125 #[.val (.int p0), .val (.ref b65), .val (.ref (u 4))] [(.int p0)])) _
                  refine XS.ifNo X152.here hx rfl (hb hby d1_125) rfl ((if0 _ _).trans (flt hc153).1) ?_
                  show Steps p.tables e below (T152.setTop (mkF m 128 #[.val (.int p0), .val (.ref b65), .val (.ref (u 4))] [])) _
                  refine XS.iloadN X152.here hx rfl (hb hby d1_128) rfl ?_
                  show Steps p.tables e below (T152.setTop (mkF m 129 #[.val (.int p0), .val (.ref b65), .val (.ref (u 4))] [(.int p0)])) _
                  refine XS.bipush X152.here hx rfl (hb hby d1_129) ?_
                  show Steps p.tables e below (T152.setTop (mkF m 131 #[.val (.int p0), .val (.ref b65), .val (.ref (u 4))] [(.int (16 : Int32)), (.int p0)])) _
                  refine XS.icmpNo X152.here hx rfl (hb hby d1_131) rfl (flt (by rw [hc177]; decide : ¬ ((16 : Int32) < p0))).2.2.1 ?_
                  show Steps p.tables e below (T152.setTop (mkF m 134 #[.val (.int p0), .val (.ref b65), .val (.ref (u 4))] [])) _
                  refine XS.aloadN X152.here hx rfl (hb hby d1_134) rfl rfl ?_
                  show Steps p.tables e below (T152.setTop (mkF m 135 #[.val (.int p0), .val (.ref b65), .val (.ref (u 4))] [(.ref (u 4))])) _
                  refine XS.aloadN X152.here hx rfl (hb hby d1_135) rfl rfl ?_
                  show Steps p.tables e below (T152.setTop (mkF m 136 #[.val (.int p0), .val (.ref b65), .val (.ref (u 4))] [(.ref b65), (.ref (u 4))])) _
                  refine XS.iloadN X152.here hx rfl (hb hby d1_136) rfl ?_
                  exact kt)
                obtain ⟨cl179, Ar179, -, S179, N179, H179, -⟩ := id V148
                have hin179 : ¬ (p0 < 0 ∨ cl179.slots.size ≤ (p0).toNatClampNeg) := by rw [hc177]; exact inb_of S179 ⟨by decide, by decide⟩
                obtain ⟨cq180, kq180, q180a, q180b, q180c⟩ := isOf hZ e152 (B.2.2.2.2.2.2.2.2.2.1.ext O148.2)
                obtain ⟨vr180, _, ⟨T180, L180, k180, n180⟩, -, X180, ⟨Lc180, hQ180, l180, y180, z180⟩, st180⟩ := X152.virtualBack hx (y := (⟨"com/example/trailwire/trailwire/status/StatusCode", "number", "()I"⟩ : MethodName)) (z := (⟨"com/example/trailwire/trailwire/status/StatusCode", "number", "()I"⟩ : MethodName)) hown (mvT hZ (hw _ (List.mem_of_getElem? (i := 48) rfl))) (mvT hZ (hw _ (List.mem_of_getElem? (i := 49) rfl))) (notFace_of_selects (args := #[]) (mvT hZ (hw _ (List.mem_of_getElem? (i := 51) rfl)))) (mvT hZ (hw _ (List.mem_of_getElem? (i := 51) rfl))) (mvT hZ (hw _ (List.mem_of_getElem? (i := 50) rfl))) (by decide) (backOf (W := 0) (rm3 l Z a0 hw [] u (u 4) (4 : Int32) B h148 n0 O148 (B.2.2.2.2.2.2.2.2.2.2.2.2.2.2.2.2.2.2.2.2.2.2.2.2.2.2.2.2.2.2.2.2.2.2.2.2.2.2.2.1.ext O148.2)) hZ (hw _ (List.mem_of_getElem? (i := 52) rfl)) (hw _ (List.mem_of_getElem? (i := 7) rfl)) (by decide) (by decide)) q180a q180c (g := (mkF m 142 #[.val (.int p0), .val (.ref b65), .val (.ref (u 4))] [(.ref (u 4))])) rfl (by rw [hml]; rfl) (Steps.refl _) (argsL := []) (rest := []) (lenOf own_pd1 rfl) rfl (by show 2 * 0 + _ ≤ _; exact Nat.le_of_eq rfl) (hb hby d1_142) (fun _ _ => ⟨rfl, e152, (by decide : 1 + 0 ≤ _), (by decide : 17 + 0 ≤ _)⟩)
                dsimp only [Pt.U, Pt.locs, Pt.cells, Pt.slots] at X180 l180 y180 z180 st180 hQ180
                subst l180 y180 z180
                obtain ⟨rfl, N180q, e180⟩ := hQ180
                have N180 := Fr.app N152 N180q
                obtain ⟨fs, hr, hrun, hended, hW, hsame⟩ := X180.leave (v := some (.int (1 : Int32))) (fun h => by rw [Bd.returns] at h; cases h)
                refine ⟨_, _, pre178 _ ?_, hrun, hended, _, _, rfl, ?_, ⟨_, rfl⟩, hW, hsame.mono (by decide) (by decide)⟩
                · show Steps p.tables e below (T152.setTop (mkF m 137 #[.val (.int p0), .val (.ref b65), .val (.ref (u 4))] [(.int p0), (.ref b65), (.ref (u 4))])) _
                  refine X152.aaload hx (j := p0) (v := (.ref (u 4))) (by rw [e152]; exact Ar179.1) (State.isArrayOf_alike hZ.alike Ar179.2.1) rfl Ar179.2.2 hin179 (H179.at hin179 (by rw [hc177]; rfl)) (g := (mkF m 137 #[.val (.int p0), .val (.ref b65), .val (.ref (u 4))] [(.int p0), (.ref b65), (.ref (u 4))])) rfl rfl (hb hby d1_137) _ ?_
                  show Steps p.tables e below (T152.setTop (mkF m 138 #[.val (.int p0), .val (.ref b65), .val (.ref (u 4))] [(.ref (u 4)), (.ref (u 4))])) _
                  refine Jvm.RoadKit.acmp (g := (mkF m 138 #[.val (.int p0), .val (.ref b65), .val (.ref (u 4))] [(.ref (u 4)), (.ref (u 4))])) X152 hx rfl rfl rfl (pc0 := 138) (pc' := 141) (same := true) rfl (hb hby d1_138) rfl (decide_eq_true rfl) (by decide) (by decide) ?_
                  show Steps p.tables e below (T152.setTop (mkF m 141 #[.val (.int p0), .val (.ref b65), .val (.ref (u 4))] [])) _
                  refine XS.aloadN X152.here hx rfl (hb hby d1_141) rfl rfl ?_
                  show Steps p.tables e below (T152.setTop (mkF m 142 #[.val (.int p0), .val (.ref b65), .val (.ref (u 4))] [(.ref (u 4))])) _
                  refine st180.trans ?_
                  show Steps p.tables e below (T180.setTop (mkF m 145 #[.val (.int p0), .val (.ref b65), .val (.ref (u 4))] [(.int (4 : Int32))])) _
                  refine XS.iloadN X180.here hx rfl (hb hby d1_145) rfl ?_
                  show Steps p.tables e below (T180.setTop (mkF m 146 #[.val (.int p0), .val (.ref b65), .val (.ref (u 4))] [(.int p0), (.int (4 : Int32))])) _
                  refine XS.icmpNo X180.here hx rfl (hb hby d1_146) rfl (teq (Eq.symm hc177)).2 ?_
                  show Steps p.tables e below (T180.setTop (mkF m 149 #[.val (.int p0), .val (.ref b65), .val (.ref (u 4))] [])) _
                  refine XS.iconst X180.here hx rfl (hb hby d1_149) ?_
                  show Steps p.tables e below (T180.setTop (mkF m 150 #[.val (.int p0), .val (.ref b65), .val (.ref (u 4))] [(.int (1 : Int32))])) _
                  refine XS.goto X180.here hx rfl (pc0 := 150) (pc' := 154) rfl (hb hby d1_150) (by decide) (by decide) ?_
                  show Steps p.tables e below (T180.setTop (mkF m 154 #[.val (.int p0), .val (.ref b65), .val (.ref (u 4))] [(.int (1 : Int32))])) _
                  exact retN X180 hx (t := .boolean) Bd.returns (by simp) (hb hby d1_154) hr
                · show own_Q1 Z u p0 h0 n0 _ T180.heap _
                  rw [e180]
                  exact ⟨rfl, N180, own_ext K148⟩
              · --
                by_cases hc182 : p0 = (5 : Int32)
                · --
                  obtain rfl : vr152 = some (.ref (u 5)) := hv152.trans (by unfold own_r2; rw [if_neg hc153, if_pos hc156, if_neg hc157, if_neg hc162, if_neg hc167, if_neg hc172, if_neg hc177, if_pos hc182])
                  have pre183 : ∀ t, Steps p.tables e below (T152.setTop (mkF m 137 #[.val (.int p0), .val (.ref b65), .val (.ref (u 5))] [(.int p0), (.ref b65), (.ref (u 5))])) t → Steps p.tables e below (s₁.setTop (entryFrame m #[(.int p0)] 3)) t := fun t kt => pre151 t (by
                    show Steps p.tables e below (T148.setTop (mkF m 120 #[.val (.int p0), .val (.ref b65), .unset] [(.int p0)])) _
                    refine st152 _ ?_
                    show Steps p.tables e below (T152.setTop (mkF m 123 #[.val (.int p0), .val (.ref b65), .unset] [(.ref (u 5))])) _
                    refine XS.astoreN X152.here hx rfl (hb hby d1_123) rfl rfl (l' := #[.val (.int p0), .val (.ref b65), .val (.ref (u 5))]) rfl ?_
                    show Steps p.tables e below (T152.setTop (mkF m 124 #[.val (.int p0), .val (.ref b65), .val (.ref (u 5))] [])) _
                    refine XS.iloadN X152.here hx rfl (hb hby d1_124) rfl ?_
                    show Steps p.tables e below (T152.setTop (mkF m 125 #[.val (.int p0), .val (.ref b65), .val (.ref (u 5))] [(.int p0)])) _
                    refine XS.ifNo X152.here hx rfl (hb hby d1_125) rfl ((if0 _ _).trans (flt hc153).1) ?_
                    show Steps p.tables e below (T152.setTop (mkF m 128 #[.val (.int p0), .val (.ref b65), .val (.ref (u 5))] [])) _
                    refine XS.iloadN X152.here hx rfl (hb hby d1_128) rfl ?_
                    show Steps p.tables e below (T152.setTop (mkF m 129 #[.val (.int p0), .val (.ref b65), .val (.ref (u 5))] [(.int p0)])) _
                    refine XS.bipush X152.here hx rfl (hb hby d1_129) ?_
                    show Steps p.tables e below (T152.setTop (mkF m 131 #[.val (.int p0), .val (.ref b65), .val (.ref (u 5))] [(.int (16 : Int32)), (.int p0)])) _
                    refine XS.icmpNo X152.here hx rfl (hb hby d1_131) rfl (flt (by rw [hc182]; decide : ¬ ((16 : Int32) < p0))).2.2.1 ?_
                    show Steps p.tables e below (T152.setTop (mkF m 134 #[.val (.int p0), .val (.ref b65), .val (.ref (u 5))] [])) _
                    refine XS.aloadN X152.here hx rfl (hb hby d1_134) rfl rfl ?_
                    show Steps p.tables e below (T152.setTop (mkF m 135 #[.val (.int p0), .val (.ref b65), .val (.ref (u 5))] [(.ref (u 5))])) _
                    refine XS.aloadN X152.here hx rfl (hb hby d1_135) rfl rfl ?_
                    show Steps p.tables e below (T152.setTop (mkF m 136 #[.val (.int p0), .val (.ref b65), .val (.ref (u 5))] [(.ref b65), (.ref (u 5))])) _
                    refine XS.iloadN X152.here hx rfl (hb hby d1_136) rfl ?_
                    exact kt)
                  obtain ⟨cl184, Ar184, -, S184, N184, H184, -⟩ := id V148
                  have hin184 : ¬ (p0 < 0 ∨ cl184.slots.size ≤ (p0).toNatClampNeg) := by rw [hc182]; exact inb_of S184 ⟨by decide, by decide⟩
                  obtain ⟨cq185, kq185, q185a, q185b, q185c⟩ := isOf hZ e152 (B.2.2.2.2.2.2.2.2.2.2.2.1.ext O148.2)
                  obtain ⟨vr185, _, ⟨T185, L185, k185, n185⟩, -, X185, ⟨Lc185, hQ185, l185, y185, z185⟩, st185⟩ := X152.virtualBack hx (y := (⟨"com/example/trailwire/trailwire/status/StatusCode", "number", "()I"⟩ : MethodName)) (z := (⟨"com/example/trailwire/trailwire/status/StatusCode", "number", "()I"⟩ : MethodName)) hown (mvT hZ (hw _ (List.mem_of_getElem? (i := 48) rfl))) (mvT hZ (hw _ (List.mem_of_getElem? (i := 49) rfl))) (notFace_of_selects (args := #[]) (mvT hZ (hw _ (List.mem_of_getElem? (i := 51) rfl)))) (mvT hZ (hw _ (List.mem_of_getElem? (i := 51) rfl))) (mvT hZ (hw _ (List.mem_of_getElem? (i := 50) rfl))) (by decide) (backOf (W := 0) (rm3 l Z a0 hw [] u (u 5) (5 : Int32) B h148 n0 O148 (B.2.2.2.2.2.2.2.2.2.2.2.2.2.2.2.2.2.2.2.2.2.2.2.2.2.2.2.2.2.2.2.2.2.2.2.2.2.2.2.2.1.ext O148.2)) hZ (hw _ (List.mem_of_getElem? (i := 52) rfl)) (hw _ (List.mem_of_getElem? (i := 7) rfl)) (by decide) (by decide)) q185a q185c (g := (mkF m 142 #[.val (.int p0), .val (.ref b65), .val (.ref (u 5))] [(.ref (u 5))])) rfl (by rw [hml]; rfl) (Steps.refl _) (argsL := []) (rest := []) (lenOf own_pd1 rfl) rfl (by show 2 * 0 + _ ≤ _; exact Nat.le_of_eq rfl) (hb hby d1_142) (fun _ _ => ⟨rfl, e152, (by decide : 1 + 0 ≤ _), (by decide : 17 + 0 ≤ _)⟩)
                  dsimp only [Pt.U, Pt.locs, Pt.cells, Pt.slots] at X185 l185 y185 z185 st185 hQ185
                  subst l185 y185 z185
                  obtain ⟨rfl, N185q, e185⟩ := hQ185
                  have N185 := Fr.app N152 N185q
                  obtain ⟨fs, hr, hrun, hended, hW, hsame⟩ := X185.leave (v := some (.int (1 : Int32))) (fun h => by rw [Bd.returns] at h; cases h)
                  refine ⟨_, _, pre183 _ ?_, hrun, hended, _, _, rfl, ?_, ⟨_, rfl⟩, hW, hsame.mono (by decide) (by decide)⟩
                  · show Steps p.tables e below (T152.setTop (mkF m 137 #[.val (.int p0), .val (.ref b65), .val (.ref (u 5))] [(.int p0), (.ref b65), (.ref (u 5))])) _
                    refine X152.aaload hx (j := p0) (v := (.ref (u 5))) (by rw [e152]; exact Ar184.1) (State.isArrayOf_alike hZ.alike Ar184.2.1) rfl Ar184.2.2 hin184 (H184.at hin184 (by rw [hc182]; rfl)) (g := (mkF m 137 #[.val (.int p0), .val (.ref b65), .val (.ref (u 5))] [(.int p0), (.ref b65), (.ref (u 5))])) rfl rfl (hb hby d1_137) _ ?_
                    show Steps p.tables e below (T152.setTop (mkF m 138 #[.val (.int p0), .val (.ref b65), .val (.ref (u 5))] [(.ref (u 5)), (.ref (u 5))])) _
                    refine Jvm.RoadKit.acmp (g := (mkF m 138 #[.val (.int p0), .val (.ref b65), .val (.ref (u 5))] [(.ref (u 5)), (.ref (u 5))])) X152 hx rfl rfl rfl (pc0 := 138) (pc' := 141) (same := true) rfl (hb hby d1_138) rfl (decide_eq_true rfl) (by decide) (by decide) ?_
                    show Steps p.tables e below (T152.setTop (mkF m 141 #[.val (.int p0), .val (.ref b65), .val (.ref (u 5))] [])) _
                    refine XS.aloadN X152.here hx rfl (hb hby d1_141) rfl rfl ?_
                    show Steps p.tables e below (T152.setTop (mkF m 142 #[.val (.int p0), .val (.ref b65), .val (.ref (u 5))] [(.ref (u 5))])) _
                    refine st185.trans ?_
                    show Steps p.tables e below (T185.setTop (mkF m 145 #[.val (.int p0), .val (.ref b65), .val (.ref (u 5))] [(.int (5 : Int32))])) _
                    refine XS.iloadN X185.here hx rfl (hb hby d1_145) rfl ?_
                    show Steps p.tables e below (T185.setTop (mkF m 146 #[.val (.int p0), .val (.ref b65), .val (.ref (u 5))] [(.int p0), (.int (5 : Int32))])) _
                    refine XS.icmpNo X185.here hx rfl (hb hby d1_146) rfl (teq (Eq.symm hc182)).2 ?_
                    show Steps p.tables e below (T185.setTop (mkF m 149 #[.val (.int p0), .val (.ref b65), .val (.ref (u 5))] [])) _
                    refine XS.iconst X185.here hx rfl (hb hby d1_149) ?_
                    show Steps p.tables e below (T185.setTop (mkF m 150 #[.val (.int p0), .val (.ref b65), .val (.ref (u 5))] [(.int (1 : Int32))])) _
                    refine XS.goto X185.here hx rfl (pc0 := 150) (pc' := 154) rfl (hb hby d1_150) (by decide) (by decide) ?_
                    show Steps p.tables e below (T185.setTop (mkF m 154 #[.val (.int p0), .val (.ref b65), .val (.ref (u 5))] [(.int (1 : Int32))])) _
                    exact retN X185 hx (t := .boolean) Bd.returns (by simp) (hb hby d1_154) hr
                  · show own_Q1 Z u p0 h0 n0 _ T185.heap _
                    rw [e185]
                    exact ⟨rfl, N185, own_ext K148⟩
                · --
                  by_cases hc187 : p0 = (6 : Int32)
                  · --
                    obtain rfl : vr152 = some (.ref (u 6)) := hv152.trans (by unfold own_r2; rw [if_neg hc153, if_pos hc156, if_neg hc157, if_neg hc162, if_neg hc167, if_neg hc172, if_neg hc177, if_neg hc182, if_pos hc187])
                    have pre188 : ∀ t, Steps p.tables e below (T152.setTop (mkF m 137 #[.val (.int p0), .val (.ref b65), .val (.ref (u 6))] [(.int p0), (.ref b65), (.ref (u 6))])) t → Steps p.tables e below (s₁.setTop (entryFrame m #[(.int p0)] 3)) t := fun t kt => pre151 t (by
                      show Steps p.tables e below (T148.setTop (mkF m 120 #[.val (.int p0), .val (.ref b65), .unset] [(.int p0)])) _
                      refine st152 _ ?_
                      show Steps p.tables e below (T152.setTop (mkF m 123 #[.val (.int p0), .val (.ref b65), .unset] [(.ref (u 6))])) _
                      refine XS.astoreN X152.here hx rfl (hb hby d1_123) rfl rfl (l' := #[.val (.int p0), .val (.ref b65), .val (.ref (u 6))]) rfl ?_
                      show Steps p.tables e below (T152.setTop (mkF m 124 #[.val (.int p0), .val (.ref b65), .val (.ref (u 6))] [])) _
                      refine XS.iloadN X152.here hx rfl (hb hby d1_124) rfl ?_
                      show Steps p.tables e below (T152.setTop (mkF m 125 #[.val (.int p0), .val (.ref b65), .val (.ref (u 6))] [(.int p0)])) _
                      refine XS.ifNo X152.here hx rfl (hb hby d1_125) rfl ((if0 _ _).trans (flt hc153).1) ?_
                      show Steps p.tables e below (T152.setTop (mkF m 128 #[.val (.int p0), .val (.ref b65), .val (.ref (u 6))] [])) _
                      refine XS.iloadN X152.here hx rfl (hb hby d1_128) rfl ?_
                      show Steps p.tables e below (T152.setTop (mkF m 129 #[.val (.int p0), .val (.ref b65), .val (.ref (u 6))] [(.int p0)])) _
                      refine XS.bipush X152.here hx rfl (hb hby d1_129) ?_
                      show Steps p.tables e below (T152.setTop (mkF m 131 #[.val (.int p0), .val (.ref b65), .val (.ref (u 6))] [(.int (16 : Int32)), (.int p0)])) _
                      refine XS.icmpNo X152.here hx rfl (hb hby d1_131) rfl (flt (by rw [hc187]; decide : ¬ ((16 : Int32) < p0))).2.2.1 ?_
                      show Steps p.tables e below (T152.setTop (mkF m 134 #[.val (.int p0), .val (.ref b65), .val (.ref (u 6))] [])) _
                      refine XS.aloadN X152.here hx rfl (hb hby d1_134) rfl rfl ?_
                      show Steps p.tables e below (T152.setTop (mkF m 135 #[.val (.int p0), .val (.ref b65), .val (.ref (u 6))] [(.ref (u 6))])) _
                      refine XS.aloadN X152.here hx rfl (hb hby d1_135) rfl rfl ?_
                      show Steps p.tables e below (T152.setTop (mkF m 136 #[.val (.int p0), .val (.ref b65), .val (.ref (u 6))] [(.ref b65), (.ref (u 6))])) _
                      refine XS.iloadN X152.here hx rfl (hb hby d1_136) rfl ?_
                      exact kt)
                    obtain ⟨cl189, Ar189, -, S189, N189, H189, -⟩ := id V148
                    have hin189 : ¬ (p0 < 0 ∨ cl189.slots.size ≤ (p0).toNatClampNeg) := by rw [hc187]; exact inb_of S189 ⟨by decide, by decide⟩
                    obtain ⟨cq190, kq190, q190a, q190b, q190c⟩ := isOf hZ e152 (B.2.2.2.2.2.2.2.2.2.2.2.2.2.1.ext O148.2)
                    obtain ⟨vr190, _, ⟨T190, L190, k190, n190⟩, -, X190, ⟨Lc190, hQ190, l190, y190, z190⟩, st190⟩ := X152.virtualBack hx (y := (⟨"com/example/trailwire/trailwire/status/StatusCode", "number", "()I"⟩ : MethodName)) (z := (⟨"com/example/trailwire/trailwire/status/StatusCode", "number", "()I"⟩ : MethodName)) hown (mvT hZ (hw _ (List.mem_of_getElem? (i := 48) rfl))) (mvT hZ (hw _ (List.mem_of_getElem? (i := 49) rfl))) (notFace_of_selects (args := #[]) (mvT hZ (hw _ (List.mem_of_getElem? (i := 51) rfl)))) (mvT hZ (hw _ (List.mem_of_getElem? (i := 51) rfl))) (mvT hZ (hw _ (List.mem_of_getElem? (i := 50) rfl))) (by decide) (backOf (W := 0) (rm3 l Z a0 hw [] u (u 6) (6 : Int32) B h148 n0 O148 (B.2.2.2.2.2.2.2.2.2.2.2.2.2.2.2.2.2.2.2.2.2.2.2.2.2.2.2.2.2.2.2.2.2.2.2.2.2.2.2.2.2.1.ext O148.2)) hZ (hw _ (List.mem_of_getElem? (i := 52) rfl)) (hw _ (List.mem_of_getElem? (i := 7) rfl)) (by decide) (by decide)) q190a q190c (g := (mkF m 142 #[.val (.int p0), .val (.ref b65), .val (.ref (u 6))] [(.ref (u 6))])) rfl (by rw [hml]; rfl) (Steps.refl _) (argsL := []) (rest := []) (lenOf own_pd1 rfl) rfl (by show 2 * 0 + _ ≤ _; exact Nat.le_of_eq rfl) (hb hby d1_142) (fun _ _ => ⟨rfl, e152, (by decide : 1 + 0 ≤ _), (by decide : 17 + 0 ≤ _)⟩)
                    dsimp only [Pt.U, Pt.locs, Pt.cells, Pt.slots] at X190 l190 y190 z190 st190 hQ190
                    subst l190 y190 z190
                    obtain ⟨rfl, N190q, e190⟩ := hQ190
                    have N190 := Fr.app N152 N190q
                    obtain ⟨fs, hr, hrun, hended, hW, hsame⟩ := X190.leave (v := some (.int (1 : Int32))) (fun h => by rw [Bd.returns] at h; cases h)
                    refine ⟨_, _, pre188 _ ?_, hrun, hended, _, _, rfl, ?_, ⟨_, rfl⟩, hW, hsame.mono (by decide) (by decide)⟩
                    · show Steps p.tables e below (T152.setTop (mkF m 137 #[.val (.int p0), .val (.ref b65), .val (.ref (u 6))] [(.int p0), (.ref b65), (.ref (u 6))])) _
                      refine X152.aaload hx (j := p0) (v := (.ref (u 6))) (by rw [e152]; exact Ar189.1) (State.isArrayOf_alike hZ.alike Ar189.2.1) rfl Ar189.2.2 hin189 (H189.at hin189 (by rw [hc187]; rfl)) (g := (mkF m 137 #[.val (.int p0), .val (.ref b65), .val (.ref (u 6))] [(.int p0), (.ref b65), (.ref (u 6))])) rfl rfl (hb hby d1_137) _ ?_
                      show Steps p.tables e below (T152.setTop (mkF m 138 #[.val (.int p0), .val (.ref b65), .val (.ref (u 6))] [(.ref (u 6)), (.ref (u 6))])) _
                      refine Jvm.RoadKit.acmp (g := (mkF m 138 #[.val (.int p0), .val (.ref b65), .val (.ref (u 6))] [(.ref (u 6)), (.ref (u 6))])) X152 hx rfl rfl rfl (pc0 := 138) (pc' := 141) (same := true) rfl (hb hby d1_138) rfl (decide_eq_true rfl) (by decide) (by decide) ?_
                      show Steps p.tables e below (T152.setTop (mkF m 141 #[.val (.int p0), .val (.ref b65), .val (.ref (u 6))] [])) _
                      refine XS.aloadN X152.here hx rfl (hb hby d1_141) rfl rfl ?_
                      show Steps p.tables e below (T152.setTop (mkF m 142 #[.val (.int p0), .val (.ref b65), .val (.ref (u 6))] [(.ref (u 6))])) _
                      refine st190.trans ?_
                      show Steps p.tables e below (T190.setTop (mkF m 145 #[.val (.int p0), .val (.ref b65), .val (.ref (u 6))] [(.int (6 : Int32))])) _
                      refine XS.iloadN X190.here hx rfl (hb hby d1_145) rfl ?_
                      show Steps p.tables e below (T190.setTop (mkF m 146 #[.val (.int p0), .val (.ref b65), .val (.ref (u 6))] [(.int p0), (.int (6 : Int32))])) _
                      refine XS.icmpNo X190.here hx rfl (hb hby d1_146) rfl (teq (Eq.symm hc187)).2 ?_
                      show Steps p.tables e below (T190.setTop (mkF m 149 #[.val (.int p0), .val (.ref b65), .val (.ref (u 6))] [])) _
                      refine XS.iconst X190.here hx rfl (hb hby d1_149) ?_
                      show Steps p.tables e below (T190.setTop (mkF m 150 #[.val (.int p0), .val (.ref b65), .val (.ref (u 6))] [(.int (1 : Int32))])) _
                      refine XS.goto X190.here hx rfl (pc0 := 150) (pc' := 154) rfl (hb hby d1_150) (by decide) (by decide) ?_
                      show Steps p.tables e below (T190.setTop (mkF m 154 #[.val (.int p0), .val (.ref b65), .val (.ref (u 6))] [(.int (1 : Int32))])) _
                      exact retN X190 hx (t := .boolean) Bd.returns (by simp) (hb hby d1_154) hr
                    · show own_Q1 Z u p0 h0 n0 _ T190.heap _
                      rw [e190]
                      exact ⟨rfl, N190, own_ext K148⟩
                  · --
                    by_cases hc192 : p0 = (7 : Int32)
                    · --
                      obtain rfl : vr152 = some (.ref (u 7)) := hv152.trans (by unfold own_r2; rw [if_neg hc153, if_pos hc156, if_neg hc157, if_neg hc162, if_neg hc167, if_neg hc172, if_neg hc177, if_neg hc182, if_neg hc187, if_pos hc192])
                      have pre193 : ∀ t, Steps p.tables e below (T152.setTop (mkF m 137 #[.val (.int p0), .val (.ref b65), .val (.ref (u 7))] [(.int p0), (.ref b65), (.ref (u 7))])) t → Steps p.tables e below (s₁.setTop (entryFrame m #[(.int p0)] 3)) t := fun t kt => pre151 t (by
                        show Steps p.tables e below (T148.setTop (mkF m 120 #[.val (.int p0), .val (.ref b65), .unset] [(.int p0)])) _
                        refine st152 _ ?_
                        show Steps p.tables e below (T152.setTop (mkF m 123 #[.val (.int p0), .val (.ref b65), .unset] [(.ref (u 7))])) _
                        refine XS.astoreN X152.here hx rfl (hb hby d1_123) rfl rfl (l' := #[.val (.int p0), .val (.ref b65), .val (.ref (u 7))]) rfl ?_
                        show Steps p.tables e below (T152.setTop (mkF m 124 #[.val (.int p0), .val (.ref b65), .val (.ref (u 7))] [])) _
                        refine XS.iloadN X152.here hx rfl (hb hby d1_124) rfl ?_
                        show Steps p.tables e below (T152.setTop (mkF m 125 #[.val (.int p0), .val (.ref b65), .val (.ref (u 7))] [(.int p0)])) _
                        refine XS.ifNo X152.here hx rfl (hb hby d1_125) rfl ((if0 _ _).trans (flt hc153).1) ?_
                        show Steps p.tables e below (T152.setTop (mkF m 128 #[.val (.int p0), .val (.ref b65), .val (.ref (u 7))] [])) _
                        refine XS.iloadN X152.here hx rfl (hb hby d1_128) rfl ?_
                        show Steps p.tables e below (T152.setTop (mkF m 129 #[.val (.int p0), .val (.ref b65), .val (.ref (u 7))] [(.int p0)])) _
                        refine XS.bipush X152.here hx rfl (hb hby d1_129) ?_
                        show Steps p.tables e below (T152.setTop (mkF m 131 #[.val (.int p0), .val (.ref b65), .val (.ref (u 7))] [(.int (16 : Int32)), (.int p0)])) _
                        refine XS.icmpNo X152.here hx rfl (hb hby d1_131) rfl (flt (by rw [hc192]; decide : ¬ ((16 : Int32) < p0))).2.2.1 ?_
                        show Steps p.tables e below (T152.setTop (mkF m 134 #[.val (.int p0), .val (.ref b65), .val (.ref (u 7))] [])) _
                        refine XS.aloadN X152.here hx rfl (hb hby d1_134) rfl rfl ?_
                        show Steps p.tables e below (T152.setTop (mkF m 135 #[.val (.int p0), .val (.ref b65), .val (.ref (u 7))] [(.ref (u 7))])) _
                        refine XS.aloadN X152.here hx rfl (hb hby d1_135) rfl rfl ?_
                        show Steps p.tables e below (T152.setTop (mkF m 136 #[.val (.int p0), .val (.ref b65), .val (.ref (u 7))] [(.ref b65), (.ref (u 7))])) _
                        refine XS.iloadN X152.here hx rfl (hb hby d1_136) rfl ?_
                        exact kt)
                      obtain ⟨cl194, Ar194, -, S194, N194, H194, -⟩ := id V148
                      have hin194 : ¬ (p0 < 0 ∨ cl194.slots.size ≤ (p0).toNatClampNeg) := by rw [hc192]; exact inb_of S194 ⟨by decide, by decide⟩
                      obtain ⟨cq195, kq195, q195a, q195b, q195c⟩ := isOf hZ e152 (B.2.2.2.2.2.2.2.2.2.2.2.2.2.2.2.1.ext O148.2)
                      obtain ⟨vr195, _, ⟨T195, L195, k195, n195⟩, -, X195, ⟨Lc195, hQ195, l195, y195, z195⟩, st195⟩ := X152.virtualBack hx (y := (⟨"com/example/trailwire/trailwire/status/StatusCode", "number", "()I"⟩ : MethodName)) (z := (⟨"com/example/trailwire/trailwire/status/StatusCode", "number", "()I"⟩ : MethodName)) hown (mvT hZ (hw _ (List.mem_of_getElem? (i := 48) rfl))) (mvT hZ (hw _ (List.mem_of_getElem? (i := 49) rfl))) (notFace_of_selects (args := #[]) (mvT hZ (hw _ (List.mem_of_getElem? (i := 51) rfl)))) (mvT hZ (hw _ (List.mem_of_getElem? (i := 51) rfl))) (mvT hZ (hw _ (List.mem_of_getElem? (i := 50) rfl))) (by decide) (backOf (W := 0) (rm3 l Z a0 hw [] u (u 7) (7 : Int32) B h148 n0 O148 (B.2.2.2.2.2.2.2.2.2.2.2.2.2.2.2.2.2.2.2.2.2.2.2.2.2.2.2.2.2.2.2.2.2.2.2.2.2.2.2.2.2.2.1.ext O148.2)) hZ (hw _ (List.mem_of_getElem? (i := 52) rfl)) (hw _ (List.mem_of_getElem? (i := 7) rfl)) (by decide) (by decide)) q195a q195c (g := (mkF m 142 #[.val (.int p0), .val (.ref b65), .val (.ref (u 7))] [(.ref (u 7))])) rfl (by rw [hml]; rfl) (Steps.refl _) (argsL := []) (rest := []) (lenOf own_pd1 rfl) rfl (by show 2 * 0 + _ ≤ _; exact Nat.le_of_eq rfl) (hb hby d1_142) (fun _ _ => ⟨rfl, e152, (by decide : 1 + 0 ≤ _), (by decide : 17 + 0 ≤ _)⟩)
                      dsimp only [Pt.U, Pt.locs, Pt.cells, Pt.slots] at X195 l195 y195 z195 st195 hQ195
                      subst l195 y195 z195
                      obtain ⟨rfl, N195q, e195⟩ := hQ195
                      have N195 := Fr.app N152 N195q
                      obtain ⟨fs, hr, hrun, hended, hW, hsame⟩ := X195.leave (v := some (.int (1 : Int32))) (fun h => by rw [Bd.returns] at h; cases h)
                      refine ⟨_, _, pre193 _ ?_, hrun, hended, _, _, rfl, ?_, ⟨_, rfl⟩, hW, hsame.mono (by decide) (by decide)⟩
                      · show Steps p.tables e below (T152.setTop (mkF m 137 #[.val (.int p0), .val (.ref b65), .val (.ref (u 7))] [(.int p0), (.ref b65), (.ref (u 7))])) _
                        refine X152.aaload hx (j := p0) (v := (.ref (u 7))) (by rw [e152]; exact Ar194.1) (State.isArrayOf_alike hZ.alike Ar194.2.1) rfl Ar194.2.2 hin194 (H194.at hin194 (by rw [hc192]; rfl)) (g := (mkF m 137 #[.val (.int p0), .val (.ref b65), .val (.ref (u 7))] [(.int p0), (.ref b65), (.ref (u 7))])) rfl rfl (hb hby d1_137) _ ?_
                        show Steps p.tables e below (T152.setTop (mkF m 138 #[.val (.int p0), .val (.ref b65), .val (.ref (u 7))] [(.ref (u 7)), (.ref (u 7))])) _
                        refine Jvm.RoadKit.acmp (g := (mkF m 138 #[.val (.int p0), .val (.ref b65), .val (.ref (u 7))] [(.ref (u 7)), (.ref (u 7))])) X152 hx rfl rfl rfl (pc0 := 138) (pc' := 141) (same := true) rfl (hb hby d1_138) rfl (decide_eq_true rfl) (by decide) (by decide) ?_
                        show Steps p.tables e below (T152.setTop (mkF m 141 #[.val (.int p0), .val (.ref b65), .val (.ref (u 7))] [])) _
                        refine XS.aloadN X152.here hx rfl (hb hby d1_141) rfl rfl ?_
                        show Steps p.tables e below (T152.setTop (mkF m 142 #[.val (.int p0), .val (.ref b65), .val (.ref (u 7))] [(.ref (u 7))])) _
                        refine st195.trans ?_
                        show Steps p.tables e below (T195.setTop (mkF m 145 #[.val (.int p0), .val (.ref b65), .val (.ref (u 7))] [(.int (7 : Int32))])) _
                        refine XS.iloadN X195.here hx rfl (hb hby d1_145) rfl ?_
                        show Steps p.tables e below (T195.setTop (mkF m 146 #[.val (.int p0), .val (.ref b65), .val (.ref (u 7))] [(.int p0), (.int (7 : Int32))])) _
                        refine XS.icmpNo X195.here hx rfl (hb hby d1_146) rfl (teq (Eq.symm hc192)).2 ?_
                        show Steps p.tables e below (T195.setTop (mkF m 149 #[.val (.int p0), .val (.ref b65), .val (.ref (u 7))] [])) _
                        refine XS.iconst X195.here hx rfl (hb hby d1_149) ?_
                        show Steps p.tables e below (T195.setTop (mkF m 150 #[.val (.int p0), .val (.ref b65), .val (.ref (u 7))] [(.int (1 : Int32))])) _
                        refine XS.goto X195.here hx rfl (pc0 := 150) (pc' := 154) rfl (hb hby d1_150) (by decide) (by decide) ?_
                        show Steps p.tables e below (T195.setTop (mkF m 154 #[.val (.int p0), .val (.ref b65), .val (.ref (u 7))] [(.int (1 : Int32))])) _
                        exact retN X195 hx (t := .boolean) Bd.returns (by simp) (hb hby d1_154) hr
                      · show own_Q1 Z u p0 h0 n0 _ T195.heap _
                        rw [e195]
                        exact ⟨rfl, N195, own_ext K148⟩
                    · --
                      by_cases hc197 : p0 = (8 : Int32)
                      · --
                        obtain rfl : vr152 = some (.ref (u 8)) := hv152.trans (by unfold own_r2; rw [if_neg hc153, if_pos hc156, if_neg hc157, if_neg hc162, if_neg hc167, if_neg hc172, if_neg hc177, if_neg hc182, if_neg hc187, if_neg hc192, if_pos hc197])
                        have pre198 : ∀ t, Steps p.tables e below (T152.setTop (mkF m 137 #[.val (.int p0), .val (.ref b65), .val (.ref (u 8))] [(.int p0), (.ref b65), (.ref (u 8))])) t → Steps p.tables e below (s₁.setTop (entryFrame m #[(.int p0)] 3)) t := fun t kt => pre151 t (by
                          show Steps p.tables e below (T148.setTop (mkF m 120 #[.val (.int p0), .val (.ref b65), .unset] [(.int p0)])) _
                          refine st152 _ ?_
                          show Steps p.tables e below (T152.setTop (mkF m 123 #[.val (.int p0), .val (.ref b65), .unset] [(.ref (u 8))])) _
                          refine XS.astoreN X152.here hx rfl (hb hby d1_123) rfl rfl (l' := #[.val (.int p0), .val (.ref b65), .val (.ref (u 8))]) rfl ?_
                          show Steps p.tables e below (T152.setTop (mkF m 124 #[.val (.int p0), .val (.ref b65), .val (.ref (u 8))] [])) _
                          refine XS.iloadN X152.here hx rfl (hb hby d1_124) rfl ?_
                          show Steps p.tables e below (T152.setTop (mkF m 125 #[.val (.int p0), .val (.ref b65), .val (.ref (u 8))] [(.int p0)])) _
                          refine XS.ifNo X152.here hx rfl (hb hby d1_125) rfl ((if0 _ _).trans (flt hc153).1) ?_
                          show Steps p.tables e below (T152.setTop (mkF m 128 #[.val (.int p0), .val (.ref b65), .val (.ref (u 8))] [])) _
                          refine XS.iloadN X152.here hx rfl (hb hby d1_128) rfl ?_
                          show Steps p.tables e below (T152.setTop (mkF m 129 #[.val (.int p0), .val (.ref b65), .val (.ref (u 8))] [(.int p0)])) _
                          refine XS.bipush X152.here hx rfl (hb hby d1_129) ?_
                          show Steps p.tables e below (T152.setTop (mkF m 131 #[.val (.int p0), .val (.ref b65), .val (.ref (u 8))] [(.int (16 : Int32)), (.int p0)])) _
                          refine XS.icmpNo X152.here hx rfl (hb hby d1_131) rfl (flt (by rw [hc197]; decide : ¬ ((16 : Int32) < p0))).2.2.1 ?_
                          show Steps p.tables e below (T152.setTop (mkF m 134 #[.val (.int p0), .val (.ref b65), .val (.ref (u 8))] [])) _
                          refine XS.aloadN X152.here hx rfl (hb hby d1_134) rfl rfl ?_
                          show Steps p.tables e below (T152.setTop (mkF m 135 #[.val (.int p0), .val (.ref b65), .val (.ref (u 8))] [(.ref (u 8))])) _
                          refine XS.aloadN X152.here hx rfl (hb hby d1_135) rfl rfl ?_
                          show Steps p.tables e below (T152.setTop (mkF m 136 #[.val (.int p0), .val (.ref b65), .val (.ref (u 8))] [(.ref b65), (.ref (u 8))])) _
                          refine XS.iloadN X152.here hx rfl (hb hby d1_136) rfl ?_
                          exact kt)
                        obtain ⟨cl199, Ar199, -, S199, N199, H199, -⟩ := id V148
                        have hin199 : ¬ (p0 < 0 ∨ cl199.slots.size ≤ (p0).toNatClampNeg) := by rw [hc197]; exact inb_of S199 ⟨by decide, by decide⟩
                        obtain ⟨cq200, kq200, q200a, q200b, q200c⟩ := isOf hZ e152 (B.2.2.2.2.2.2.2.2.2.2.2.2.2.2.2.2.2.1.ext O148.2)
                        obtain ⟨vr200, _, ⟨T200, L200, k200, n200⟩, -, X200, ⟨Lc200, hQ200, l200, y200, z200⟩, st200⟩ := X152.virtualBack hx (y := (⟨"com/example/trailwire/trailwire/status/StatusCode", "number", "()I"⟩ : MethodName)) (z := (⟨"com/example/trailwire/trailwire/status/StatusCode", "number", "()I"⟩ : MethodName)) hown (mvT hZ (hw _ (List.mem_of_getElem? (i := 48) rfl))) (mvT hZ (hw _ (List.mem_of_getElem? (i := 49) rfl))) (notFace_of_selects (args := #[]) (mvT hZ (hw _ (List.mem_of_getElem? (i := 51) rfl)))) (mvT hZ (hw _ (List.mem_of_getElem? (i := 51) rfl))) (mvT hZ (hw _ (List.mem_of_getElem? (i := 50) rfl))) (by decide) (backOf (W := 0) (rm3 l Z a0 hw [] u (u 8) (8 : Int32) B h148 n0 O148 (B.2.2.2.2.2.2.2.2.2.2.2.2.2.2.2.2.2.2.2.2.2.2.2.2.2.2.2.2.2.2.2.2.2.2.2.2.2.2.2.2.2.2.2.1.ext O148.2)) hZ (hw _ (List.mem_of_getElem? (i := 52) rfl)) (hw _ (List.mem_of_getElem? (i := 7) rfl)) (by decide) (by decide)) q200a q200c (g := (mkF m 142 #[.val (.int p0), .val (.ref b65), .val (.ref (u 8))] [(.ref (u 8))])) rfl (by rw [hml]; rfl) (Steps.refl _) (argsL := []) (rest := []) (lenOf own_pd1 rfl) rfl (by show 2 * 0 + _ ≤ _; exact Nat.le_of_eq rfl) (hb hby d1_142) (fun _ _ => ⟨rfl, e152, (by decide : 1 + 0 ≤ _), (by decide : 17 + 0 ≤ _)⟩)
                        dsimp only [Pt.U, Pt.locs, Pt.cells, Pt.slots] at X200 l200 y200 z200 st200 hQ200
                        subst l200 y200 z200
                        obtain ⟨rfl, N200q, e200⟩ := hQ200
                        have N200 := Fr.app N152 N200q
                        obtain ⟨fs, hr, hrun, hended, hW, hsame⟩ := X200.leave (v := some (.int (1 : Int32))) (fun h => by rw [Bd.returns] at h; cases h)
                        refine ⟨_, _, pre198 _ ?_, hrun, hended, _, _, rfl, ?_, ⟨_, rfl⟩, hW, hsame.mono (by decide) (by decide)⟩
                        · show Steps p.tables e below (T152.setTop (mkF m 137 #[.val (.int p0), .val (.ref b65), .val (.ref (u 8))] [(.int p0), (.ref b65), (.ref (u 8))])) _
                          refine X152.aaload hx (j := p0) (v := (.ref (u 8))) (by rw [e152]; exact Ar199.1) (State.isArrayOf_alike hZ.alike Ar199.2.1) rfl Ar199.2.2 hin199 (H199.at hin199 (by rw [hc197]; rfl)) (g := (mkF m 137 #[.val (.int p0), .val (.ref b65), .val (.ref (u 8))] [(.int p0), (.ref b65), (.ref (u 8))])) rfl rfl (hb hby d1_137) _ ?_
                          show Steps p.tables e below (T152.setTop (mkF m 138 #[.val (.int p0), .val (.ref b65), .val (.ref (u 8))] [(.ref (u 8)), (.ref (u 8))])) _
                          refine Jvm.RoadKit.acmp (g := (mkF m 138 #[.val (.int p0), .val (.ref b65), .val (.ref (u 8))] [(.ref (u 8)), (.ref (u 8))])) X152 hx rfl rfl rfl (pc0 := 138) (pc' := 141) (same := true) rfl (hb hby d1_138) rfl (decide_eq_true rfl) (by decide) (by decide) ?_
                          show Steps p.tables e below (T152.setTop (mkF m 141 #[.val (.int p0), .val (.ref b65), .val (.ref (u 8))] [])) _
                          refine XS.aloadN X152.here hx rfl (hb hby d1_141) rfl rfl ?_
                          show Steps p.tables e below (T152.setTop (mkF m 142 #[.val (.int p0), .val (.ref b65), .val (.ref (u 8))] [(.ref (u 8))])) _
                          refine st200.trans ?_
                          show Steps p.tables e below (T200.setTop (mkF m 145 #[.val (.int p0), .val (.ref b65), .val (.ref (u 8))] [(.int (8 : Int32))])) _
                          refine XS.iloadN X200.here hx rfl (hb hby d1_145) rfl ?_
                          show Steps p.tables e below (T200.setTop (mkF m 146 #[.val (.int p0), .val (.ref b65), .val (.ref (u 8))] [(.int p0), (.int (8 : Int32))])) _
                          refine XS.icmpNo X200.here hx rfl (hb hby d1_146) rfl (teq (Eq.symm hc197)).2 ?_
                          show Steps p.tables e below (T200.setTop (mkF m 149 #[.val (.int p0), .val (.ref b65), .val (.ref (u 8))] [])) _
                          refine XS.iconst X200.here hx rfl (hb hby d1_149) ?_
                          show Steps p.tables e below (T200.setTop (mkF m 150 #[.val (.int p0), .val (.ref b65), .val (.ref (u 8))] [(.int (1 : Int32))])) _
                          refine XS.goto X200.here hx rfl (pc0 := 150) (pc' := 154) rfl (hb hby d1_150) (by decide) (by decide) ?_
                          show Steps p.tables e below (T200.setTop (mkF m 154 #[.val (.int p0), .val (.ref b65), .val (.ref (u 8))] [(.int (1 : Int32))])) _
                          exact retN X200 hx (t := .boolean) Bd.returns (by simp) (hb hby d1_154) hr
                        · show own_Q1 Z u p0 h0 n0 _ T200.heap _
                          rw [e200]
                          exact ⟨rfl, N200, own_ext K148⟩
                      · --
                        by_cases hc202 : p0 = (9 : Int32)
                        · --
                          obtain rfl : vr152 = some (.ref (u 9)) := hv152.trans (by unfold own_r2; rw [if_neg hc153, if_pos hc156, if_neg hc157, if_neg hc162, if_neg hc167, if_neg hc172, if_neg hc177, if_neg hc182, if_neg hc187, if_neg hc192, if_neg hc197, if_pos hc202])
                          have pre203 : ∀ t, Steps p.tables e below (T152.setTop (mkF m 137 #[.val (.int p0), .val (.ref b65), .val (.ref (u 9))] [(.int p0), (.ref b65), (.ref (u 9))])) t → Steps p.tables e below (s₁.setTop (entryFrame m #[(.int p0)] 3)) t := fun t kt => pre151 t (by
                            show Steps p.tables e below (T148.setTop (mkF m 120 #[.val (.int p0), .val (.ref b65), .unset] [(.int p0)])) _
                            refine st152 _ ?_
                            show Steps p.tables e below (T152.setTop (mkF m 123 #[.val (.int p0), .val (.ref b65), .unset] [(.ref (u 9))])) _
                            refine XS.astoreN X152.here hx rfl (hb hby d1_123) rfl rfl (l' := #[.val (.int p0), .val (.ref b65), .val (.ref (u 9))]) rfl ?_
                            show Steps p.tables e below (T152.setTop (mkF m 124 #[.val (.int p0), .val (.ref b65), .val (.ref (u 9))] [])) _
                            refine XS.iloadN X152.here hx rfl (hb hby d1_124) rfl ?_
                            show Steps p.tables e below (T152.setTop (mkF m 125 #[.val (.int p0), .val (.ref b65), .val (.ref (u 9))] [(.int p0)])) _
                            refine XS.ifNo X152.here hx rfl (hb hby d1_125) rfl ((if0 _ _).trans (flt hc153).1) ?_
                            show Steps p.tables e below (T152.setTop (mkF m 128 #[.val (.int p0), .val (.ref b65), .val (.ref (u 9))] [])) _
                            refine XS.iloadN X152.here hx rfl (hb hby d1_128) rfl ?_
                            show Steps p.tables e below (T152.setTop (mkF m 129 #[.val (.int p0), .val (.ref b65), .val (.ref (u 9))] [(.int p0)])) _
                            refine XS.bipush X152.here hx rfl (hb hby d1_129) ?_
                            show Steps p.tables e below (T152.setTop (mkF m 131 #[.val (.int p0), .val (.ref b65), .val (.ref (u 9))] [(.int (16 : Int32)), (.int p0)])) _
                            refine XS.icmpNo X152.here hx rfl (hb hby d1_131) rfl (flt (by rw [hc202]; decide : ¬ ((16 : Int32) < p0))).2.2.1 ?_
                            show Steps p.tables e below (T152.setTop (mkF m 134 #[.val (.int p0), .val (.ref b65), .val (.ref (u 9))] [])) _
                            refine XS.aloadN X152.here hx rfl (hb hby d1_134) rfl rfl ?_
                            show Steps p.tables e below (T152.setTop (mkF m 135 #[.val (.int p0), .val (.ref b65), .val (.ref (u 9))] [(.ref (u 9))])) _
                            refine XS.aloadN X152.here hx rfl (hb hby d1_135) rfl rfl ?_
                            show Steps p.tables e below (T152.setTop (mkF m 136 #[.val (.int p0), .val (.ref b65), .val (.ref (u 9))] [(.ref b65), (.ref (u 9))])) _
                            refine XS.iloadN X152.here hx rfl (hb hby d1_136) rfl ?_
                            exact kt)
                          obtain ⟨cl204, Ar204, -, S204, N204, H204, -⟩ := id V148
                          have hin204 : ¬ (p0 < 0 ∨ cl204.slots.size ≤ (p0).toNatClampNeg) := by rw [hc202]; exact inb_of S204 ⟨by decide, by decide⟩
                          obtain ⟨cq205, kq205, q205a, q205b, q205c⟩ := isOf hZ e152 (B.2.2.2.2.2.2.2.2.2.2.2.2.2.2.2.2.2.2.2.1.ext O148.2)
                          obtain ⟨vr205, _, ⟨T205, L205, k205, n205⟩, -, X205, ⟨Lc205, hQ205, l205, y205, z205⟩, st205⟩ := X152.virtualBack hx (y := (⟨"com/example/trailwire/trailwire/status/StatusCode", "number", "()I"⟩ : MethodName)) (z := (⟨"com/example/trailwire/trailwire/status/StatusCode", "number", "()I"⟩ : MethodName)) hown (mvT hZ (hw _ (List.mem_of_getElem? (i := 48) rfl))) (mvT hZ (hw _ (List.mem_of_getElem? (i := 49) rfl))) (notFace_of_selects (args := #[]) (mvT hZ (hw _ (List.mem_of_getElem? (i := 51) rfl)))) (mvT hZ (hw _ (List.mem_of_getElem? (i := 51) rfl))) (mvT hZ (hw _ (List.mem_of_getElem? (i := 50) rfl))) (by decide) (backOf (W := 0) (rm3 l Z a0 hw [] u (u 9) (9 : Int32) B h148 n0 O148 (B.2.2.2.2.2.2.2.2.2.2.2.2.2.2.2.2.2.2.2.2.2.2.2.2.2.2.2.2.2.2.2.2.2.2.2.2.2.2.2.2.2.2.2.2.1.ext O148.2)) hZ (hw _ (List.mem_of_getElem? (i := 52) rfl)) (hw _ (List.mem_of_getElem? (i := 7) rfl)) (by decide) (by decide)) q205a q205c (g := (mkF m 142 #[.val (.int p0), .val (.ref b65), .val (.ref (u 9))] [(.ref (u 9))])) rfl (by rw [hml]; rfl) (Steps.refl _) (argsL := []) (rest := []) (lenOf own_pd1 rfl) rfl (by show 2 * 0 + _ ≤ _; exact Nat.le_of_eq rfl) (hb hby d1_142) (fun _ _ => ⟨rfl, e152, (by decide : 1 + 0 ≤ _), (by decide : 17 + 0 ≤ _)⟩)
                          dsimp only [Pt.U, Pt.locs, Pt.cells, Pt.slots] at X205 l205 y205 z205 st205 hQ205
                          subst l205 y205 z205
                          obtain ⟨rfl, N205q, e205⟩ := hQ205
                          have N205 := Fr.app N152 N205q
                          obtain ⟨fs, hr, hrun, hended, hW, hsame⟩ := X205.leave (v := some (.int (1 : Int32))) (fun h => by rw [Bd.returns] at h; cases h)
                          refine ⟨_, _, pre203 _ ?_, hrun, hended, _, _, rfl, ?_, ⟨_, rfl⟩, hW, hsame.mono (by decide) (by decide)⟩
                          · show Steps p.tables e below (T152.setTop (mkF m 137 #[.val (.int p0), .val (.ref b65), .val (.ref (u 9))] [(.int p0), (.ref b65), (.ref (u 9))])) _
                            refine X152.aaload hx (j := p0) (v := (.ref (u 9))) (by rw [e152]; exact Ar204.1) (State.isArrayOf_alike hZ.alike Ar204.2.1) rfl Ar204.2.2 hin204 (H204.at hin204 (by rw [hc202]; rfl)) (g := (mkF m 137 #[.val (.int p0), .val (.ref b65), .val (.ref (u 9))] [(.int p0), (.ref b65), (.ref (u 9))])) rfl rfl (hb hby d1_137) _ ?_
                            show Steps p.tables e below (T152.setTop (mkF m 138 #[.val (.int p0), .val (.ref b65), .val (.ref (u 9))] [(.ref (u 9)), (.ref (u 9))])) _
                            refine Jvm.RoadKit.acmp (g := (mkF m 138 #[.val (.int p0), .val (.ref b65), .val (.ref (u 9))] [(.ref (u 9)), (.ref (u 9))])) X152 hx rfl rfl rfl (pc0 := 138) (pc' := 141) (same := true) rfl (hb hby d1_138) rfl (decide_eq_true rfl) (by decide) (by decide) ?_
                            show Steps p.tables e below (T152.setTop (mkF m 141 #[.val (.int p0), .val (.ref b65), .val (.ref (u 9))] [])) _
                            refine XS.aloadN X152.here hx rfl (hb hby d1_141) rfl rfl ?_
                            show Steps p.tables e below (T152.setTop (mkF m 142 #[.val (.int p0), .val (.ref b65), .val (.ref (u 9))] [(.ref (u 9))])) _
                            refine st205.trans ?_
                            show Steps p.tables e below (T205.setTop (mkF m 145 #[.val (.int p0), .val (.ref b65), .val (.ref (u 9))] [(.int (9 : Int32))])) _
                            refine XS.iloadN X205.here hx rfl (hb hby d1_145) rfl ?_
                            show Steps p.tables e below (T205.setTop (mkF m 146 #[.val (.int p0), .val (.ref b65), .val (.ref (u 9))] [(.int p0), (.int (9 : Int32))])) _
                            refine XS.icmpNo X205.here hx rfl (hb hby d1_146) rfl (teq (Eq.symm hc202)).2 ?_
                            show Steps p.tables e below (T205.setTop (mkF m 149 #[.val (.int p0), .val (.ref b65), .val (.ref (u 9))] [])) _
                            refine XS.iconst X205.here hx rfl (hb hby d1_149) ?_
                            show Steps p.tables e below (T205.setTop (mkF m 150 #[.val (.int p0), .val (.ref b65), .val (.ref (u 9))] [(.int (1 : Int32))])) _
                            refine XS.goto X205.here hx rfl (pc0 := 150) (pc' := 154) rfl (hb hby d1_150) (by decide) (by decide) ?_
                            show Steps p.tables e below (T205.setTop (mkF m 154 #[.val (.int p0), .val (.ref b65), .val (.ref (u 9))] [(.int (1 : Int32))])) _
                            exact retN X205 hx (t := .boolean) Bd.returns (by simp) (hb hby d1_154) hr
                          · show own_Q1 Z u p0 h0 n0 _ T205.heap _
                            rw [e205]
                            exact ⟨rfl, N205, own_ext K148⟩
                        · --
                          by_cases hc207 : p0 = (10 : Int32)
                          · --
                            obtain rfl : vr152 = some (.ref (u 10)) := hv152.trans (by unfold own_r2; rw [if_neg hc153, if_pos hc156, if_neg hc157, if_neg hc162, if_neg hc167, if_neg hc172, if_neg hc177, if_neg hc182, if_neg hc187, if_neg hc192, if_neg hc197, if_neg hc202, if_pos hc207])
                            have pre208 : ∀ t, Steps p.tables e below (T152.setTop (mkF m 137 #[.val (.int p0), .val (.ref b65), .val (.ref (u 10))] [(.int p0), (.ref b65), (.ref (u 10))])) t → Steps p.tables e below (s₁.setTop (entryFrame m #[(.int p0)] 3)) t := fun t kt => pre151 t (by
                              show Steps p.tables e below (T148.setTop (mkF m 120 #[.val (.int p0), .val (.ref b65), .unset] [(.int p0)])) _
                              refine st152 _ ?_
                              show Steps p.tables e below (T152.setTop (mkF m 123 #[.val (.int p0), .val (.ref b65), .unset] [(.ref (u 10))])) _
                              refine XS.astoreN X152.here hx rfl (hb hby d1_123) rfl rfl (l' := #[.val (.int p0), .val (.ref b65), .val (.ref (u 10))]) rfl ?_
                              show Steps p.tables e below (T152.setTop (mkF m 124 #[.val (.int p0), .val (.ref b65), .val (.ref (u 10))] [])) _
                              refine XS.iloadN X152.here hx rfl (hb hby d1_124) rfl ?_
                              show Steps p.tables e below (T152.setTop (mkF m 125 #[.val (.int p0), .val (.ref b65), .val (.ref (u 10))] [(.int p0)])) _
                              refine XS.ifNo X152.here hx rfl (hb hby d1_125) rfl ((if0 _ _).trans (flt hc153).1) ?_
                              show Steps p.tables e below (T152.setTop (mkF m 128 #[.val (.int p0), .val (.ref b65), .val (.ref (u 10))] [])) _
                              refine XS.iloadN X152.here hx rfl (hb hby d1_128) rfl ?_
                              show Steps p.tables e below (T152.setTop (mkF m 129 #[.val (.int p0), .val (.ref b65), .val (.ref (u 10))] [(.int p0)])) _
                              refine XS.bipush X152.here hx rfl (hb hby d1_129) ?_
                              show Steps p.tables e below (T152.setTop (mkF m 131 #[.val (.int p0), .val (.ref b65), .val (.ref (u 10))] [(.int (16 : Int32)), (.int p0)])) _
                              refine XS.icmpNo X152.here hx rfl (hb hby d1_131) rfl (flt (by rw [hc207]; decide : ¬ ((16 : Int32) < p0))).2.2.1 ?_
                              show Steps p.tables e below (T152.setTop (mkF m 134 #[.val (.int p0), .val (.ref b65), .val (.ref (u 10))] [])) _
                              refine XS.aloadN X152.here hx rfl (hb hby d1_134) rfl rfl ?_
                              show Steps p.tables e below (T152.setTop (mkF m 135 #[.val (.int p0), .val (.ref b65), .val (.ref (u 10))] [(.ref (u 10))])) _
                              refine XS.aloadN X152.here hx rfl (hb hby d1_135) rfl rfl ?_
                              show Steps p.tables e below (T152.setTop (mkF m 136 #[.val (.int p0), .val (.ref b65), .val (.ref (u 10))] [(.ref b65), (.ref (u 10))])) _
                              refine XS.iloadN X152.here hx rfl (hb hby d1_136) rfl ?_
                              exact kt)
                            obtain ⟨cl209, Ar209, -, S209, N209, H209, -⟩ := id V148
                            have hin209 : ¬ (p0 < 0 ∨ cl209.slots.size ≤ (p0).toNatClampNeg) := by rw [hc207]; exact inb_of S209 ⟨by decide, by decide⟩
                            obtain ⟨cq210, kq210, q210a, q210b, q210c⟩ := isOf hZ e152 (B.2.2.2.2.2.2.2.2.2.2.2.2.2.2.2.2.2.2.2.2.2.1.ext O148.2)
                            obtain ⟨vr210, _, ⟨T210, L210, k210, n210⟩, -, X210, ⟨Lc210, hQ210, l210, y210, z210⟩, st210⟩ := X152.virtualBack hx (y := (⟨"com/example/trailwire/trailwire/status/StatusCode", "number", "()I"⟩ : MethodName)) (z := (⟨"com/example/trailwire/trailwire/status/StatusCode", "number", "()I"⟩ : MethodName)) hown (mvT hZ (hw _ (List.mem_of_getElem? (i := 48) rfl))) (mvT hZ (hw _ (List.mem_of_getElem? (i := 49) rfl))) (notFace_of_selects (args := #[]) (mvT hZ (hw _ (List.mem_of_getElem? (i := 51) rfl)))) (mvT hZ (hw _ (List.mem_of_getElem? (i := 51) rfl))) (mvT hZ (hw _ (List.mem_of_getElem? (i := 50) rfl))) (by decide) (backOf (W := 0) (rm3 l Z a0 hw [] u (u 10) (10 : Int32) B h148 n0 O148 (B.2.2.2.2.2.2.2.2.2.2.2.2.2.2.2.2.2.2.2.2.2.2.2.2.2.2.2.2.2.2.2.2.2.2.2.2.2.2.2.2.2.2.2.2.2.1.ext O148.2)) hZ (hw _ (List.mem_of_getElem? (i := 52) rfl)) (hw _ (List.mem_of_getElem? (i := 7) rfl)) (by decide) (by decide)) q210a q210c (g := (mkF m 142 #[.val (.int p0), .val (.ref b65), .val (.ref (u 10))] [(.ref (u 10))])) rfl (by rw [hml]; rfl) (Steps.refl _) (argsL := []) (rest := []) (lenOf own_pd1 rfl) rfl (by show 2 * 0 + _ ≤ _; exact Nat.le_of_eq rfl) (hb hby d1_142) (fun _ _ => ⟨rfl, e152, (by decide : 1 + 0 ≤ _), (by decide : 17 + 0 ≤ _)⟩)
                            dsimp only [Pt.U, Pt.locs, Pt.cells, Pt.slots] at X210 l210 y210 z210 st210 hQ210
                            subst l210 y210 z210
                            obtain ⟨rfl, N210q, e210⟩ := hQ210
                            have N210 := Fr.app N152 N210q
                            obtain ⟨fs, hr, hrun, hended, hW, hsame⟩ := X210.leave (v := some (.int (1 : Int32))) (fun h => by rw [Bd.returns] at h; cases h)
                            refine ⟨_, _, pre208 _ ?_, hrun, hended, _, _, rfl, ?_, ⟨_, rfl⟩, hW, hsame.mono (by decide) (by decide)⟩
                            · show Steps p.tables e below (T152.setTop (mkF m 137 #[.val (.int p0), .val (.ref b65), .val (.ref (u 10))] [(.int p0), (.ref b65), (.ref (u 10))])) _
                              refine X152.aaload hx (j := p0) (v := (.ref (u 10))) (by rw [e152]; exact Ar209.1) (State.isArrayOf_alike hZ.alike Ar209.2.1) rfl Ar209.2.2 hin209 (H209.at hin209 (by rw [hc207]; rfl)) (g := (mkF m 137 #[.val (.int p0), .val (.ref b65), .val (.ref (u 10))] [(.int p0), (.ref b65), (.ref (u 10))])) rfl rfl (hb hby d1_137) _ ?_
                              show Steps p.tables e below (T152.setTop (mkF m 138 #[.val (.int p0), .val (.ref b65), .val (.ref (u 10))] [(.ref (u 10)), (.ref (u 10))])) _
                              refine Jvm.RoadKit.acmp (g := (mkF m 138 #[.val (.int p0), .val (.ref b65), .val (.ref (u 10))] [(.ref (u 10)), (.ref (u 10))])) X152 hx rfl rfl rfl (pc0 := 138) (pc' := 141) (same := true) rfl (hb hby d1_138) rfl (decide_eq_true rfl) (by decide) (by decide) ?_
                              show Steps p.tables e below (T152.setTop (mkF m 141 #[.val (.int p0), .val (.ref b65), .val (.ref (u 10))] [])) _
                              refine XS.aloadN X152.here hx rfl (hb hby d1_141) rfl rfl ?_
                              show Steps p.tables e below (T152.setTop (mkF m 142 #[.val (.int p0), .val (.ref b65), .val (.ref (u 10))] [(.ref (u 10))])) _
                              refine st210.trans ?_
                              show Steps p.tables e below (T210.setTop (mkF m 145 #[.val (.int p0), .val (.ref b65), .val (.ref (u 10))] [(.int (10 : Int32))])) _
                              refine XS.iloadN X210.here hx rfl (hb hby d1_145) rfl ?_
                              show Steps p.tables e below (T210.setTop (mkF m 146 #[.val (.int p0), .val (.ref b65), .val (.ref (u 10))] [(.int p0), (.int (10 : Int32))])) _
                              refine XS.icmpNo X210.here hx rfl (hb hby d1_146) rfl (teq (Eq.symm hc207)).2 ?_
                              show Steps p.tables e below (T210.setTop (mkF m 149 #[.val (.int p0), .val (.ref b65), .val (.ref (u 10))] [])) _
                              refine XS.iconst X210.here hx rfl (hb hby d1_149) ?_
                              show Steps p.tables e below (T210.setTop (mkF m 150 #[.val (.int p0), .val (.ref b65), .val (.ref (u 10))] [(.int (1 : Int32))])) _
                              refine XS.goto X210.here hx rfl (pc0 := 150) (pc' := 154) rfl (hb hby d1_150) (by decide) (by decide) ?_
                              show Steps p.tables e below (T210.setTop (mkF m 154 #[.val (.int p0), .val (.ref b65), .val (.ref (u 10))] [(.int (1 : Int32))])) _
                              exact retN X210 hx (t := .boolean) Bd.returns (by simp) (hb hby d1_154) hr
                            · show own_Q1 Z u p0 h0 n0 _ T210.heap _
                              rw [e210]
                              exact ⟨rfl, N210, own_ext K148⟩
                          · --
                            by_cases hc212 : p0 = (11 : Int32)
                            · --
                              obtain rfl : vr152 = some (.ref (u 11)) := hv152.trans (by unfold own_r2; rw [if_neg hc153, if_pos hc156, if_neg hc157, if_neg hc162, if_neg hc167, if_neg hc172, if_neg hc177, if_neg hc182, if_neg hc187, if_neg hc192, if_neg hc197, if_neg hc202, if_neg hc207, if_pos hc212])
                              have pre213 : ∀ t, Steps p.tables e below (T152.setTop (mkF m 137 #[.val (.int p0), .val (.ref b65), .val (.ref (u 11))] [(.int p0), (.ref b65), (.ref (u 11))])) t → Steps p.tables e below (s₁.setTop (entryFrame m #[(.int p0)] 3)) t := fun t kt => pre151 t (by
                                show Steps p.tables e below (T148.setTop (mkF m 120 #[.val (.int p0), .val (.ref b65), .unset] [(.int p0)])) _
                                refine st152 _ ?_
                                show Steps p.tables e below (T152.setTop (mkF m 123 #[.val (.int p0), .val (.ref b65), .unset] [(.ref (u 11))])) _
                                refine XS.astoreN X152.here hx rfl (hb hby d1_123) rfl rfl (l' := #[.val (.int p0), .val (.ref b65), .val (.ref (u 11))]) rfl ?_
                                show Steps p.tables e below (T152.setTop (mkF m 124 #[.val (.int p0), .val (.ref b65), .val (.ref (u 11))] [])) _
                                refine XS.iloadN X152.here hx rfl (hb hby d1_124) rfl ?_
                                show Steps p.tables e below (T152.setTop (mkF m 125 #[.val (.int p0), .val (.ref b65), .val (.ref (u 11))] [(.int p0)])) _
                                refine XS.ifNo X152.here hx rfl (hb hby d1_125) rfl ((if0 _ _).trans (flt hc153).1) ?_
                                show Steps p.tables e below (T152.setTop (mkF m 128 #[.val (.int p0), .val (.ref b65), .val (.ref (u 11))] [])) _
                                refine XS.iloadN X152.here hx rfl (hb hby d1_128) rfl ?_
                                show Steps p.tables e below (T152.setTop (mkF m 129 #[.val (.int p0), .val (.ref b65), .val (.ref (u 11))] [(.int p0)])) _
                                refine XS.bipush X152.here hx rfl (hb hby d1_129) ?_
                                show Steps p.tables e below (T152.setTop (mkF m 131 #[.val (.int p0), .val (.ref b65), .val (.ref (u 11))] [(.int (16 : Int32)), (.int p0)])) _
                                refine XS.icmpNo X152.here hx rfl (hb hby d1_131) rfl (flt (by rw [hc212]; decide : ¬ ((16 : Int32) < p0))).2.2.1 ?_
                                show Steps p.tables e below (T152.setTop (mkF m 134 #[.val (.int p0), .val (.ref b65), .val (.ref (u 11))] [])) _
                                refine XS.aloadN X152.here hx rfl (hb hby d1_134) rfl rfl ?_
                                show Steps p.tables e below (T152.setTop (mkF m 135 #[.val (.int p0), .val (.ref b65), .val (.ref (u 11))] [(.ref (u 11))])) _
                                refine XS.aloadN X152.here hx rfl (hb hby d1_135) rfl rfl ?_
                                show Steps p.tables e below (T152.setTop (mkF m 136 #[.val (.int p0), .val (.ref b65), .val (.ref (u 11))] [(.ref b65), (.ref (u 11))])) _
                                refine XS.iloadN X152.here hx rfl (hb hby d1_136) rfl ?_
                                exact kt)
                              obtain ⟨cl214, Ar214, -, S214, N214, H214, -⟩ := id V148
                              have hin214 : ¬ (p0 < 0 ∨ cl214.slots.size ≤ (p0).toNatClampNeg) := by rw [hc212]; exact inb_of S214 ⟨by decide, by decide⟩
                              obtain ⟨cq215, kq215, q215a, q215b, q215c⟩ := isOf hZ e152 (B.2.2.2.2.2.2.2.2.2.2.2.2.2.2.2.2.2.2.2.2.2.2.2.1.ext O148.2)
                              obtain ⟨vr215, _, ⟨T215, L215, k215, n215⟩, -, X215, ⟨Lc215, hQ215, l215, y215, z215⟩, st215⟩ := X152.virtualBack hx (y := (⟨"com/example/trailwire/trailwire/status/StatusCode", "number", "()I"⟩ : MethodName)) (z := (⟨"com/example/trailwire/trailwire/status/StatusCode", "number", "()I"⟩ : MethodName)) hown (mvT hZ (hw _ (List.mem_of_getElem? (i := 48) rfl))) (mvT hZ (hw _ (List.mem_of_getElem? (i := 49) rfl))) (notFace_of_selects (args := #[]) (mvT hZ (hw _ (List.mem_of_getElem? (i := 51) rfl)))) (mvT hZ (hw _ (List.mem_of_getElem? (i := 51) rfl))) (mvT hZ (hw _ (List.mem_of_getElem? (i := 50) rfl))) (by decide) (backOf (W := 0) (rm3 l Z a0 hw [] u (u 11) (11 : Int32) B h148 n0 O148 (B.2.2.2.2.2.2.2.2.2.2.2.2.2.2.2.2.2.2.2.2.2.2.2.2.2.2.2.2.2.2.2.2.2.2.2.2.2.2.2.2.2.2.2.2.2.2.1.ext O148.2)) hZ (hw _ (List.mem_of_getElem? (i := 52) rfl)) (hw _ (List.mem_of_getElem? (i := 7) rfl)) (by decide) (by decide)) q215a q215c (g := (mkF m 142 #[.val (.int p0), .val (.ref b65), .val (.ref (u 11))] [(.ref (u 11))])) rfl (by rw [hml]; rfl) (Steps.refl _) (argsL := []) (rest := []) (lenOf own_pd1 rfl) rfl (by show 2 * 0 + _ ≤ _; exact Nat.le_of_eq rfl) (hb hby d1_142) (fun _ _ => ⟨rfl, e152, (by decide : 1 + 0 ≤ _), (by decide : 17 + 0 ≤ _)⟩)
                              dsimp only [Pt.U, Pt.locs, Pt.cells, Pt.slots] at X215 l215 y215 z215 st215 hQ215
                              subst l215 y215 z215
                              obtain ⟨rfl, N215q, e215⟩ := hQ215
                              have N215 := Fr.app N152 N215q
                              obtain ⟨fs, hr, hrun, hended, hW, hsame⟩ := X215.leave (v := some (.int (1 : Int32))) (fun h => by rw [Bd.returns] at h; cases h)
                              refine ⟨_, _, pre213 _ ?_, hrun, hended, _, _, rfl, ?_, ⟨_, rfl⟩, hW, hsame.mono (by decide) (by decide)⟩
                              · show Steps p.tables e below (T152.setTop (mkF m 137 #[.val (.int p0), .val (.ref b65), .val (.ref (u 11))] [(.int p0), (.ref b65), (.ref (u 11))])) _
                                refine X152.aaload hx (j := p0) (v := (.ref (u 11))) (by rw [e152]; exact Ar214.1) (State.isArrayOf_alike hZ.alike Ar214.2.1) rfl Ar214.2.2 hin214 (H214.at hin214 (by rw [hc212]; rfl)) (g := (mkF m 137 #[.val (.int p0), .val (.ref b65), .val (.ref (u 11))] [(.int p0), (.ref b65), (.ref (u 11))])) rfl rfl (hb hby d1_137) _ ?_
                                show Steps p.tables e below (T152.setTop (mkF m 138 #[.val (.int p0), .val (.ref b65), .val (.ref (u 11))] [(.ref (u 11)), (.ref (u 11))])) _
                                refine Jvm.RoadKit.acmp (g := (mkF m 138 #[.val (.int p0), .val (.ref b65), .val (.ref (u 11))] [(.ref (u 11)), (.ref (u 11))])) X152 hx rfl rfl rfl (pc0 := 138) (pc' := 141) (same := true) rfl (hb hby d1_138) rfl (decide_eq_true rfl) (by decide) (by decide) ?_
                                show Steps p.tables e below (T152.setTop (mkF m 141 #[.val (.int p0), .val (.ref b65), .val (.ref (u 11))] [])) _
                                refine XS.aloadN X152.here hx rfl (hb hby d1_141) rfl rfl ?_
                                show Steps p.tables e below (T152.setTop (mkF m 142 #[.val (.int p0), .val (.ref b65), .val (.ref (u 11))] [(.ref (u 11))])) _
                                refine st215.trans ?_
                                show Steps p.tables e below (T215.setTop (mkF m 145 #[.val (.int p0), .val (.ref b65), .val (.ref (u 11))] [(.int (11 : Int32))])) _
                                refine XS.iloadN X215.here hx rfl (hb hby d1_145) rfl ?_
                                show Steps p.tables e below (T215.setTop (mkF m 146 #[.val (.int p0), .val (.ref b65), .val (.ref (u 11))] [(.int p0), (.int (11 : Int32))])) _
                                refine XS.icmpNo X215.here hx rfl (hb hby d1_146) rfl (teq (Eq.symm hc212)).2 ?_
                                show Steps p.tables e below (T215.setTop (mkF m 149 #[.val (.int p0), .val (.ref b65), .val (.ref (u 11))] [])) _
                                refine XS.iconst X215.here hx rfl (hb hby d1_149) ?_
                                show Steps p.tables e below (T215.setTop (mkF m 150 #[.val (.int p0), .val (.ref b65), .val (.ref (u 11))] [(.int (1 : Int32))])) _
                                refine XS.goto X215.here hx rfl (pc0 := 150) (pc' := 154) rfl (hb hby d1_150) (by decide) (by decide) ?_
                                show Steps p.tables e below (T215.setTop (mkF m 154 #[.val (.int p0), .val (.ref b65), .val (.ref (u 11))] [(.int (1 : Int32))])) _
                                exact retN X215 hx (t := .boolean) Bd.returns (by simp) (hb hby d1_154) hr
                              · show own_Q1 Z u p0 h0 n0 _ T215.heap _
                                rw [e215]
                                exact ⟨rfl, N215, own_ext K148⟩
                            · --
                              by_cases hc217 : p0 = (12 : Int32)
                              · --
                                obtain rfl : vr152 = some (.ref (u 12)) := hv152.trans (by unfold own_r2; rw [if_neg hc153, if_pos hc156, if_neg hc157, if_neg hc162, if_neg hc167, if_neg hc172, if_neg hc177, if_neg hc182, if_neg hc187, if_neg hc192, if_neg hc197, if_neg hc202, if_neg hc207, if_neg hc212, if_pos hc217])
                                have pre218 : ∀ t, Steps p.tables e below (T152.setTop (mkF m 137 #[.val (.int p0), .val (.ref b65), .val (.ref (u 12))] [(.int p0), (.ref b65), (.ref (u 12))])) t → Steps p.tables e below (s₁.setTop (entryFrame m #[(.int p0)] 3)) t := fun t kt => pre151 t (by
                                  show Steps p.tables e below (T148.setTop (mkF m 120 #[.val (.int p0), .val (.ref b65), .unset] [(.int p0)])) _
                                  refine st152 _ ?_
                                  show Steps p.tables e below (T152.setTop (mkF m 123 #[.val (.int p0), .val (.ref b65), .unset] [(.ref (u 12))])) _
                                  refine XS.astoreN X152.here hx rfl (hb hby d1_123) rfl rfl (l' := #[.val (.int p0), .val (.ref b65), .val (.ref (u 12))]) rfl ?_
                                  show Steps p.tables e below (T152.setTop (mkF m 124 #[.val (.int p0), .val (.ref b65), .val (.ref (u 12))] [])) _
                                  refine XS.iloadN X152.here hx rfl (hb hby d1_124) rfl ?_
                                  show Steps p.tables e below (T152.setTop (mkF m 125 #[.val (.int p0), .val (.ref b65), .val (.ref (u 12))] [(.int p0)])) _
                                  refine XS.ifNo X152.here hx rfl (hb hby d1_125) rfl ((if0 _ _).trans (flt hc153).1) ?_
                                  show Steps p.tables e below (T152.setTop (mkF m 128 #[.val (.int p0), .val (.ref b65), .val (.ref (u 12))] [])) _
                                  refine XS.iloadN X152.here hx rfl (hb hby d1_128) rfl ?_
                                  show Steps p.tables e below (T152.setTop (mkF m 129 #[.val (.int p0), .val (.ref b65), .val (.ref (u 12))] [(.int p0)])) _
                                  refine XS.bipush X152.here hx rfl (hb hby d1_129) ?_
                                  show Steps p.tables e below (T152.setTop (mkF m 131 #[.val (.int p0), .val (.ref b65), .val (.ref (u 12))] [(.int (16 : Int32)), (.int p0)])) _
                                  refine XS.icmpNo X152.here hx rfl (hb hby d1_131) rfl (flt (by rw [hc217]; decide : ¬ ((16 : Int32) < p0))).2.2.1 ?_
                                  show Steps p.tables e below (T152.setTop (mkF m 134 #[.val (.int p0), .val (.ref b65), .val (.ref (u 12))] [])) _
                                  refine XS.aloadN X152.here hx rfl (hb hby d1_134) rfl rfl ?_
                                  show Steps p.tables e below (T152.setTop (mkF m 135 #[.val (.int p0), .val (.ref b65), .val (.ref (u 12))] [(.ref (u 12))])) _
                                  refine XS.aloadN X152.here hx rfl (hb hby d1_135) rfl rfl ?_
                                  show Steps p.tables e below (T152.setTop (mkF m 136 #[.val (.int p0), .val (.ref b65), .val (.ref (u 12))] [(.ref b65), (.ref (u 12))])) _
                                  refine XS.iloadN X152.here hx rfl (hb hby d1_136) rfl ?_
                                  exact kt)
                                obtain ⟨cl219, Ar219, -, S219, N219, H219, -⟩ := id V148
                                have hin219 : ¬ (p0 < 0 ∨ cl219.slots.size ≤ (p0).toNatClampNeg) := by rw [hc217]; exact inb_of S219 ⟨by decide, by decide⟩
                                obtain ⟨cq220, kq220, q220a, q220b, q220c⟩ := isOf hZ e152 (B.2.2.2.2.2.2.2.2.2.2.2.2.2.2.2.2.2.2.2.2.2.2.2.2.2.1.ext O148.2)
                                obtain ⟨vr220, _, ⟨T220, L220, k220, n220⟩, -, X220, ⟨Lc220, hQ220, l220, y220, z220⟩, st220⟩ := X152.virtualBack hx (y := (⟨"com/example/trailwire/trailwire/status/StatusCode", "number", "()I"⟩ : MethodName)) (z := (⟨"com/example/trailwire/trailwire/status/StatusCode", "number", "()I"⟩ : MethodName)) hown (mvT hZ (hw _ (List.mem_of_getElem? (i := 48) rfl))) (mvT hZ (hw _ (List.mem_of_getElem? (i := 49) rfl))) (notFace_of_selects (args := #[]) (mvT hZ (hw _ (List.mem_of_getElem? (i := 51) rfl)))) (mvT hZ (hw _ (List.mem_of_getElem? (i := 51) rfl))) (mvT hZ (hw _ (List.mem_of_getElem? (i := 50) rfl))) (by decide) (backOf (W := 0) (rm3 l Z a0 hw [] u (u 12) (12 : Int32) B h148 n0 O148 (B.2.2.2.2.2.2.2.2.2.2.2.2.2.2.2.2.2.2.2.2.2.2.2.2.2.2.2.2.2.2.2.2.2.2.2.2.2.2.2.2.2.2.2.2.2.2.2.1.ext O148.2)) hZ (hw _ (List.mem_of_getElem? (i := 52) rfl)) (hw _ (List.mem_of_getElem? (i := 7) rfl)) (by decide) (by decide)) q220a q220c (g := (mkF m 142 #[.val (.int p0), .val (.ref b65), .val (.ref (u 12))] [(.ref (u 12))])) rfl (by rw [hml]; rfl) (Steps.refl _) (argsL := []) (rest := []) (lenOf own_pd1 rfl) rfl (by show 2 * 0 + _ ≤ _; exact Nat.le_of_eq rfl) (hb hby d1_142) (fun _ _ => ⟨rfl, e152, (by decide : 1 + 0 ≤ _), (by decide : 17 + 0 ≤ _)⟩)
                                dsimp only [Pt.U, Pt.locs, Pt.cells, Pt.slots] at X220 l220 y220 z220 st220 hQ220
                                subst l220 y220 z220
                                obtain ⟨rfl, N220q, e220⟩ := hQ220
                                have N220 := Fr.app N152 N220q
                                obtain ⟨fs, hr, hrun, hended, hW, hsame⟩ := X220.leave (v := some (.int (1 : Int32))) (fun h => by rw [Bd.returns] at h; cases h)
                                refine ⟨_, _, pre218 _ ?_, hrun, hended, _, _, rfl, ?_, ⟨_, rfl⟩, hW, hsame.mono (by decide) (by decide)⟩
                                · show Steps p.tables e below (T152.setTop (mkF m 137 #[.val (.int p0), .val (.ref b65), .val (.ref (u 12))] [(.int p0), (.ref b65), (.ref (u 12))])) _
                                  refine X152.aaload hx (j := p0) (v := (.ref (u 12))) (by rw [e152]; exact Ar219.1) (State.isArrayOf_alike hZ.alike Ar219.2.1) rfl Ar219.2.2 hin219 (H219.at hin219 (by rw [hc217]; rfl)) (g := (mkF m 137 #[.val (.int p0), .val (.ref b65), .val (.ref (u 12))] [(.int p0), (.ref b65), (.ref (u 12))])) rfl rfl (hb hby d1_137) _ ?_
                                  show Steps p.tables e below (T152.setTop (mkF m 138 #[.val (.int p0), .val (.ref b65), .val (.ref (u 12))] [(.ref (u 12)), (.ref (u 12))])) _
                                  refine Jvm.RoadKit.acmp (g := (mkF m 138 #[.val (.int p0), .val (.ref b65), .val (.ref (u 12))] [(.ref (u 12)), (.ref (u 12))])) X152 hx rfl rfl rfl (pc0 := 138) (pc' := 141) (same := true) rfl (hb hby d1_138) rfl (decide_eq_true rfl) (by decide) (by decide) ?_
                                  show Steps p.tables e below (T152.setTop (mkF m 141 #[.val (.int p0), .val (.ref b65), .val (.ref (u 12))] [])) _
                                  refine XS.aloadN X152.here hx rfl (hb hby d1_141) rfl rfl ?_
                                  show Steps p.tables e below (T152.setTop (mkF m 142 #[.val (.int p0), .val (.ref b65), .val (.ref (u 12))] [(.ref (u 12))])) _
                                  refine st220.trans ?_
                                  show Steps p.tables e below (T220.setTop (mkF m 145 #[.val (.int p0), .val (.ref b65), .val (.ref (u 12))] [(.int (12 : Int32))])) _
                                  refine XS.iloadN X220.here hx rfl (hb hby d1_145) rfl ?_
                                  show Steps p.tables e below (T220.setTop (mkF m 146 #[.val (.int p0), .val (.ref b65), .val (.ref (u 12))] [(.int p0), (.int (12 : Int32))])) _
                                  refine XS.icmpNo X220.here hx rfl (hb hby d1_146) rfl (teq (Eq.symm hc217)).2 ?_
                                  show Steps p.tables e below (T220.setTop (mkF m 149 #[.val (.int p0), .val (.ref b65), .val (.ref (u 12))] [])) _
                                  refine XS.iconst X220.here hx rfl (hb hby d1_149) ?_
                                  show Steps p.tables e below (T220.setTop (mkF m 150 #[.val (.int p0), .val (.ref b65), .val (.ref (u 12))] [(.int (1 : Int32))])) _
                                  refine XS.goto X220.here hx rfl (pc0 := 150) (pc' := 154) rfl (hb hby d1_150) (by decide) (by decide) ?_
                                  show Steps p.tables e below (T220.setTop (mkF m 154 #[.val (.int p0), .val (.ref b65), .val (.ref (u 12))] [(.int (1 : Int32))])) _
                                  exact retN X220 hx (t := .boolean) Bd.returns (by simp) (hb hby d1_154) hr
                                · show own_Q1 Z u p0 h0 n0 _ T220.heap _
                                  rw [e220]
                                  exact ⟨rfl, N220, own_ext K148⟩
                              · --
                                by_cases hc222 : p0 = (13 : Int32)
                                · --
                                  obtain rfl : vr152 = some (.ref (u 13)) := hv152.trans (by unfold own_r2; rw [if_neg hc153, if_pos hc156, if_neg hc157, if_neg hc162, if_neg hc167, if_neg hc172, if_neg hc177, if_neg hc182, if_neg hc187, if_neg hc192, if_neg hc197, if_neg hc202, if_neg hc207, if_neg hc212, if_neg hc217, if_pos hc222])
                                  have pre223 : ∀ t, Steps p.tables e below (T152.setTop (mkF m 137 #[.val (.int p0), .val (.ref b65), .val (.ref (u 13))] [(.int p0), (.ref b65), (.ref (u 13))])) t → Steps p.tables e below (s₁.setTop (entryFrame m #[(.int p0)] 3)) t := fun t kt => pre151 t (by
                                    show Steps p.tables e below (T148.setTop (mkF m 120 #[.val (.int p0), .val (.ref b65), .unset] [(.int p0)])) _
                                    refine st152 _ ?_
                                    show Steps p.tables e below (T152.setTop (mkF m 123 #[.val (.int p0), .val (.ref b65), .unset] [(.ref (u 13))])) _
                                    refine XS.astoreN X152.here hx rfl (hb hby d1_123) rfl rfl (l' := #[.val (.int p0), .val (.ref b65), .val (.ref (u 13))]) rfl ?_
                                    show Steps p.tables e below (T152.setTop (mkF m 124 #[.val (.int p0), .val (.ref b65), .val (.ref (u 13))] [])) _
                                    refine XS.iloadN X152.here hx rfl (hb hby d1_124) rfl ?_
                                    show Steps p.tables e below (T152.setTop (mkF m 125 #[.val (.int p0), .val (.ref b65), .val (.ref (u 13))] [(.int p0)])) _
                                    refine XS.ifNo X152.here hx rfl (hb hby d1_125) rfl ((if0 _ _).trans (flt hc153).1) ?_
                                    show Steps p.tables e below (T152.setTop (mkF m 128 #[.val (.int p0), .val (.ref b65), .val (.ref (u 13))] [])) _
                                    refine XS.iloadN X152.here hx rfl (hb hby d1_128) rfl ?_
                                    show Steps p.tables e below (T152.setTop (mkF m 129 #[.val (.int p0), .val (.ref b65), .val (.ref (u 13))] [(.int p0)])) _
                                    refine XS.bipush X152.here hx rfl (hb hby d1_129) ?_
                                    show Steps p.tables e below (T152.setTop (mkF m 131 #[.val (.int p0), .val (.ref b65), .val (.ref (u 13))] [(.int (16 : Int32)), (.int p0)])) _
                                    refine XS.icmpNo X152.here hx rfl (hb hby d1_131) rfl (flt (by rw [hc222]; decide : ¬ ((16 : Int32) < p0))).2.2.1 ?_
                                    show Steps p.tables e below (T152.setTop (mkF m 134 #[.val (.int p0), .val (.ref b65), .val (.ref (u 13))] [])) _
                                    refine XS.aloadN X152.here hx rfl (hb hby d1_134) rfl rfl ?_
                                    show Steps p.tables e below (T152.setTop (mkF m 135 #[.val (.int p0), .val (.ref b65), .val (.ref (u 13))] [(.ref (u 13))])) _
                                    refine XS.aloadN X152.here hx rfl (hb hby d1_135) rfl rfl ?_
                                    show Steps p.tables e below (T152.setTop (mkF m 136 #[.val (.int p0), .val (.ref b65), .val (.ref (u 13))] [(.ref b65), (.ref (u 13))])) _
                                    refine XS.iloadN X152.here hx rfl (hb hby d1_136) rfl ?_
                                    exact kt)
                                  obtain ⟨cl224, Ar224, -, S224, N224, H224, -⟩ := id V148
                                  have hin224 : ¬ (p0 < 0 ∨ cl224.slots.size ≤ (p0).toNatClampNeg) := by rw [hc222]; exact inb_of S224 ⟨by decide, by decide⟩
                                  obtain ⟨cq225, kq225, q225a, q225b, q225c⟩ := isOf hZ e152 (B.2.2.2.2.2.2.2.2.2.2.2.2.2.2.2.2.2.2.2.2.2.2.2.2.2.2.2.1.ext O148.2)
                                  obtain ⟨vr225, _, ⟨T225, L225, k225, n225⟩, -, X225, ⟨Lc225, hQ225, l225, y225, z225⟩, st225⟩ := X152.virtualBack hx (y := (⟨"com/example/trailwire/trailwire/status/StatusCode", "number", "()I"⟩ : MethodName)) (z := (⟨"com/example/trailwire/trailwire/status/StatusCode", "number", "()I"⟩ : MethodName)) hown (mvT hZ (hw _ (List.mem_of_getElem? (i := 48) rfl))) (mvT hZ (hw _ (List.mem_of_getElem? (i := 49) rfl))) (notFace_of_selects (args := #[]) (mvT hZ (hw _ (List.mem_of_getElem? (i := 51) rfl)))) (mvT hZ (hw _ (List.mem_of_getElem? (i := 51) rfl))) (mvT hZ (hw _ (List.mem_of_getElem? (i := 50) rfl))) (by decide) (backOf (W := 0) (rm3 l Z a0 hw [] u (u 13) (13 : Int32) B h148 n0 O148 (B.2.2.2.2.2.2.2.2.2.2.2.2.2.2.2.2.2.2.2.2.2.2.2.2.2.2.2.2.2.2.2.2.2.2.2.2.2.2.2.2.2.2.2.2.2.2.2.2.1.ext O148.2)) hZ (hw _ (List.mem_of_getElem? (i := 52) rfl)) (hw _ (List.mem_of_getElem? (i := 7) rfl)) (by decide) (by decide)) q225a q225c (g := (mkF m 142 #[.val (.int p0), .val (.ref b65), .val (.ref (u 13))] [(.ref (u 13))])) rfl (by rw [hml]; rfl) (Steps.refl _) (argsL := []) (rest := []) (lenOf own_pd1 rfl) rfl (by show 2 * 0 + _ ≤ _; exact Nat.le_of_eq rfl) (hb hby d1_142) (fun _ _ => ⟨rfl, e152, (by decide : 1 + 0 ≤ _), (by decide : 17 + 0 ≤ _)⟩)
                                  dsimp only [Pt.U, Pt.locs, Pt.cells, Pt.slots] at X225 l225 y225 z225 st225 hQ225
                                  subst l225 y225 z225
                                  obtain ⟨rfl, N225q, e225⟩ := hQ225
                                  have N225 := Fr.app N152 N225q
                                  obtain ⟨fs, hr, hrun, hended, hW, hsame⟩ := X225.leave (v := some (.int (1 : Int32))) (fun h => by rw [Bd.returns] at h; cases h)
                                  refine ⟨_, _, pre223 _ ?_, hrun, hended, _, _, rfl, ?_, ⟨_, rfl⟩, hW, hsame.mono (by decide) (by decide)⟩
                                  · show Steps p.tables e below (T152.setTop (mkF m 137 #[.val (.int p0), .val (.ref b65), .val (.ref (u 13))] [(.int p0), (.ref b65), (.ref (u 13))])) _
                                    refine X152.aaload hx (j := p0) (v := (.ref (u 13))) (by rw [e152]; exact Ar224.1) (State.isArrayOf_alike hZ.alike Ar224.2.1) rfl Ar224.2.2 hin224 (H224.at hin224 (by rw [hc222]; rfl)) (g := (mkF m 137 #[.val (.int p0), .val (.ref b65), .val (.ref (u 13))] [(.int p0), (.ref b65), (.ref (u 13))])) rfl rfl (hb hby d1_137) _ ?_
                                    show Steps p.tables e below (T152.setTop (mkF m 138 #[.val (.int p0), .val (.ref b65), .val (.ref (u 13))] [(.ref (u 13)), (.ref (u 13))])) _
                                    refine Jvm.RoadKit.acmp (g := (mkF m 138 #[.val (.int p0), .val (.ref b65), .val (.ref (u 13))] [(.ref (u 13)), (.ref (u 13))])) X152 hx rfl rfl rfl (pc0 := 138) (pc' := 141) (same := true) rfl (hb hby d1_138) rfl (decide_eq_true rfl) (by decide) (by decide) ?_
                                    show Steps p.tables e below (T152.setTop (mkF m 141 #[.val (.int p0), .val (.ref b65), .val (.ref (u 13))] [])) _
                                    refine XS.aloadN X152.here hx rfl (hb hby d1_141) rfl rfl ?_
                                    show Steps p.tables e below (T152.setTop (mkF m 142 #[.val (.int p0), .val (.ref b65), .val (.ref (u 13))] [(.ref (u 13))])) _
                                    refine st225.trans ?_
                                    show Steps p.tables e below (T225.setTop (mkF m 145 #[.val (.int p0), .val (.ref b65), .val (.ref (u 13))] [(.int (13 : Int32))])) _
                                    refine XS.iloadN X225.here hx rfl (hb hby d1_145) rfl ?_
                                    show Steps p.tables e below (T225.setTop (mkF m 146 #[.val (.int p0), .val (.ref b65), .val (.ref (u 13))] [(.int p0), (.int (13 : Int32))])) _
                                    refine XS.icmpNo X225.here hx rfl (hb hby d1_146) rfl (teq (Eq.symm hc222)).2 ?_
                                    show Steps p.tables e below (T225.setTop (mkF m 149 #[.val (.int p0), .val (.ref b65), .val (.ref (u 13))] [])) _
                                    refine XS.iconst X225.here hx rfl (hb hby d1_149) ?_
                                    show Steps p.tables e below (T225.setTop (mkF m 150 #[.val (.int p0), .val (.ref b65), .val (.ref (u 13))] [(.int (1 : Int32))])) _
                                    refine XS.goto X225.here hx rfl (pc0 := 150) (pc' := 154) rfl (hb hby d1_150) (by decide) (by decide) ?_
                                    show Steps p.tables e below (T225.setTop (mkF m 154 #[.val (.int p0), .val (.ref b65), .val (.ref (u 13))] [(.int (1 : Int32))])) _
                                    exact retN X225 hx (t := .boolean) Bd.returns (by simp) (hb hby d1_154) hr
                                  · show own_Q1 Z u p0 h0 n0 _ T225.heap _
                                    rw [e225]
                                    exact ⟨rfl, N225, own_ext K148⟩
                                · --
                                  by_cases hc227 : p0 = (14 : Int32)
                                  · --
                                    obtain rfl : vr152 = some (.ref (u 14)) := hv152.trans (by unfold own_r2; rw [if_neg hc153, if_pos hc156, if_neg hc157, if_neg hc162, if_neg hc167, if_neg hc172, if_neg hc177, if_neg hc182, if_neg hc187, if_neg hc192, if_neg hc197, if_neg hc202, if_neg hc207, if_neg hc212, if_neg hc217, if_neg hc222, if_pos hc227])
                                    have pre228 : ∀ t, Steps p.tables e below (T152.setTop (mkF m 137 #[.val (.int p0), .val (.ref b65), .val (.ref (u 14))] [(.int p0), (.ref b65), (.ref (u 14))])) t → Steps p.tables e below (s₁.setTop (entryFrame m #[(.int p0)] 3)) t := fun t kt => pre151 t (by
                                      show Steps p.tables e below (T148.setTop (mkF m 120 #[.val (.int p0), .val (.ref b65), .unset] [(.int p0)])) _
                                      refine st152 _ ?_
                                      show Steps p.tables e below (T152.setTop (mkF m 123 #[.val (.int p0), .val (.ref b65), .unset] [(.ref (u 14))])) _
                                      refine XS.astoreN X152.here hx rfl (hb hby d1_123) rfl rfl (l' := #[.val (.int p0), .val (.ref b65), .val (.ref (u 14))]) rfl ?_
                                      show Steps p.tables e below (T152.setTop (mkF m 124 #[.val (.int p0), .val (.ref b65), .val (.ref (u 14))] [])) _
                                      refine XS.iloadN X152.here hx rfl (hb hby d1_124) rfl ?_
                                      show Steps p.tables e below (T152.setTop (mkF m 125 #[.val (.int p0), .val (.ref b65), .val (.ref (u 14))] [(.int p0)])) _
                                      refine XS.ifNo X152.here hx rfl (hb hby d1_125) rfl ((if0 _ _).trans (flt hc153).1) ?_
                                      show Steps p.tables e below (T152.setTop (mkF m 128 #[.val (.int p0), .val (.ref b65), .val (.ref (u 14))] [])) _
                                      refine XS.iloadN X152.here hx rfl (hb hby d1_128) rfl ?_
                                      show Steps p.tables e below (T152.setTop (mkF m 129 #[.val (.int p0), .val (.ref b65), .val (.ref (u 14))] [(.int p0)])) _
                                      refine XS.bipush X152.here hx rfl (hb hby d1_129) ?_
                                      show Steps p.tables e below (T152.setTop (mkF m 131 #[.val (.int p0), .val (.ref b65), .val (.ref (u 14))] [(.int (16 : Int32)), (.int p0)])) _
                                      refine XS.icmpNo X152.here hx rfl (hb hby d1_131) rfl (flt (by rw [hc227]; decide : ¬ ((16 : Int32) < p0))).2.2.1 ?_
                                      show Steps p.tables e below (T152.setTop (mkF m 134 #[.val (.int p0), .val (.ref b65), .val (.ref (u 14))] [])) _
                                      refine XS.aloadN X152.here hx rfl (hb hby d1_134) rfl rfl ?_
                                      show Steps p.tables e below (T152.setTop (mkF m 135 #[.val (.int p0), .val (.ref b65), .val (.ref (u 14))] [(.ref (u 14))])) _
                                      refine XS.aloadN X152.here hx rfl (hb hby d1_135) rfl rfl ?_
                                      show Steps p.tables e below (T152.setTop (mkF m 136 #[.val (.int p0), .val (.ref b65), .val (.ref (u 14))] [(.ref b65), (.ref (u 14))])) _
                                      refine XS.iloadN X152.here hx rfl (hb hby d1_136) rfl ?_
                                      exact kt)
                                    obtain ⟨cl229, Ar229, -, S229, N229, H229, -⟩ := id V148
                                    have hin229 : ¬ (p0 < 0 ∨ cl229.slots.size ≤ (p0).toNatClampNeg) := by rw [hc227]; exact inb_of S229 ⟨by decide, by decide⟩
                                    obtain ⟨cq230, kq230, q230a, q230b, q230c⟩ := isOf hZ e152 (B.2.2.2.2.2.2.2.2.2.2.2.2.2.2.2.2.2.2.2.2.2.2.2.2.2.2.2.2.2.1.ext O148.2)
                                    obtain ⟨vr230, _, ⟨T230, L230, k230, n230⟩, -, X230, ⟨Lc230, hQ230, l230, y230, z230⟩, st230⟩ := X152.virtualBack hx (y := (⟨"com/example/trailwire/trailwire/status/StatusCode", "number", "()I"⟩ : MethodName)) (z := (⟨"com/example/trailwire/trailwire/status/StatusCode", "number", "()I"⟩ : MethodName)) hown (mvT hZ (hw _ (List.mem_of_getElem? (i := 48) rfl))) (mvT hZ (hw _ (List.mem_of_getElem? (i := 49) rfl))) (notFace_of_selects (args := #[]) (mvT hZ (hw _ (List.mem_of_getElem? (i := 51) rfl)))) (mvT hZ (hw _ (List.mem_of_getElem? (i := 51) rfl))) (mvT hZ (hw _ (List.mem_of_getElem? (i := 50) rfl))) (by decide) (backOf (W := 0) (rm3 l Z a0 hw [] u (u 14) (14 : Int32) B h148 n0 O148 (B.2.2.2.2.2.2.2.2.2.2.2.2.2.2.2.2.2.2.2.2.2.2.2.2.2.2.2.2.2.2.2.2.2.2.2.2.2.2.2.2.2.2.2.2.2.2.2.2.2.1.ext O148.2)) hZ (hw _ (List.mem_of_getElem? (i := 52) rfl)) (hw _ (List.mem_of_getElem? (i := 7) rfl)) (by decide) (by decide)) q230a q230c (g := (mkF m 142 #[.val (.int p0), .val (.ref b65), .val (.ref (u 14))] [(.ref (u 14))])) rfl (by rw [hml]; rfl) (Steps.refl _) (argsL := []) (rest := []) (lenOf own_pd1 rfl) rfl (by show 2 * 0 + _ ≤ _; exact Nat.le_of_eq rfl) (hb hby d1_142) (fun _ _ => ⟨rfl, e152, (by decide : 1 + 0 ≤ _), (by decide : 17 + 0 ≤ _)⟩)
                                    dsimp only [Pt.U, Pt.locs, Pt.cells, Pt.slots] at X230 l230 y230 z230 st230 hQ230
                                    subst l230 y230 z230
                                    obtain ⟨rfl, N230q, e230⟩ := hQ230
                                    have N230 := Fr.app N152 N230q
                                    obtain ⟨fs, hr, hrun, hended, hW, hsame⟩ := X230.leave (v := some (.int (1 : Int32))) (fun h => by rw [Bd.returns] at h; cases h)
                                    refine ⟨_, _, pre228 _ ?_, hrun, hended, _, _, rfl, ?_, ⟨_, rfl⟩, hW, hsame.mono (by decide) (by decide)⟩
                                    · show Steps p.tables e below (T152.setTop (mkF m 137 #[.val (.int p0), .val (.ref b65), .val (.ref (u 14))] [(.int p0), (.ref b65), (.ref (u 14))])) _
                                      refine X152.aaload hx (j := p0) (v := (.ref (u 14))) (by rw [e152]; exact Ar229.1) (State.isArrayOf_alike hZ.alike Ar229.2.1) rfl Ar229.2.2 hin229 (H229.at hin229 (by rw [hc227]; rfl)) (g := (mkF m 137 #[.val (.int p0), .val (.ref b65), .val (.ref (u 14))] [(.int p0), (.ref b65), (.ref (u 14))])) rfl rfl (hb hby d1_137) _ ?_
                                      show Steps p.tables e below (T152.setTop (mkF m 138 #[.val (.int p0), .val (.ref b65), .val (.ref (u 14))] [(.ref (u 14)), (.ref (u 14))])) _
                                      refine Jvm.RoadKit.acmp (g := (mkF m 138 #[.val (.int p0), .val (.ref b65), .val (.ref (u 14))] [(.ref (u 14)), (.ref (u 14))])) X152 hx rfl rfl rfl (pc0 := 138) (pc' := 141) (same := true) rfl (hb hby d1_138) rfl (decide_eq_true rfl) (by decide) (by decide) ?_
                                      show Steps p.tables e below (T152.setTop (mkF m 141 #[.val (.int p0), .val (.ref b65), .val (.ref (u 14))] [])) _
                                      refine XS.aloadN X152.here hx rfl (hb hby d1_141) rfl rfl ?_
                                      show Steps p.tables e below (T152.setTop (mkF m 142 #[.val (.int p0), .val (.ref b65), .val (.ref (u 14))] [(.ref (u 14))])) _
                                      refine st230.trans ?_
                                      show Steps p.tables e below (T230.setTop (mkF m 145 #[.val (.int p0), .val (.ref b65), .val (.ref (u 14))] [(.int (14 : Int32))])) _
                                      refine XS.iloadN X230.here hx rfl (hb hby d1_145) rfl ?_
                                      show Steps p.tables e below (T230.setTop (mkF m 146 #[.val (.int p0), .val (.ref b65), .val (.ref (u 14))] [(.int p0), (.int (14 : Int32))])) _
                                      refine XS.icmpNo X230.here hx rfl (hb hby d1_146) rfl (teq (Eq.symm hc227)).2 ?_
                                      show Steps p.tables e below (T230.setTop (mkF m 149 #[.val (.int p0), .val (.ref b65), .val (.ref (u 14))] [])) _
                                      refine XS.iconst X230.here hx rfl (hb hby d1_149) ?_
                                      show Steps p.tables e below (T230.setTop (mkF m 150 #[.val (.int p0), .val (.ref b65), .val (.ref (u 14))] [(.int (1 : Int32))])) _
                                      refine XS.goto X230.here hx rfl (pc0 := 150) (pc' := 154) rfl (hb hby d1_150) (by decide) (by decide) ?_
                                      show Steps p.tables e below (T230.setTop (mkF m 154 #[.val (.int p0), .val (.ref b65), .val (.ref (u 14))] [(.int (1 : Int32))])) _
                                      exact retN X230 hx (t := .boolean) Bd.returns (by simp) (hb hby d1_154) hr
                                    · show own_Q1 Z u p0 h0 n0 _ T230.heap _
                                      rw [e230]
                                      exact ⟨rfl, N230, own_ext K148⟩
                                  · --
                                    by_cases hc232 : p0 = (15 : Int32)
                                    · --
                                      obtain rfl : vr152 = some (.ref (u 15)) := hv152.trans (by unfold own_r2; rw [if_neg hc153, if_pos hc156, if_neg hc157, if_neg hc162, if_neg hc167, if_neg hc172, if_neg hc177, if_neg hc182, if_neg hc187, if_neg hc192, if_neg hc197, if_neg hc202, if_neg hc207, if_neg hc212, if_neg hc217, if_neg hc222, if_neg hc227, if_pos hc232])
                                      have pre233 : ∀ t, Steps p.tables e below (T152.setTop (mkF m 137 #[.val (.int p0), .val (.ref b65), .val (.ref (u 15))] [(.int p0), (.ref b65), (.ref (u 15))])) t → Steps p.tables e below (s₁.setTop (entryFrame m #[(.int p0)] 3)) t := fun t kt => pre151 t (by
                                        show Steps p.tables e below (T148.setTop (mkF m 120 #[.val (.int p0), .val (.ref b65), .unset] [(.int p0)])) _
                                        refine st152 _ ?_
                                        show Steps p.tables e below (T152.setTop (mkF m 123 #[.val (.int p0), .val (.ref b65), .unset] [(.ref (u 15))])) _
                                        refine XS.astoreN X152.here hx rfl (hb hby d1_123) rfl rfl (l' := #[.val (.int p0), .val (.ref b65), .val (.ref (u 15))]) rfl ?_
                                        show Steps p.tables e below (T152.setTop (mkF m 124 #[.val (.int p0), .val (.ref b65), .val (.ref (u 15))] [])) _
                                        refine XS.iloadN X152.here hx rfl (hb hby d1_124) rfl ?_
                                        show Steps p.tables e below (T152.setTop (mkF m 125 #[.val (.int p0), .val (.ref b65), .val (.ref (u 15))] [(.int p0)])) _
                                        refine XS.ifNo X152.here hx rfl (hb hby d1_125) rfl ((if0 _ _).trans (flt hc153).1) ?_
                                        show Steps p.tables e below (T152.setTop (mkF m 128 #[.val (.int p0), .val (.ref b65), .val (.ref (u 15))] [])) _
                                        refine XS.iloadN X152.here hx rfl (hb hby d1_128) rfl ?_
                                        show Steps p.tables e below (T152.setTop (mkF m 129 #[.val (.int p0), .val (.ref b65), .val (.ref (u 15))] [(.int p0)])) _
                                        refine XS.bipush X152.here hx rfl (hb hby d1_129) ?_
                                        show Steps p.tables e below (T152.setTop (mkF m 131 #[.val (.int p0), .val (.ref b65), .val (.ref (u 15))] [(.int (16 : Int32)), (.int p0)])) _
                                        refine XS.icmpNo X152.here hx rfl (hb hby d1_131) rfl (flt (by rw [hc232]; decide : ¬ ((16 : Int32) < p0))).2.2.1 ?_
                                        show Steps p.tables e below (T152.setTop (mkF m 134 #[.val (.int p0), .val (.ref b65), .val (.ref (u 15))] [])) _
                                        refine XS.aloadN X152.here hx rfl (hb hby d1_134) rfl rfl ?_
                                        show Steps p.tables e below (T152.setTop (mkF m 135 #[.val (.int p0), .val (.ref b65), .val (.ref (u 15))] [(.ref (u 15))])) _
                                        refine XS.aloadN X152.here hx rfl (hb hby d1_135) rfl rfl ?_
                                        show Steps p.tables e below (T152.setTop (mkF m 136 #[.val (.int p0), .val (.ref b65), .val (.ref (u 15))] [(.ref b65), (.ref (u 15))])) _
                                        refine XS.iloadN X152.here hx rfl (hb hby d1_136) rfl ?_
                                        exact kt)
                                      obtain ⟨cl234, Ar234, -, S234, N234, H234, -⟩ := id V148
                                      have hin234 : ¬ (p0 < 0 ∨ cl234.slots.size ≤ (p0).toNatClampNeg) := by rw [hc232]; exact inb_of S234 ⟨by decide, by decide⟩
                                      obtain ⟨cq235, kq235, q235a, q235b, q235c⟩ := isOf hZ e152 (B.2.2.2.2.2.2.2.2.2.2.2.2.2.2.2.2.2.2.2.2.2.2.2.2.2.2.2.2.2.2.2.1.ext O148.2)
                                      obtain ⟨vr235, _, ⟨T235, L235, k235, n235⟩, -, X235, ⟨Lc235, hQ235, l235, y235, z235⟩, st235⟩ := X152.virtualBack hx (y := (⟨"com/example/trailwire/trailwire/status/StatusCode", "number", "()I"⟩ : MethodName)) (z := (⟨"com/example/trailwire/trailwire/status/StatusCode", "number", "()I"⟩ : MethodName)) hown (mvT hZ (hw _ (List.mem_of_getElem? (i := 48) rfl))) (mvT hZ (hw _ (List.mem_of_getElem? (i := 49) rfl))) (notFace_of_selects (args := #[]) (mvT hZ (hw _ (List.mem_of_getElem? (i := 51) rfl)))) (mvT hZ (hw _ (List.mem_of_getElem? (i := 51) rfl))) (mvT hZ (hw _ (List.mem_of_getElem? (i := 50) rfl))) (by decide) (backOf (W := 0) (rm3 l Z a0 hw [] u (u 15) (15 : Int32) B h148 n0 O148 (B.2.2.2.2.2.2.2.2.2.2.2.2.2.2.2.2.2.2.2.2.2.2.2.2.2.2.2.2.2.2.2.2.2.2.2.2.2.2.2.2.2.2.2.2.2.2.2.2.2.2.1.ext O148.2)) hZ (hw _ (List.mem_of_getElem? (i := 52) rfl)) (hw _ (List.mem_of_getElem? (i := 7) rfl)) (by decide) (by decide)) q235a q235c (g := (mkF m 142 #[.val (.int p0), .val (.ref b65), .val (.ref (u 15))] [(.ref (u 15))])) rfl (by rw [hml]; rfl) (Steps.refl _) (argsL := []) (rest := []) (lenOf own_pd1 rfl) rfl (by show 2 * 0 + _ ≤ _; exact Nat.le_of_eq rfl) (hb hby d1_142) (fun _ _ => ⟨rfl, e152, (by decide : 1 + 0 ≤ _), (by decide : 17 + 0 ≤ _)⟩)
                                      dsimp only [Pt.U, Pt.locs, Pt.cells, Pt.slots] at X235 l235 y235 z235 st235 hQ235
                                      subst l235 y235 z235
                                      obtain ⟨rfl, N235q, e235⟩ := hQ235
                                      have N235 := Fr.app N152 N235q
                                      obtain ⟨fs, hr, hrun, hended, hW, hsame⟩ := X235.leave (v := some (.int (1 : Int32))) (fun h => by rw [Bd.returns] at h; cases h)
                                      refine ⟨_, _, pre233 _ ?_, hrun, hended, _, _, rfl, ?_, ⟨_, rfl⟩, hW, hsame.mono (by decide) (by decide)⟩
                                      · show Steps p.tables e below (T152.setTop (mkF m 137 #[.val (.int p0), .val (.ref b65), .val (.ref (u 15))] [(.int p0), (.ref b65), (.ref (u 15))])) _
                                        refine X152.aaload hx (j := p0) (v := (.ref (u 15))) (by rw [e152]; exact Ar234.1) (State.isArrayOf_alike hZ.alike Ar234.2.1) rfl Ar234.2.2 hin234 (H234.at hin234 (by rw [hc232]; rfl)) (g := (mkF m 137 #[.val (.int p0), .val (.ref b65), .val (.ref (u 15))] [(.int p0), (.ref b65), (.ref (u 15))])) rfl rfl (hb hby d1_137) _ ?_
                                        show Steps p.tables e below (T152.setTop (mkF m 138 #[.val (.int p0), .val (.ref b65), .val (.ref (u 15))] [(.ref (u 15)), (.ref (u 15))])) _
                                        refine Jvm.RoadKit.acmp (g := (mkF m 138 #[.val (.int p0), .val (.ref b65), .val (.ref (u 15))] [(.ref (u 15)), (.ref (u 15))])) X152 hx rfl rfl rfl (pc0 := 138) (pc' := 141) (same := true) rfl (hb hby d1_138) rfl (decide_eq_true rfl) (by decide) (by decide) ?_
                                        show Steps p.tables e below (T152.setTop (mkF m 141 #[.val (.int p0), .val (.ref b65), .val (.ref (u 15))] [])) _
                                        refine XS.aloadN X152.here hx rfl (hb hby d1_141) rfl rfl ?_
                                        show Steps p.tables e below (T152.setTop (mkF m 142 #[.val (.int p0), .val (.ref b65), .val (.ref (u 15))] [(.ref (u 15))])) _
                                        refine st235.trans ?_
                                        show Steps p.tables e below (T235.setTop (mkF m 145 #[.val (.int p0), .val (.ref b65), .val (.ref (u 15))] [(.int (15 : Int32))])) _
                                        refine XS.iloadN X235.here hx rfl (hb hby d1_145) rfl ?_
                                        show Steps p.tables e below (T235.setTop (mkF m 146 #[.val (.int p0), .val (.ref b65), .val (.ref (u 15))] [(.int p0), (.int (15 : Int32))])) _
                                        refine XS.icmpNo X235.here hx rfl (hb hby d1_146) rfl (teq (Eq.symm hc232)).2 ?_
                                        show Steps p.tables e below (T235.setTop (mkF m 149 #[.val (.int p0), .val (.ref b65), .val (.ref (u 15))] [])) _
                                        refine XS.iconst X235.here hx rfl (hb hby d1_149) ?_
                                        show Steps p.tables e below (T235.setTop (mkF m 150 #[.val (.int p0), .val (.ref b65), .val (.ref (u 15))] [(.int (1 : Int32))])) _
                                        refine XS.goto X235.here hx rfl (pc0 := 150) (pc' := 154) rfl (hb hby d1_150) (by decide) (by decide) ?_
                                        show Steps p.tables e below (T235.setTop (mkF m 154 #[.val (.int p0), .val (.ref b65), .val (.ref (u 15))] [(.int (1 : Int32))])) _
                                        exact retN X235 hx (t := .boolean) Bd.returns (by simp) (hb hby d1_154) hr
                                      · show own_Q1 Z u p0 h0 n0 _ T235.heap _
                                        rw [e235]
                                        exact ⟨rfl, N235, own_ext K148⟩
                                    · --
                                      by_cases hc237 : p0 = (16 : Int32)
                                      · --
                                        obtain rfl : vr152 = some (.ref (u 16)) := hv152.trans (by unfold own_r2; rw [if_neg hc153, if_pos hc156, if_neg hc157, if_neg hc162, if_neg hc167, if_neg hc172, if_neg hc177, if_neg hc182, if_neg hc187, if_neg hc192, if_neg hc197, if_neg hc202, if_neg hc207, if_neg hc212, if_neg hc217, if_neg hc222, if_neg hc227, if_neg hc232, if_pos hc237])
                                        have pre238 : ∀ t, Steps p.tables e below (T152.setTop (mkF m 137 #[.val (.int p0), .val (.ref b65), .val (.ref (u 16))] [(.int p0), (.ref b65), (.ref (u 16))])) t → Steps p.tables e below (s₁.setTop (entryFrame m #[(.int p0)] 3)) t := fun t kt => pre151 t (by
                                          show Steps p.tables e below (T148.setTop (mkF m 120 #[.val (.int p0), .val (.ref b65), .unset] [(.int p0)])) _
                                          refine st152 _ ?_
                                          show Steps p.tables e below (T152.setTop (mkF m 123 #[.val (.int p0), .val (.ref b65), .unset] [(.ref (u 16))])) _
                                          refine XS.astoreN X152.here hx rfl (hb hby d1_123) rfl rfl (l' := #[.val (.int p0), .val (.ref b65), .val (.ref (u 16))]) rfl ?_
                                          show Steps p.tables e below (T152.setTop (mkF m 124 #[.val (.int p0), .val (.ref b65), .val (.ref (u 16))] [])) _
                                          refine XS.iloadN X152.here hx rfl (hb hby d1_124) rfl ?_
                                          show Steps p.tables e below (T152.setTop (mkF m 125 #[.val (.int p0), .val (.ref b65), .val (.ref (u 16))] [(.int p0)])) _
                                          refine XS.ifNo X152.here hx rfl (hb hby d1_125) rfl ((if0 _ _).trans (flt hc153).1) ?_
                                          show Steps p.tables e below (T152.setTop (mkF m 128 #[.val (.int p0), .val (.ref b65), .val (.ref (u 16))] [])) _
                                          refine XS.iloadN X152.here hx rfl (hb hby d1_128) rfl ?_
                                          show Steps p.tables e below (T152.setTop (mkF m 129 #[.val (.int p0), .val (.ref b65), .val (.ref (u 16))] [(.int p0)])) _
                                          refine XS.bipush X152.here hx rfl (hb hby d1_129) ?_
                                          show Steps p.tables e below (T152.setTop (mkF m 131 #[.val (.int p0), .val (.ref b65), .val (.ref (u 16))] [(.int (16 : Int32)), (.int p0)])) _
                                          refine XS.icmpNo X152.here hx rfl (hb hby d1_131) rfl (flt (by rw [hc237]; decide : ¬ ((16 : Int32) < p0))).2.2.1 ?_
                                          show Steps p.tables e below (T152.setTop (mkF m 134 #[.val (.int p0), .val (.ref b65), .val (.ref (u 16))] [])) _
                                          refine XS.aloadN X152.here hx rfl (hb hby d1_134) rfl rfl ?_
                                          show Steps p.tables e below (T152.setTop (mkF m 135 #[.val (.int p0), .val (.ref b65), .val (.ref (u 16))] [(.ref (u 16))])) _
                                          refine XS.aloadN X152.here hx rfl (hb hby d1_135) rfl rfl ?_
                                          show Steps p.tables e below (T152.setTop (mkF m 136 #[.val (.int p0), .val (.ref b65), .val (.ref (u 16))] [(.ref b65), (.ref (u 16))])) _
                                          refine XS.iloadN X152.here hx rfl (hb hby d1_136) rfl ?_
                                          exact kt)
                                        obtain ⟨cl239, Ar239, -, S239, N239, H239, -⟩ := id V148
                                        have hin239 : ¬ (p0 < 0 ∨ cl239.slots.size ≤ (p0).toNatClampNeg) := by rw [hc237]; exact inb_of S239 ⟨by decide, by decide⟩
                                        obtain ⟨cq240, kq240, q240a, q240b, q240c⟩ := isOf hZ e152 (B.2.2.2.2.2.2.2.2.2.2.2.2.2.2.2.2.2.2.2.2.2.2.2.2.2.2.2.2.2.2.2.2.2.1.ext O148.2)
                                        obtain ⟨vr240, _, ⟨T240, L240, k240, n240⟩, -, X240, ⟨Lc240, hQ240, l240, y240, z240⟩, st240⟩ := X152.virtualBack hx (y := (⟨"com/example/trailwire/trailwire/status/StatusCode", "number", "()I"⟩ : MethodName)) (z := (⟨"com/example/trailwire/trailwire/status/StatusCode", "number", "()I"⟩ : MethodName)) hown (mvT hZ (hw _ (List.mem_of_getElem? (i := 48) rfl))) (mvT hZ (hw _ (List.mem_of_getElem? (i := 49) rfl))) (notFace_of_selects (args := #[]) (mvT hZ (hw _ (List.mem_of_getElem? (i := 51) rfl)))) (mvT hZ (hw _ (List.mem_of_getElem? (i := 51) rfl))) (mvT hZ (hw _ (List.mem_of_getElem? (i := 50) rfl))) (by decide) (backOf (W := 0) (rm3 l Z a0 hw [] u (u 16) (16 : Int32) B h148 n0 O148 (B.2.2.2.2.2.2.2.2.2.2.2.2.2.2.2.2.2.2.2.2.2.2.2.2.2.2.2.2.2.2.2.2.2.2.2.2.2.2.2.2.2.2.2.2.2.2.2.2.2.2.2.1.ext O148.2)) hZ (hw _ (List.mem_of_getElem? (i := 52) rfl)) (hw _ (List.mem_of_getElem? (i := 7) rfl)) (by decide) (by decide)) q240a q240c (g := (mkF m 142 #[.val (.int p0), .val (.ref b65), .val (.ref (u 16))] [(.ref (u 16))])) rfl (by rw [hml]; rfl) (Steps.refl _) (argsL := []) (rest := []) (lenOf own_pd1 rfl) rfl (by show 2 * 0 + _ ≤ _; exact Nat.le_of_eq rfl) (hb hby d1_142) (fun _ _ => ⟨rfl, e152, (by decide : 1 + 0 ≤ _), (by decide : 17 + 0 ≤ _)⟩)
                                        dsimp only [Pt.U, Pt.locs, Pt.cells, Pt.slots] at X240 l240 y240 z240 st240 hQ240
                                        subst l240 y240 z240
                                        obtain ⟨rfl, N240q, e240⟩ := hQ240
                                        have N240 := Fr.app N152 N240q
                                        obtain ⟨fs, hr, hrun, hended, hW, hsame⟩ := X240.leave (v := some (.int (1 : Int32))) (fun h => by rw [Bd.returns] at h; cases h)
                                        refine ⟨_, _, pre238 _ ?_, hrun, hended, _, _, rfl, ?_, ⟨_, rfl⟩, hW, hsame.mono (by decide) (by decide)⟩
                                        · show Steps p.tables e below (T152.setTop (mkF m 137 #[.val (.int p0), .val (.ref b65), .val (.ref (u 16))] [(.int p0), (.ref b65), (.ref (u 16))])) _
                                          refine X152.aaload hx (j := p0) (v := (.ref (u 16))) (by rw [e152]; exact Ar239.1) (State.isArrayOf_alike hZ.alike Ar239.2.1) rfl Ar239.2.2 hin239 (H239.at hin239 (by rw [hc237]; rfl)) (g := (mkF m 137 #[.val (.int p0), .val (.ref b65), .val (.ref (u 16))] [(.int p0), (.ref b65), (.ref (u 16))])) rfl rfl (hb hby d1_137) _ ?_
                                          show Steps p.tables e below (T152.setTop (mkF m 138 #[.val (.int p0), .val (.ref b65), .val (.ref (u 16))] [(.ref (u 16)), (.ref (u 16))])) _
                                          refine Jvm.RoadKit.acmp (g := (mkF m 138 #[.val (.int p0), .val (.ref b65), .val (.ref (u 16))] [(.ref (u 16)), (.ref (u 16))])) X152 hx rfl rfl rfl (pc0 := 138) (pc' := 141) (same := true) rfl (hb hby d1_138) rfl (decide_eq_true rfl) (by decide) (by decide) ?_
                                          show Steps p.tables e below (T152.setTop (mkF m 141 #[.val (.int p0), .val (.ref b65), .val (.ref (u 16))] [])) _
                                          refine XS.aloadN X152.here hx rfl (hb hby d1_141) rfl rfl ?_
                                          show Steps p.tables e below (T152.setTop (mkF m 142 #[.val (.int p0), .val (.ref b65), .val (.ref (u 16))] [(.ref (u 16))])) _
                                          refine st240.trans ?_
                                          show Steps p.tables e below (T240.setTop (mkF m 145 #[.val (.int p0), .val (.ref b65), .val (.ref (u 16))] [(.int (16 : Int32))])) _
                                          refine XS.iloadN X240.here hx rfl (hb hby d1_145) rfl ?_
                                          show Steps p.tables e below (T240.setTop (mkF m 146 #[.val (.int p0), .val (.ref b65), .val (.ref (u 16))] [(.int p0), (.int (16 : Int32))])) _
                                          refine XS.icmpNo X240.here hx rfl (hb hby d1_146) rfl (teq (Eq.symm hc237)).2 ?_
                                          show Steps p.tables e below (T240.setTop (mkF m 149 #[.val (.int p0), .val (.ref b65), .val (.ref (u 16))] [])) _
                                          refine XS.iconst X240.here hx rfl (hb hby d1_149) ?_
                                          show Steps p.tables e below (T240.setTop (mkF m 150 #[.val (.int p0), .val (.ref b65), .val (.ref (u 16))] [(.int (1 : Int32))])) _
                                          refine XS.goto X240.here hx rfl (pc0 := 150) (pc' := 154) rfl (hb hby d1_150) (by decide) (by decide) ?_
                                          show Steps p.tables e below (T240.setTop (mkF m 154 #[.val (.int p0), .val (.ref b65), .val (.ref (u 16))] [(.int (1 : Int32))])) _
                                          exact retN X240 hx (t := .boolean) Bd.returns (by simp) (hb hby d1_154) hr
                                        · show own_Q1 Z u p0 h0 n0 _ T240.heap _
                                          rw [e240]
                                          exact ⟨rfl, N240, own_ext K148⟩
                                      · --
                                        exact absurd (own_exh17 (j := p0) (Int32.not_lt.mp hc153 |> Int32.le_iff_toInt_le.mp) (Int32.lt_iff_toInt_lt.mp hc156) hc157 hc162 hc167 hc172 hc177 hc182 hc187 hc192 hc197 hc202 hc207 hc212 hc217 hc222 hc227 hc232 hc237) id
    · --
      obtain rfl : vr152 = some (.ref (u 2)) := hv152.trans (by unfold own_r2; rw [if_neg hc153, if_neg hc156])
      obtain ⟨T242, X242, e242, st242⟩ := getS2 X152 hx hZ hown (host := "") (Or.inl (hw _ (List.mem_of_getElem? (i := 12) rfl))) Via.refl e152 (B.2.2.2.2.1.ext O148.2) (g := (mkF m 156 #[.val (.int p0), .val (.ref b65), .val (.ref (u 2))] [(.ref (u 2))])) rfl (hb hby d1_156)
      obtain ⟨fs, hr, hrun, hended, hW, hsame⟩ := X242.leave (v := some (.int (1 : Int32))) (fun h => by rw [Bd.returns] at h; cases h)
      refine ⟨_, _, pre151 _ ?_, hrun, hended, _, _, rfl, ?_, ⟨_, rfl⟩, hW, hsame.mono (by decide) (by decide)⟩
      · show Steps p.tables e below (T148.setTop (mkF m 120 #[.val (.int p0), .val (.ref b65), .unset] [(.int p0)])) _
        refine st152 _ ?_
        show Steps p.tables e below (T152.setTop (mkF m 123 #[.val (.int p0), .val (.ref b65), .unset] [(.ref (u 2))])) _
        refine XS.astoreN X152.here hx rfl (hb hby d1_123) rfl rfl (l' := #[.val (.int p0), .val (.ref b65), .val (.ref (u 2))]) rfl ?_
        show Steps p.tables e below (T152.setTop (mkF m 124 #[.val (.int p0), .val (.ref b65), .val (.ref (u 2))] [])) _
        refine XS.iloadN X152.here hx rfl (hb hby d1_124) rfl ?_
        show Steps p.tables e below (T152.setTop (mkF m 125 #[.val (.int p0), .val (.ref b65), .val (.ref (u 2))] [(.int p0)])) _
        refine XS.ifNo X152.here hx rfl (hb hby d1_125) rfl ((if0 _ _).trans (flt hc153).1) ?_
        show Steps p.tables e below (T152.setTop (mkF m 128 #[.val (.int p0), .val (.ref b65), .val (.ref (u 2))] [])) _
        refine XS.iloadN X152.here hx rfl (hb hby d1_128) rfl ?_
        show Steps p.tables e below (T152.setTop (mkF m 129 #[.val (.int p0), .val (.ref b65), .val (.ref (u 2))] [(.int p0)])) _
        refine XS.bipush X152.here hx rfl (hb hby d1_129) ?_
        show Steps p.tables e below (T152.setTop (mkF m 131 #[.val (.int p0), .val (.ref b65), .val (.ref (u 2))] [(.int (16 : Int32)), (.int p0)])) _
        refine XS.icmpYes X152.here hx rfl (pc0 := 131) (pc' := 155) rfl (hb hby d1_131) rfl (tlt (own_gt16 hc156)).2.2.1 (by decide) (by decide) ?_
        show Steps p.tables e below (T152.setTop (mkF m 155 #[.val (.int p0), .val (.ref b65), .val (.ref (u 2))] [])) _
        refine XS.aloadN X152.here hx rfl (hb hby d1_155) rfl rfl ?_
        show Steps p.tables e below (T152.setTop (mkF m 156 #[.val (.int p0), .val (.ref b65), .val (.ref (u 2))] [(.ref (u 2))])) _
        refine st242 _ ?_
        show Steps p.tables e below (T242.setTop (mkF m 159 #[.val (.int p0), .val (.ref b65), .val (.ref (u 2))] [(.ref (u 2)), (.ref (u 2))])) _
        refine Jvm.RoadKit.acmp (g := (mkF m 159 #[.val (.int p0), .val (.ref b65), .val (.ref (u 2))] [(.ref (u 2)), (.ref (u 2))])) X242 hx rfl rfl rfl (pc0 := 159) (pc' := 162) (same := true) rfl (hb hby d1_159) rfl (decide_eq_true rfl) (by decide) (by decide) ?_
        show Steps p.tables e below (T242.setTop (mkF m 162 #[.val (.int p0), .val (.ref b65), .val (.ref (u 2))] [])) _
        refine XS.iconst X242.here hx rfl (hb hby d1_162) ?_
        show Steps p.tables e below (T242.setTop (mkF m 163 #[.val (.int p0), .val (.ref b65), .val (.ref (u 2))] [(.int (1 : Int32))])) _
        refine XS.goto X242.here hx rfl (pc0 := 163) (pc' := 167) rfl (hb hby d1_163) (by decide) (by decide) ?_
        show Steps p.tables e below (T242.setTop (mkF m 167 #[.val (.int p0), .val (.ref b65), .val (.ref (u 2))] [(.int (1 : Int32))])) _
        exact retN X242 hx (t := .boolean) Bd.returns (by simp) (hb hby d1_167) hr
      · show own_Q1 Z u p0 h0 n0 _ T242.heap _
        rw [e242]
        exact ⟨rfl, N152, own_ext K148⟩
theorem own_pn_0 : plainName "com/example/trailwire/trailwire/status/StatusCodeFromNumberPinLaw" = true := by first | (simp [plainName, overriddenIn]; done) | decide +kernel
theorem own_ef_0 (m : MethodId) (x0 : Int32) (x1 : Int32) : entryFrame m #[(.int x0), (.int x1)] maxLocals = mkF m 0 #[.val (.int x0), .val (.int x1), .unset] [] := by first | (simp [entryFrame, mkF, argsToLocals, Value.category, maxLocals]; done) | rfl
def own_Q0 (Z : State) (u : Nat → Addr) (p0 : Int32) (p1 : Int32) (h0 : Heap) (n0 : Nat) (v : Option Value) (h : Heap) (L : List Loc) : Prop := v = some (.int (1 : Int32)) ∧ Fr n0 L ∧ True
set_option maxRecDepth 65536 in
set_option maxHeartbeats 40000000 in
theorem rm0 (l : Launch) (Z : State) (a0 : Array Value) (hw : ∀ d ∈ tables_1, d.before a0 Z = true) (ws : List Jvm.Cond) (u : Nat → Addr) (p0 : Int32) (p1 : Int32) (B : own_Base Z u) (h0 : Heap) (n0 : Nat) (O : Old Z n0 h0) :
    MetFree l x (head1 (Jvm.Cond.code x code maxLocals ret :: ws) room_1) (fun a U => a = #[(.int p0), (.int p1)] ∧ Z.Warmed39 U.vm ∧ U.heap = h0) (fun _ _ _ _ _ => True) (fun _ U o U' => ∃ v L, o = .returned v ∧ own_Q0 Z u p0 p1 h0 n0 v U'.heap L ∧ FrameEnd U o U' L room_1.cells room_1.slots) := by
  refine MetFree.of_bodySF (plainFor_of_name own_pn_0) hisR ?_
  intro p e s m args below meth c s₁ Bd hml0 hP hK
  obtain ⟨rfl, hZ, hh⟩ := hP
  have hx := Bd.exec
  have hby := Bd.bytes
  have hml : c.maxLocals = 3 := hml0
  have hown : s.vm.findClass "com/example/trailwire/trailwire/status/StatusCodeFromNumberPinLaw" = some m.cls := findClass_of_methodNamed Bd.named
  have hnm := (name_of_methodNamed Bd.named Bd.method).1
  have X0 : Stand p l e room_1 s m #[(.int p0), (.int p1)] below meth c s₁ [] 0 0 := Stand.of_body Bd
  have e0 : s₁.heap = h0 := by rw [← hh, Bd.state]; rfl
  have N0 := Fr.nil n0
  have K0 := Keep.refl h0 []
  have Z0 : n0 ≤ h0.size := O.1 ▸ O.2.1
  have pre0 : ∀ t, Steps p.tables e below (s₁.setTop (mkF m 0 #[.val (.int p0), .val (.int p1), .unset] [])) t → Steps p.tables e below (s₁.setTop (entryFrame m #[(.int p0), (.int p1)] maxLocals)) t := fun t k => castTop (own_ef_0 m p0 p1) k
  obtain ⟨vr244, _, ⟨T244, L244, k244, n244⟩, -, X244, ⟨Lc244, hQ244, l244, y244, z244⟩, st244⟩ := Jvm.LawKit.callS X0 hx (y := (⟨"com/example/trailwire/trailwire/status/StatusCodeFromNumberPinLaw", "check", "(I)Z"⟩ : MethodName)) hown (mvT hZ (hw _ (List.mem_of_getElem? (i := 0) rfl))) (mvT hZ (hw _ (List.mem_of_getElem? (i := 1) rfl))) (mvT hZ (hw _ (List.mem_of_getElem? (i := 2) rfl))) (mvT hZ (hw _ (List.mem_of_getElem? (i := 3) rfl))) (by decide) (backOf (W := 0) (rm1 l Z a0 hw [] u p0 B h0 n0 O ) hZ (hw _ (List.mem_of_getElem? (i := 3) rfl)) (hw _ (List.mem_of_getElem? (i := 2) rfl)) (by decide) (by decide)) (g := (mkF m 9 #[.val (.int p0), .val (.int p1), .val (.int ((p1 &&& (31 : Int32)) - (7 : Int32)))] [(.int p0)])) rfl (by rw [hml]; rfl) (argsL := [(.int p0)]) (rest := []) (lenOf own_pd2 rfl) rfl (by show 2 * 0 + _ ≤ _; exact Nat.le_of_eq rfl) (hb hby at_9) (fun _ _ => ⟨rfl, e0, (by decide : 0 + 1 ≤ _), (by decide : 0 + 17 ≤ _)⟩)
  dsimp only [Pt.U, Pt.locs, Pt.cells, Pt.slots] at X244 l244 y244 z244 st244 hQ244
  subst l244 y244 z244
  obtain ⟨rfl, N244q, E244⟩ := hQ244
  have N244 := Fr.app N0 N244q
  have O244 := O.ext E244
  have K244 := K0.ext E244
  obtain ⟨vr245, _, ⟨T245, L245, k245, n245⟩, -, X245, ⟨Lc245, hQ245, l245, y245, z245⟩, st245⟩ := Jvm.LawKit.callS X244 hx (y := (⟨"com/example/trailwire/trailwire/status/StatusCodeFromNumberPinLaw", "check", "(I)Z"⟩ : MethodName)) hown (mvT hZ (hw _ (List.mem_of_getElem? (i := 0) rfl))) (mvT hZ (hw _ (List.mem_of_getElem? (i := 1) rfl))) (mvT hZ (hw _ (List.mem_of_getElem? (i := 2) rfl))) (mvT hZ (hw _ (List.mem_of_getElem? (i := 3) rfl))) (by decide) (backOf (W := 0) (rm1 l Z a0 hw [] u ((p1 &&& (31 : Int32)) - (7 : Int32)) B T244.heap n0 O244 ) hZ (hw _ (List.mem_of_getElem? (i := 3) rfl)) (hw _ (List.mem_of_getElem? (i := 2) rfl)) (by decide) (by decide)) (g := (mkF m 16 #[.val (.int p0), .val (.int p1), .val (.int ((p1 &&& (31 : Int32)) - (7 : Int32)))] [(.int ((p1 &&& (31 : Int32)) - (7 : Int32)))])) rfl (by rw [hml]; rfl) (argsL := [(.int ((p1 &&& (31 : Int32)) - (7 : Int32)))]) (rest := []) (lenOf own_pd2 rfl) rfl (by show 2 * 0 + _ ≤ _; exact Nat.le_of_eq rfl) (hb hby at_16) (fun _ _ => ⟨rfl, rfl, (by decide : 1 + 1 ≤ _), (by decide : 17 + 17 ≤ _)⟩)
  dsimp only [Pt.U, Pt.locs, Pt.cells, Pt.slots] at X245 l245 y245 z245 st245 hQ245
  subst l245 y245 z245
  obtain ⟨rfl, N245q, E245⟩ := hQ245
  have N245 := Fr.app N244 N245q
  have O245 := O244.ext E245
  have K245 := K244.ext E245
  obtain ⟨fs, hr, hrun, hended, hW, hsame⟩ := X245.leave (v := some (.int (1 : Int32))) (fun h => by rw [Bd.returns] at h; cases h)
  refine ⟨_, _, pre0 _ ?_, hrun, hended, _, _, rfl, ?_, ⟨_, rfl⟩, hW, hsame.mono (by decide) (by decide)⟩
  · show Steps p.tables e below (s₁.setTop (mkF m 0 #[.val (.int p0), .val (.int p1), .unset] [])) _
    refine XS.iloadN X0.here hx rfl (hb hby at_0) rfl ?_
    show Steps p.tables e below (s₁.setTop (mkF m 1 #[.val (.int p0), .val (.int p1), .unset] [(.int p1)])) _
    refine XS.bipush X0.here hx rfl (hb hby at_1) ?_
    show Steps p.tables e below (s₁.setTop (mkF m 3 #[.val (.int p0), .val (.int p1), .unset] [(.int (31 : Int32)), (.int p1)])) _
    refine XS.iand X0.here hx rfl (hb hby at_3) rfl ?_
    show Steps p.tables e below (s₁.setTop (mkF m 4 #[.val (.int p0), .val (.int p1), .unset] [(.int (p1 &&& (31 : Int32)))])) _
    refine XS.bipush X0.here hx rfl (hb hby at_4) ?_
    show Steps p.tables e below (s₁.setTop (mkF m 6 #[.val (.int p0), .val (.int p1), .unset] [(.int (7 : Int32)), (.int (p1 &&& (31 : Int32)))])) _
    refine XS.isub X0.here hx rfl (hb hby at_6) rfl ?_
    show Steps p.tables e below (s₁.setTop (mkF m 7 #[.val (.int p0), .val (.int p1), .unset] [(.int ((p1 &&& (31 : Int32)) - (7 : Int32)))])) _
    refine XS.istoreN X0.here hx rfl (hb hby at_7) rfl (l' := #[.val (.int p0), .val (.int p1), .val (.int ((p1 &&& (31 : Int32)) - (7 : Int32)))]) rfl ?_
    show Steps p.tables e below (s₁.setTop (mkF m 8 #[.val (.int p0), .val (.int p1), .val (.int ((p1 &&& (31 : Int32)) - (7 : Int32)))] [])) _
    refine XS.iloadN X0.here hx rfl (hb hby at_8) rfl ?_
    show Steps p.tables e below (s₁.setTop (mkF m 9 #[.val (.int p0), .val (.int p1), .val (.int ((p1 &&& (31 : Int32)) - (7 : Int32)))] [(.int p0)])) _
    refine st244 _ ?_
    show Steps p.tables e below (T244.setTop (mkF m 12 #[.val (.int p0), .val (.int p1), .val (.int ((p1 &&& (31 : Int32)) - (7 : Int32)))] [(.int (1 : Int32))])) _
    refine XS.ifNo X244.here hx rfl (hb hby at_12) rfl ((if0 _ _).trans (feq (by decide : ¬ ((1 : Int32) = (0 : Int32)))).1) ?_
    show Steps p.tables e below (T244.setTop (mkF m 15 #[.val (.int p0), .val (.int p1), .val (.int ((p1 &&& (31 : Int32)) - (7 : Int32)))] [])) _
    refine XS.iloadN X244.here hx rfl (hb hby at_15) rfl ?_
    show Steps p.tables e below (T244.setTop (mkF m 16 #[.val (.int p0), .val (.int p1), .val (.int ((p1 &&& (31 : Int32)) - (7 : Int32)))] [(.int ((p1 &&& (31 : Int32)) - (7 : Int32)))])) _
    refine st245 _ ?_
    show Steps p.tables e below (T245.setTop (mkF m 19 #[.val (.int p0), .val (.int p1), .val (.int ((p1 &&& (31 : Int32)) - (7 : Int32)))] [(.int (1 : Int32))])) _
    refine XS.ifNo X245.here hx rfl (hb hby at_19) rfl ((if0 _ _).trans (feq (by decide : ¬ ((1 : Int32) = (0 : Int32)))).1) ?_
    show Steps p.tables e below (T245.setTop (mkF m 22 #[.val (.int p0), .val (.int p1), .val (.int ((p1 &&& (31 : Int32)) - (7 : Int32)))] [])) _
    refine XS.iconst X245.here hx rfl (hb hby at_22) ?_
    show Steps p.tables e below (T245.setTop (mkF m 23 #[.val (.int p0), .val (.int p1), .val (.int ((p1 &&& (31 : Int32)) - (7 : Int32)))] [(.int (1 : Int32))])) _
    refine XS.goto X245.here hx rfl (pc0 := 23) (pc' := 27) rfl (hb hby at_23) (by decide) (by decide) ?_
    show Steps p.tables e below (T245.setTop (mkF m 27 #[.val (.int p0), .val (.int p1), .val (.int ((p1 &&& (31 : Int32)) - (7 : Int32)))] [(.int (1 : Int32))])) _
    exact retN X245 hx (t := .boolean) Bd.returns (by simp) (hb hby at_27) hr
  · show own_Q0 Z u p0 p1 h0 n0 _ T245.heap _
    exact ⟨rfl, N245, trivial⟩
set_option maxRecDepth 65536 in
set_option maxHeartbeats 40000000 in
theorem comes_1 {Post : Tables → Env → Array Value → State → Outcome → State → Prop} (hpost : ∀ tb e args s v u, (limb_1_1.after args s (.returned v) u = true ∧ limb_1_2.after args s (.returned v) u = true ∧ True) → FrameEnd s (.returned v) u (Jvm.fieldLocs frame_1_writes args s ++ Jvm.arrayLocs frame_1_arrays args s ++ Jvm.staticLocs frame_1_statics s) 16 192 → Post tb e args s (.returned v) u) :
    ArmFor flags0 classFile x code maxLocals ret World_1 tables_1 room_1 Calls_1 rest_1 Pre_1 Post := by
  intro l hfl _ _ p e ha hc hk s m args below hf hA hF happ hP
  obtain ⟨hcalls, hrest, hpre⟩ := hP
  obtain ⟨-, -, -, hnamed, -, -, -, hat⟩ := (Spec.applies_iff hf).mp happ
  obtain ⟨hg, hn⟩ := and_e (Cond.before_iff.mp (show (Jvm.Cond.and given_1 narrow_1).before args s = true from hpre))
  obtain ⟨g0, gr0⟩ := and_e hg
  obtain ⟨g1, gr1⟩ := and_e gr0
  have g2 := gr1
  obtain ⟨w0, w1, rfl⟩ : ∃ w0 w1 : Value, args = #[w0, w1] := by
    have hs : args.size = 2 := by simpa [Cond.value, given_1] using g0
    obtain ⟨L⟩ := args
    match L, hs with
    | [w0, w1], _ => exact ⟨w0, w1, rfl⟩
  have hw := fun d (hd : d ∈ tables_1) => atoms_spec (ws := Jvm.Cond.code x code maxLocals ret :: tables_1) hat d (List.mem_cons_of_mem _ hd)
  have hfit : Fit s := fun {y c} hc i hi => by
    obtain ⟨ha, rfl⟩ := Array.getElem?_eq_some_iff.mp hc
    have q := List.all_eq_true.mp ((Array.all_eq_true_iff_forall_mem.mp hF) _ (Array.getElem_mem ha)) i (List.mem_range.mpr hi)
    simpa [Array.getElem?_eq_getElem hi] using q
  obtain ⟨i0, ei0⟩ := is_v g1
  obtain rfl : w0 = (.int i0) := Option.some.inj ei0
  obtain ⟨i1, ei1⟩ := is_v g2
  obtain rfl : w1 = (.int i1) := Option.some.inj ei1
  obtain ⟨b0, hn0⟩ := and_e hn
  obtain ⟨b1, hn1⟩ := and_e hn0
  obtain ⟨b2, hn2⟩ := and_e hn1
  obtain ⟨b3, hn3⟩ := and_e hn2
  obtain ⟨b4, hn4⟩ := and_e hn3
  obtain ⟨b5, hn5⟩ := and_e hn4
  obtain ⟨b6, hn6⟩ := and_e hn5
  obtain ⟨b7, hn7⟩ := and_e hn6
  obtain ⟨b8, hn8⟩ := and_e hn7
  obtain ⟨b9, hn9⟩ := and_e hn8
  obtain ⟨b10, hn10⟩ := and_e hn9
  obtain ⟨b11, hn11⟩ := and_e hn10
  obtain ⟨b12, hn12⟩ := and_e hn11
  obtain ⟨b13, hn13⟩ := and_e hn12
  obtain ⟨b14, hn14⟩ := and_e hn13
  obtain ⟨b15, hn15⟩ := and_e hn14
  obtain ⟨b16, hn16⟩ := and_e hn15
  obtain ⟨b17, hn17⟩ := and_e hn16
  obtain ⟨b18, hn18⟩ := and_e hn17
  obtain ⟨b19, hn19⟩ := and_e hn18
  obtain ⟨b20, hn20⟩ := and_e hn19
  obtain ⟨b21, hn21⟩ := and_e hn20
  obtain ⟨b22, hn22⟩ := and_e hn21
  obtain ⟨b23, hn23⟩ := and_e hn22
  obtain ⟨b24, hn24⟩ := and_e hn23
  obtain ⟨b25, hn25⟩ := and_e hn24
  obtain ⟨b26, hn26⟩ := and_e hn25
  obtain ⟨b27, hn27⟩ := and_e hn26
  obtain ⟨b28, hn28⟩ := and_e hn27
  obtain ⟨b29, hn29⟩ := and_e hn28
  obtain ⟨b30, hn30⟩ := and_e hn29
  obtain ⟨b31, hn31⟩ := and_e hn30
  obtain ⟨b32, hn32⟩ := and_e hn31
  obtain ⟨b33, hn33⟩ := and_e hn32
  obtain ⟨b34, hn34⟩ := and_e hn33
  obtain ⟨b35, hn35⟩ := and_e hn34
  obtain ⟨b36, hn36⟩ := and_e hn35
  obtain ⟨b37, hn37⟩ := and_e hn36
  obtain ⟨b38, hn38⟩ := and_e hn37
  obtain ⟨b39, hn39⟩ := and_e hn38
  obtain ⟨b40, hn40⟩ := and_e hn39
  obtain ⟨b41, hn41⟩ := and_e hn40
  obtain ⟨b42, hn42⟩ := and_e hn41
  obtain ⟨b43, hn43⟩ := and_e hn42
  obtain ⟨b44, hn44⟩ := and_e hn43
  obtain ⟨b45, hn45⟩ := and_e hn44
  obtain ⟨b46, hn46⟩ := and_e hn45
  obtain ⟨b47, hn47⟩ := and_e hn46
  obtain ⟨b48, hn48⟩ := and_e hn47
  obtain ⟨b49, hn49⟩ := and_e hn48
  obtain ⟨b50, hn50⟩ := and_e hn49
  obtain ⟨b51, hn51⟩ := and_e hn50
  have b52 := hn51
  obtain ⟨x0, v0⟩ := exa_v b0
  obtain ⟨x1, v1⟩ := exa_v b1
  obtain ⟨x2, v2⟩ := exa_v b2
  obtain ⟨x3, v3⟩ := exa_v b3
  obtain ⟨x4, v4⟩ := exa_v b4
  obtain ⟨x5, v5⟩ := exa_v b5
  obtain ⟨x6, v6⟩ := exa_v b6
  obtain ⟨x7, v7⟩ := exa_v b7
  obtain ⟨x8, v8⟩ := exa_v b8
  obtain ⟨x9, v9⟩ := exa_v b9
  obtain ⟨x10, v10⟩ := exa_v b10
  obtain ⟨x11, v11⟩ := exa_v b11
  obtain ⟨x12, v12⟩ := exa_v b12
  obtain ⟨x13, v13⟩ := exa_v b13
  obtain ⟨x14, v14⟩ := exa_v b14
  obtain ⟨x15, v15⟩ := exa_v b15
  obtain ⟨x16, v16⟩ := exa_v b16
  obtain ⟨x17, v17⟩ := arr_v b17
  obtain ⟨c17, A17⟩ := Arr.start v17 b17
  obtain ⟨l17, m17⟩ := own_len v17 A17.1 b18
  have B : own_Base s (fun i => ([x0, x1, x2, x3, x4, x5, x6, x7, x8, x9, x10, x11, x12, x13, x14, x15, x16, x17] : List Addr).getD i 0) := ⟨Sta.start v0 (Or.inr ⟨(hw _ (List.mem_of_getElem? (i := 7) rfl)), (hw _ (List.mem_of_getElem? (i := 8) rfl))⟩),
    Exa.start v0 b0,
    Sta.start v1 (Or.inr ⟨(hw _ (List.mem_of_getElem? (i := 7) rfl)), (hw _ (List.mem_of_getElem? (i := 11) rfl))⟩),
    Exa.start v1 b1,
    Sta.start v2 (Or.inr ⟨(hw _ (List.mem_of_getElem? (i := 7) rfl)), (hw _ (List.mem_of_getElem? (i := 13) rfl))⟩),
    Exa.start v2 b2,
    Sta.start v3 (Or.inr ⟨(hw _ (List.mem_of_getElem? (i := 7) rfl)), (hw _ (List.mem_of_getElem? (i := 15) rfl))⟩),
    Exa.start v3 b3,
    Sta.start v4 (Or.inr ⟨(hw _ (List.mem_of_getElem? (i := 7) rfl)), (hw _ (List.mem_of_getElem? (i := 17) rfl))⟩),
    Exa.start v4 b4,
    Sta.start v5 (Or.inr ⟨(hw _ (List.mem_of_getElem? (i := 7) rfl)), (hw _ (List.mem_of_getElem? (i := 19) rfl))⟩),
    Exa.start v5 b5,
    Sta.start v6 (Or.inr ⟨(hw _ (List.mem_of_getElem? (i := 7) rfl)), (hw _ (List.mem_of_getElem? (i := 21) rfl))⟩),
    Exa.start v6 b6,
    Sta.start v7 (Or.inr ⟨(hw _ (List.mem_of_getElem? (i := 7) rfl)), (hw _ (List.mem_of_getElem? (i := 23) rfl))⟩),
    Exa.start v7 b7,
    Sta.start v8 (Or.inr ⟨(hw _ (List.mem_of_getElem? (i := 7) rfl)), (hw _ (List.mem_of_getElem? (i := 25) rfl))⟩),
    Exa.start v8 b8,
    Sta.start v9 (Or.inr ⟨(hw _ (List.mem_of_getElem? (i := 7) rfl)), (hw _ (List.mem_of_getElem? (i := 27) rfl))⟩),
    Exa.start v9 b9,
    Sta.start v10 (Or.inr ⟨(hw _ (List.mem_of_getElem? (i := 7) rfl)), (hw _ (List.mem_of_getElem? (i := 29) rfl))⟩),
    Exa.start v10 b10,
    Sta.start v11 (Or.inr ⟨(hw _ (List.mem_of_getElem? (i := 7) rfl)), (hw _ (List.mem_of_getElem? (i := 31) rfl))⟩),
    Exa.start v11 b11,
    Sta.start v12 (Or.inr ⟨(hw _ (List.mem_of_getElem? (i := 7) rfl)), (hw _ (List.mem_of_getElem? (i := 33) rfl))⟩),
    Exa.start v12 b12,
    Sta.start v13 (Or.inr ⟨(hw _ (List.mem_of_getElem? (i := 7) rfl)), (hw _ (List.mem_of_getElem? (i := 35) rfl))⟩),
    Exa.start v13 b13,
    Sta.start v14 (Or.inr ⟨(hw _ (List.mem_of_getElem? (i := 7) rfl)), (hw _ (List.mem_of_getElem? (i := 37) rfl))⟩),
    Exa.start v14 b14,
    Sta.start v15 (Or.inr ⟨(hw _ (List.mem_of_getElem? (i := 7) rfl)), (hw _ (List.mem_of_getElem? (i := 39) rfl))⟩),
    Exa.start v15 b15,
    Sta.start v16 (Or.inr ⟨(hw _ (List.mem_of_getElem? (i := 7) rfl)), (hw _ (List.mem_of_getElem? (i := 41) rfl))⟩),
    Exa.start v16 b16,
    Sta.start v17 (Or.inr ⟨(hw _ (List.mem_of_getElem? (i := 7) rfl)), (hw _ (List.mem_of_getElem? (i := 47) rfl))⟩),
    own_fld v0 b20 rfl,
    own_fld v1 b36 rfl,
    own_fld v2 b38 rfl,
    own_fld v3 b32 rfl,
    own_fld v4 b52 rfl,
    own_fld v5 b46 rfl,
    own_fld v6 b26 rfl,
    own_fld v7 b48 rfl,
    own_fld v8 b28 rfl,
    own_fld v9 b40 rfl,
    own_fld v10 b42 rfl,
    own_fld v11 b44 rfl,
    own_fld v12 b30 rfl,
    own_fld v13 b24 rfl,
    own_fld v14 b22 rfl,
    own_fld v15 b50 rfl,
    own_fld v16 b34 rfl,
    ⟨_, Arv.start hfit A17 l17 m17 (by decide) rfl ⟨own_elem v17 A17.1 b19 v0, own_elem v17 A17.1 b35 v1, own_elem v17 A17.1 b37 v2, own_elem v17 A17.1 b31 v3, own_elem v17 A17.1 b51 v4, own_elem v17 A17.1 b45 v5, own_elem v17 A17.1 b25 v6, own_elem v17 A17.1 b47 v7, own_elem v17 A17.1 b27 v8, own_elem v17 A17.1 b39 v9, own_elem v17 A17.1 b41 v10, own_elem v17 A17.1 b43 v11, own_elem v17 A17.1 b29 v12, own_elem v17 A17.1 b23 v13, own_elem v17 A17.1 b21 v14, own_elem v17 A17.1 b49 v15, own_elem v17 A17.1 b33 v16, trivial⟩⟩⟩
  obtain ⟨n, o, h1, h2, h3, _, L, rfl, ⟨rfl, N, -⟩, hq⟩ := rm0 l s _ hw tables_1 (fun i => ([x0, x1, x2, x3, x4, x5, x6, x7, x8, x9, x10, x11, x12, x13, x14, x15, x16, x17] : List Addr).getD i 0) i0 i1 B s.heap s.heap.size (Old.start s)  p e ha hc hk s m _ below hf ((Spec.applies_iff_loose hf).mp happ).1 ⟨rfl, State.Warmed39.refl s, rfl⟩ trivial
  refine ⟨n, _, h1, h2, h3, hpost _ _ _ _ _ _ ⟨Cond.after_iff.mpr rfl, Cond.after_iff.mpr (eq_i res_at (Term.int_eval (1)) rfl), trivial⟩ ⟨hq.1, hq.2.1, (hq.2.2.sift fun y hy => Or.inr (N y hy)).mono (by decide) (by decide)⟩⟩
theorem main_1_1 : Claimed_1_1 := comes_1 fun _ _ _ _ _ _ h hF => ⟨h.1, hF⟩
theorem main_1_2 : Claimed_1_2 := comes_1 fun _ _ _ _ _ _ h hF => ⟨h.2.1, hF⟩
end Jvm.Pilot.@@N@@
namespace Jvm.Pilot.@@N@@
open Jvm Jvm.ClassFile Sem Op Lib Jvm.Free Jvm.Stand Jvm.Pilot.@@N@@.Jvm.D
/-! MADE BY PROGRAM (witnessworld.py) out of the Statement's table words and the real class files: 13 classes; the members and pool entries that the words name. The judged class is class 1, her method 1. -/
namespace start1
open Jvm.ClassFile
def u (s : String) : CpInfo := .utf8 (stringToUtf16 s)
/-- a pool by its gaps: so many unusable entries, then the entry; so many at the end -/
def gap : Nat → List CpInfo → List CpInfo
  | 0, r => r
  | n + 1, r => .unusable :: gap n r
def poolList (es : List (Nat × CpInfo)) (last : Nat) : List CpInfo := es.foldr (fun e r => gap e.1 (e.2 :: r)) (gap last [])
def pool (es : List (Nat × CpInfo)) (last : Nat) : Array CpInfo := ⟨poolList es last⟩
def fileOf (pool : Array CpInfo) (this : Nat) (attrs : Array Attribute := #[]) (ms : Array MethodInfo := #[]) (fl : Nat := 33) (sup : Nat := 0) (ifs : Array Nat := #[]) (fds : Array FieldInfo := #[]) : ClassFile where
  minorVersion := 0
  majorVersion := 65
  constantPool := pool
  accessFlags := fl
  thisClass := this
  superClass := sup
  interfaces := ifs
  fields := fds
  methods := ms
  attributes := attrs
def plain (name : String) (sup : Option ClassId) : Class where
  name := name
  kind := .ordinary
  loader := none
  accessFlags := 33
  super := sup
  interfaces := #[]
  cf := none
  fields := #[]
  methods := #[]
  instanceTypes := #[]
  staticTypes := #[]
  resolved := #[]
  callSites := []
  init := .initialized
  statics := none
  mirror := none

def pool0 : Array CpInfo := pool [(5, u "<init>"), (0, u "()V"), (1, .class_ 10), (1, u "java/lang/Object")] 113

def k0m0 : Method := { name := "<init>", desc := "()V", sig := { parameters := [], returnType := none }, accessFlags := 1, code := none }
/-- java/lang/Object -/
def k0 : Class := { plain "java/lang/Object" none with
  accessFlags := 33
  interfaces := #[]
  cf := some (fileOf pool0 8 #[] #[{ accessFlags := 1, nameIndex := 5, descriptorIndex := 6, attributes := #[] }] 33 0 #[] #[])
  fields := #[]
  methods := #[k0m0]
  instanceTypes := #[]
  staticTypes := #[]
  resolved := Array.replicate 124 none
  statics := none }

def pool1 : Array CpInfo := pool [(2, .class_ 4), (1, u "java/lang/Object"), (0, u "<init>"), (0, u "()V"), (0, .methodref 8 9), (0, .class_ 10), (0, .nameAndType 11 12), (0, u "com/example/trailwire/trailwire/status/StatusCodeFromNumberPinLaw"), (0, u "check"), (0, u "(I)Z"), (0, .class_ 14), (0, u "com/example/trailwire/trailwire/status/StatusCode"), (0, .fieldref 13 16), (0, .nameAndType 17 18), (0, u "OK"), (0, u "Lcom/example/trailwire/trailwire/status/StatusCode;"), (0, .fieldref 13 20), (0, .nameAndType 21 18), (0, u "CANCELLED"), (0, .fieldref 13 23), (0, .nameAndType 24 18), (0, u "UNKNOWN"), (0, .fieldref 13 26), (0, .nameAndType 27 18), (0, u "INVALID_ARGUMENT"), (0, .fieldref 13 29), (0, .nameAndType 30 18), (0, u "DEADLINE_EXCEEDED"), (0, .fieldref 13 32), (0, .nameAndType 33 18), (0, u "NOT_FOUND"), (0, .fieldref 13 35), (0, .nameAndType 36 18), (0, u "ALREADY_EXISTS"), (0, .fieldref 13 38), (0, .nameAndType 39 18), (0, u "PERMISSION_DENIED"), (0, .fieldref 13 41), (0, .nameAndType 42 18), (0, u "RESOURCE_EXHAUSTED"), (0, .fieldref 13 44), (0, .nameAndType 45 18), (0, u "FAILED_PRECONDITION"), (0, .fieldref 13 47), (0, .nameAndType 48 18), (0, u "ABORTED"), (0, .fieldref 13 50), (0, .nameAndType 51 18), (0, u "OUT_OF_RANGE"), (0, .fieldref 13 53), (0, .nameAndType 54 18), (0, u "UNIMPLEMENTED"), (0, .fieldref 13 56), (0, .nameAndType 57 18), (0, u "INTERNAL"), (0, .fieldref 13 59), (0, .nameAndType 60 18), (0, u "UNAVAILABLE"), (0, .fieldref 13 62), (0, .nameAndType 63 18), (0, u "DATA_LOSS"), (0, .fieldref 13 65), (0, .nameAndType 66 18), (0, u "UNAUTHENTICATED"), (0, .methodref 13 68), (0, .nameAndType 69 70), (0, u "fromNumber"), (0, u "(I)Lcom/example/trailwire/trailwire/status/StatusCode;"), (0, .methodref 13 72), (0, .nameAndType 73 74), (0, u "number"), (0, u "()I"), (2, u "law"), (0, u "(II)Z")] 5

def k1m0 : Method := { name := "<init>", desc := "()V", sig := { parameters := [], returnType := none }, accessFlags := 1, code := none }
def k1c1 : Code := { maxStack := 2, maxLocals := 3, code := code, exceptionTable := #[], attributes := #[] }
def k1m1 : Method := { name := "law", desc := "(II)Z", sig := { parameters := [.int, .int], returnType := some .boolean }, accessFlags := 9, code := some k1c1 }
def k1c2 : Code := { maxStack := 4, maxLocals := 3, code := method_3_code, exceptionTable := #[], attributes := #[] }
def k1m2 : Method := { name := "check", desc := "(I)Z", sig := { parameters := [.int], returnType := some .boolean }, accessFlags := 10, code := some k1c2 }
/-- com/example/trailwire/trailwire/status/StatusCodeFromNumberPinLaw -/
def k1 : Class := { plain "com/example/trailwire/trailwire/status/StatusCodeFromNumberPinLaw" (some 0) with
  accessFlags := 49
  interfaces := #[]
  cf := some (fileOf pool1 8 #[] #[{ accessFlags := 1, nameIndex := 5, descriptorIndex := 6, attributes := #[] }, { accessFlags := 9, nameIndex := 77, descriptorIndex := 78, attributes := #[] }, { accessFlags := 10, nameIndex := 11, descriptorIndex := 12, attributes := #[] }] 49 2 #[] #[])
  fields := #[]
  methods := #[k1m0, k1m1, k1m2]
  instanceTypes := #[]
  staticTypes := #[]
  resolved := Array.replicate 84 none
  statics := none }

def pool2 : Array CpInfo := pool [(1, .class_ 2), (0, u "java/lang/constant/Constable"), (0, .class_ 4), (0, u "java/lang/Object")] 6

/-- java/lang/constant/Constable -/
def k2 : Class := { plain "java/lang/constant/Constable" (some 0) with
  accessFlags := 1537
  interfaces := #[]
  cf := some (fileOf pool2 1 #[] #[] 1537 3 #[] #[])
  fields := #[]
  methods := #[]
  instanceTypes := #[]
  staticTypes := #[]
  resolved := Array.replicate 11 none
  statics := none }

def pool3 : Array CpInfo := pool [(1, .class_ 2), (0, u "java/lang/Comparable"), (0, .class_ 4), (0, u "java/lang/Object")] 7

/-- java/lang/Comparable -/
def k3 : Class := { plain "java/lang/Comparable" (some 0) with
  accessFlags := 1537
  interfaces := #[]
  cf := some (fileOf pool3 1 #[] #[] 1537 3 #[] #[])
  fields := #[]
  methods := #[]
  instanceTypes := #[]
  staticTypes := #[]
  resolved := Array.replicate 12 none
  statics := none }

def pool4 : Array CpInfo := pool [(1, .class_ 2), (0, u "java/io/Serializable"), (0, .class_ 4), (0, u "java/lang/Object")] 2

/-- java/io/Serializable -/
def k4 : Class := { plain "java/io/Serializable" (some 0) with
  accessFlags := 1537
  interfaces := #[]
  cf := some (fileOf pool4 1 #[] #[] 1537 3 #[] #[])
  fields := #[]
  methods := #[]
  instanceTypes := #[]
  staticTypes := #[]
  resolved := Array.replicate 7 none
  statics := none }

def pool5 : Array CpInfo := pool [(2, .class_ 4), (1, u "java/lang/Enum"), (0, u "name"), (0, u "Ljava/lang/String;"), (2, u "ordinal"), (0, u "I"), (1, .class_ 14), (1, u "java/lang/Object"), (4, u "hash"), (86, .class_ 108), (1, u "java/lang/Enum$EnumDesc"), (2, .class_ 112), (0, u "java/lang/constant/Constable"), (0, .class_ 114), (0, u "java/lang/Comparable"), (0, .class_ 116), (0, u "java/io/Serializable")] 87

/-- java/lang/Enum -/
def k5 : Class := { plain "java/lang/Enum" (some 0) with
  accessFlags := 1057
  interfaces := #[2, 3, 4]
  cf := some (fileOf pool5 2 #[.nestMembers #[106]] #[] 1057 12 #[111, 113, 115] #[{ accessFlags := 18, nameIndex := 5, descriptorIndex := 6, attributes := #[] }, { accessFlags := 18, nameIndex := 9, descriptorIndex := 10, attributes := #[] }, { accessFlags := 2, nameIndex := 19, descriptorIndex := 10, attributes := #[] }])
  fields := #[{ name := "name", type := (.object "java/lang/String"), accessFlags := 18, slot := 0, constantValue := 0 }, { name := "ordinal", type := .int, accessFlags := 18, slot := 1, constantValue := 0 }, { name := "hash", type := .int, accessFlags := 2, slot := 2, constantValue := 0 }]
  methods := #[]
  instanceTypes := #[(.object "java/lang/String"), .int, .int]
  staticTypes := #[]
  resolved := Array.replicate 204 none
  statics := none }

def pool6 : Array CpInfo := pool [(1, .class_ 2), (0, u "com/example/trailwire/trailwire/status/StatusCode"), (2, u "OK"), (0, u "Lcom/example/trailwire/trailwire/status/StatusCode;"), (2, u "CANCELLED"), (0, .fieldref 1 11), (0, .nameAndType 12 6), (0, u "UNKNOWN"), (2, u "INVALID_ARGUMENT"), (2, u "DEADLINE_EXCEEDED"), (2, u "NOT_FOUND"), (2, u "ALREADY_EXISTS"), (2, u "PERMISSION_DENIED"), (2, u "RESOURCE_EXHAUSTED"), (2, u "FAILED_PRECONDITION"), (2, u "ABORTED"), (2, u "OUT_OF_RANGE"), (2, u "UNIMPLEMENTED"), (2, u "INTERNAL"), (2, u "UNAVAILABLE"), (2, u "DATA_LOSS"), (2, u "UNAUTHENTICATED"), (2, u "$VALUES"), (0, u "[Lcom/example/trailwire/trailwire/status/StatusCode;"), (6, .class_ 67), (1, u "java/lang/Enum"), (6, .fieldref 1 75), (0, .nameAndType 76 77), (0, u "number"), (0, u "I"), (8, u "headerValue"), (0, u "Ljava/lang/String;"), (0, .fieldref 1 89), (0, .nameAndType 90 58), (0, u "BY_NUMBER"), (21, u "()I"), (42, u "HTTP2_REFUSED_STREAM"), (0, u "J"), (1, u "HTTP2_CANCEL"), (0, u "HTTP2_ENHANCE_YOUR_CALM"), (0, u "HTTP2_INADEQUATE_SECURITY"), (6, u "fromNumber"), (0, u "(I)Lcom/example/trailwire/trailwire/status/StatusCode;")] 10

def k6c0 : Code := { maxStack := 1, maxLocals := 1, code := prog_23_method_4_code, exceptionTable := #[], attributes := #[] }
def k6m0 : Method := { name := "number", desc := "()I", sig := { parameters := [], returnType := some .int }, accessFlags := 1, code := some k6c0 }
def k6c1 : Code := { maxStack := 2, maxLocals := 2, code := prog_23_method_6_code, exceptionTable := #[], attributes := #[] }
def k6m1 : Method := { name := "fromNumber", desc := "(I)Lcom/example/trailwire/trailwire/status/StatusCode;", sig := { parameters := [.int], returnType := some (.object "com/example/trailwire/trailwire/status/StatusCode") }, accessFlags := 9, code := some k6c1 }
/-- com/example/trailwire/trailwire/status/StatusCode -/
def k6 : Class := { plain "com/example/trailwire/trailwire/status/StatusCode" (some 5) with
  accessFlags := 16433
  interfaces := #[]
  cf := some (fileOf pool6 1 #[] #[{ accessFlags := 1, nameIndex := 76, descriptorIndex := 112, attributes := #[] }, { accessFlags := 9, nameIndex := 167, descriptorIndex := 168, attributes := #[] }] 16433 65 #[] #[{ accessFlags := 16409, nameIndex := 5, descriptorIndex := 6, attributes := #[] }, { accessFlags := 16409, nameIndex := 9, descriptorIndex := 6, attributes := #[] }, { accessFlags := 16409, nameIndex := 12, descriptorIndex := 6, attributes := #[] }, { accessFlags := 16409, nameIndex := 15, descriptorIndex := 6, attributes := #[] }, { accessFlags := 16409, nameIndex := 18, descriptorIndex := 6, attributes := #[] }, { accessFlags := 16409, nameIndex := 21, descriptorIndex := 6, attributes := #[] }, { accessFlags := 16409, nameIndex := 24, descriptorIndex := 6, attributes := #[] }, { accessFlags := 16409, nameIndex := 27, descriptorIndex := 6, attributes := #[] }, { accessFlags := 16409, nameIndex := 30, descriptorIndex := 6, attributes := #[] }, { accessFlags := 16409, nameIndex := 33, descriptorIndex := 6, attributes := #[] }, { accessFlags := 16409, nameIndex := 36, descriptorIndex := 6, attributes := #[] }, { accessFlags := 16409, nameIndex := 39, descriptorIndex := 6, attributes := #[] }, { accessFlags := 16409, nameIndex := 42, descriptorIndex := 6, attributes := #[] }, { accessFlags := 16409, nameIndex := 45, descriptorIndex := 6, attributes := #[] }, { accessFlags := 16409, nameIndex := 48, descriptorIndex := 6, attributes := #[] }, { accessFlags := 16409, nameIndex := 51, descriptorIndex := 6, attributes := #[] }, { accessFlags := 16409, nameIndex := 54, descriptorIndex := 6, attributes := #[] }, { accessFlags := 26, nameIndex := 90, descriptorIndex := 58, attributes := #[] }, { accessFlags := 26, nameIndex := 155, descriptorIndex := 156, attributes := #[] }, { accessFlags := 26, nameIndex := 158, descriptorIndex := 156, attributes := #[] }, { accessFlags := 26, nameIndex := 159, descriptorIndex := 156, attributes := #[] }, { accessFlags := 26, nameIndex := 160, descriptorIndex := 156, attributes := #[] }, { accessFlags := 18, nameIndex := 76, descriptorIndex := 77, attributes := #[] }, { accessFlags := 18, nameIndex := 86, descriptorIndex := 87, attributes := #[] }, { accessFlags := 4122, nameIndex := 57, descriptorIndex := 58, attributes := #[] }])
  fields := #[{ name := "OK", type := (.object "com/example/trailwire/trailwire/status/StatusCode"), accessFlags := 16409, slot := 0, constantValue := 0 }, { name := "CANCELLED", type := (.object "com/example/trailwire/trailwire/status/StatusCode"), accessFlags := 16409, slot := 1, constantValue := 0 }, { name := "UNKNOWN", type := (.object "com/example/trailwire/trailwire/status/StatusCode"), accessFlags := 16409, slot := 2, constantValue := 0 }, { name := "INVALID_ARGUMENT", type := (.object "com/example/trailwire/trailwire/status/StatusCode"), accessFlags := 16409, slot := 3, constantValue := 0 }, { name := "DEADLINE_EXCEEDED", type := (.object "com/example/trailwire/trailwire/status/StatusCode"), accessFlags := 16409, slot := 4, constantValue := 0 }, { name := "NOT_FOUND", type := (.object "com/example/trailwire/trailwire/status/StatusCode"), accessFlags := 16409, slot := 5, constantValue := 0 }, { name := "ALREADY_EXISTS", type := (.object "com/example/trailwire/trailwire/status/StatusCode"), accessFlags := 16409, slot := 6, constantValue := 0 }, { name := "PERMISSION_DENIED", type := (.object "com/example/trailwire/trailwire/status/StatusCode"), accessFlags := 16409, slot := 7, constantValue := 0 }, { name := "RESOURCE_EXHAUSTED", type := (.object "com/example/trailwire/trailwire/status/StatusCode"), accessFlags := 16409, slot := 8, constantValue := 0 }, { name := "FAILED_PRECONDITION", type := (.object "com/example/trailwire/trailwire/status/StatusCode"), accessFlags := 16409, slot := 9, constantValue := 0 }, { name := "ABORTED", type := (.object "com/example/trailwire/trailwire/status/StatusCode"), accessFlags := 16409, slot := 10, constantValue := 0 }, { name := "OUT_OF_RANGE", type := (.object "com/example/trailwire/trailwire/status/StatusCode"), accessFlags := 16409, slot := 11, constantValue := 0 }, { name := "UNIMPLEMENTED", type := (.object "com/example/trailwire/trailwire/status/StatusCode"), accessFlags := 16409, slot := 12, constantValue := 0 }, { name := "INTERNAL", type := (.object "com/example/trailwire/trailwire/status/StatusCode"), accessFlags := 16409, slot := 13, constantValue := 0 }, { name := "UNAVAILABLE", type := (.object "com/example/trailwire/trailwire/status/StatusCode"), accessFlags := 16409, slot := 14, constantValue := 0 }, { name := "DATA_LOSS", type := (.object "com/example/trailwire/trailwire/status/StatusCode"), accessFlags := 16409, slot := 15, constantValue := 0 }, { name := "UNAUTHENTICATED", type := (.object "com/example/trailwire/trailwire/status/StatusCode"), accessFlags := 16409, slot := 16, constantValue := 0 }, { name := "BY_NUMBER", type := (.array (.object "com/example/trailwire/trailwire/status/StatusCode")), accessFlags := 26, slot := 17, constantValue := 0 }, { name := "HTTP2_REFUSED_STREAM", type := .long, accessFlags := 26, slot := 18, constantValue := 0 }, { name := "HTTP2_CANCEL", type := .long, accessFlags := 26, slot := 19, constantValue := 0 }, { name := "HTTP2_ENHANCE_YOUR_CALM", type := .long, accessFlags := 26, slot := 20, constantValue := 0 }, { name := "HTTP2_INADEQUATE_SECURITY", type := .long, accessFlags := 26, slot := 21, constantValue := 0 }, { name := "number", type := .int, accessFlags := 18, slot := 3, constantValue := 0 }, { name := "headerValue", type := (.object "java/lang/String"), accessFlags := 18, slot := 4, constantValue := 0 }, { name := "$VALUES", type := (.array (.object "com/example/trailwire/trailwire/status/StatusCode")), accessFlags := 4122, slot := 22, constantValue := 0 }]
  methods := #[k6m0, k6m1]
  instanceTypes := #[(.object "java/lang/String"), .int, .int, .int, (.object "java/lang/String")]
  staticTypes := #[(.object "com/example/trailwire/trailwire/status/StatusCode"), (.object "com/example/trailwire/trailwire/status/StatusCode"), (.object "com/example/trailwire/trailwire/status/StatusCode"), (.object "com/example/trailwire/trailwire/status/StatusCode"), (.object "com/example/trailwire/trailwire/status/StatusCode"), (.object "com/example/trailwire/trailwire/status/StatusCode"), (.object "com/example/trailwire/trailwire/status/StatusCode"), (.object "com/example/trailwire/trailwire/status/StatusCode"), (.object "com/example/trailwire/trailwire/status/StatusCode"), (.object "com/example/trailwire/trailwire/status/StatusCode"), (.object "com/example/trailwire/trailwire/status/StatusCode"), (.object "com/example/trailwire/trailwire/status/StatusCode"), (.object "com/example/trailwire/trailwire/status/StatusCode"), (.object "com/example/trailwire/trailwire/status/StatusCode"), (.object "com/example/trailwire/trailwire/status/StatusCode"), (.object "com/example/trailwire/trailwire/status/StatusCode"), (.object "com/example/trailwire/trailwire/status/StatusCode"), (.array (.object "com/example/trailwire/trailwire/status/StatusCode")), .long, .long, .long, .long, (.array (.object "com/example/trailwire/trailwire/status/StatusCode"))]
  resolved := Array.replicate 179 none
  statics := some 0 }

def pool7 : Array CpInfo := pool [(1, u "java/lang/Cloneable"), (0, .class_ 1), (0, u "java/lang/Object"), (0, .class_ 3)] 3

/-- java/lang/Cloneable -/
def k7 : Class := { plain "java/lang/Cloneable" (some 0) with
  accessFlags := 1537
  interfaces := #[]
  cf := some (fileOf pool7 2 #[] #[] 1537 4 #[] #[])
  fields := #[]
  methods := #[]
  instanceTypes := #[]
  staticTypes := #[]
  resolved := Array.replicate 8 none
  statics := none }

/-- the primitive byte -/
def k8 : Class := { plain "byte" none with kind := .primitive 'B', accessFlags := 0x411 }
/-- [B -/
def k9 : Class := { plain "[B" (some 0) with kind := .array 8 .byte, interfaces := #[7, 4], accessFlags := 1041 }

/-- the primitive int -/
def k10 : Class := { plain "int" none with kind := .primitive 'I', accessFlags := 0x411 }
/-- [I -/
def k11 : Class := { plain "[I" (some 0) with kind := .array 10 .int, interfaces := #[7, 4], accessFlags := 1041 }

/-- [Lcom/example/trailwire/trailwire/status/StatusCode; -/
def k12 : Class := { plain "[Lcom/example/trailwire/trailwire/status/StatusCode;" (some 0) with kind := .array 6 (.object "com/example/trailwire/trailwire/status/StatusCode"), interfaces := #[7, 4], accessFlags := 1041 }

def heap : Heap := #[{ cls := 6, slots := #[.ref 2, .ref 3, .ref 4, .ref 5, .ref 6, .ref 7, .ref 8, .ref 9, .ref 10, .ref 11, .ref 12, .ref 13, .ref 14, .ref 15, .ref 16, .ref 17, .ref 18, .ref 1, .long 0, .long 0, .long 0, .long 0, .null], vm := .statics 6 },
  { cls := 12, slots := #[.ref 2, .ref 3, .ref 4, .ref 5, .ref 6, .ref 7, .ref 8, .ref 9, .ref 10, .ref 11, .ref 12, .ref 13, .ref 14, .ref 15, .ref 16, .ref 17, .ref 18], vm := .none },
  { cls := 6, slots := #[.null, .int 0, .int 0, .int (0), .null], vm := .none },
  { cls := 6, slots := #[.null, .int 0, .int 0, .int (1), .null], vm := .none },
  { cls := 6, slots := #[.null, .int 0, .int 0, .int (2), .null], vm := .none },
  { cls := 6, slots := #[.null, .int 0, .int 0, .int (3), .null], vm := .none },
  { cls := 6, slots := #[.null, .int 0, .int 0, .int (4), .null], vm := .none },
  { cls := 6, slots := #[.null, .int 0, .int 0, .int (5), .null], vm := .none },
  { cls := 6, slots := #[.null, .int 0, .int 0, .int (6), .null], vm := .none },
  { cls := 6, slots := #[.null, .int 0, .int 0, .int (7), .null], vm := .none },
  { cls := 6, slots := #[.null, .int 0, .int 0, .int (8), .null], vm := .none },
  { cls := 6, slots := #[.null, .int 0, .int 0, .int (9), .null], vm := .none },
  { cls := 6, slots := #[.null, .int 0, .int 0, .int (10), .null], vm := .none },
  { cls := 6, slots := #[.null, .int 0, .int 0, .int (11), .null], vm := .none },
  { cls := 6, slots := #[.null, .int 0, .int 0, .int (12), .null], vm := .none },
  { cls := 6, slots := #[.null, .int 0, .int 0, .int (13), .null], vm := .none },
  { cls := 6, slots := #[.null, .int 0, .int 0, .int (14), .null], vm := .none },
  { cls := 6, slots := #[.null, .int 0, .int 0, .int (15), .null], vm := .none },
  { cls := 6, slots := #[.null, .int 0, .int 0, .int (16), .null], vm := .none }]
def classes : Array Class := #[k0, k1, k2, k3, k4, k5, k6, k7, k8, k9, k10, k11, k12]
def interned : List (Array UInt16 × Addr) := []
def slotsUsed : Nat := 125
def theMethod : MethodId := ⟨1, 1⟩
def args0 : Array Value := #[.int 5, .int 6]
def aboutOver (below : List Frame) : State where
  vm := { classes := classes, interned := interned.toArray }
  heap := heap
  slotsUsed := slotsUsed
  threads := #[{ frames := .invoking theMethod args0 :: below }]
def below0 : List Frame := [.native { method := ⟨0, 0⟩, args := #[] }]
def about1 : State := aboutOver below0
def p0 : Program := .bare "" "" ""
def e0 : Env := launch0.env 0 0 0
theorem w_frames : about1.frames = Frame.invoking theMethod args0 :: below0 := rfl
set_option maxRecDepth 65536 in
theorem w_args : argsFit about1.vm theMethod args0 = true := by decide +kernel
set_option maxRecDepth 65536 in
theorem w_heap : heapFits about1 = true := by decide +kernel
set_option maxRecDepth 65536 in
theorem w_runnable : about1.curStatus? = some .runnable := by decide +kernel
set_option maxRecDepth 65536 in
theorem w_alone : about1.alone = true := by decide +kernel
set_option maxRecDepth 65536 in
theorem w_named : about1.methodNamed? x = some theMethod := by decide +kernel
set_option maxRecDepth 65536 in
theorem w_hears : about1.hears theMethod below0 = true := by decide +kernel
set_option maxRecDepth 65536 in
theorem w_ripe : about1.ripe theMethod args0 below0 = true := by decide +kernel
theorem w_running : about1.status = .running := rfl
set_option maxRecDepth 65536 in
theorem w_room : about1.hasRoom e0.platform room_1 = true :=
  launch0.hasRoom_least _ room_1 (by decide +kernel) (by decide +kernel) (by decide +kernel) (by decide +kernel) (by decide +kernel) (by decide +kernel)
theorem allAtoms_all (ts : List Jvm.Cond) (a : Array Jvm.Value) (st : Jvm.State) : (allAtoms ts).before a st = ts.all (fun c => c.before a st) := by
  induction ts with
  | nil => rfl
  | cons c t ih =>
    show (Jvm.Cond.and c (allAtoms t)).before a st = _
    rw [Jvm.Cond.before_and, ih, List.all_cons]
def words1 : List Jvm.Cond := Jvm.Cond.code x code maxLocals ret :: tables_1
/-- a 'code' word, met by the world's own term for the bytes: nothing is compared byte by byte -/
theorem code_word {y : MethodName} {bytes : ByteArray} {mx : Nat} {rt : Option FieldType} {a : Array Value} {s : State} {m : MethodId} {meth : Method} {c : Code} (h1 : s.methodNamed? y = some m) (h2 : s.vm.method? m = some meth) (h3 : meth.code = some c) (h4 : c.code = bytes)
    (h5 : (c.maxLocals == mx && c.exceptionTable.isEmpty && decide (c.maxStack ≤ mostOperands) && decide (meth.sig.returnType = rt) && !meth.locks && decide (parseMethodDescriptor y.desc = some meth.sig)) = true) : (Jvm.Cond.code y bytes mx rt).before a s = true := by
  simp only [Bool.and_eq_true, beq_iff_eq, Bool.not_eq_true', decide_eq_true_eq] at h5
  obtain ⟨⟨⟨⟨⟨g1, g2⟩, g3⟩, g4⟩, g5⟩, g6⟩ := h5
  simp [Cond.before, Cond.holds, Cond.value, h1, h2, h3, h4, g1, g2, g3, g4, g5, g6]
def isCode : Jvm.Cond → Bool
  | .code _ _ _ _ => true
  | _ => false
theorem all_split {L : List Jvm.Cond} {P : Jvm.Cond → Bool} (h1 : L.all (fun c => isCode c || P c) = true) (h2 : ∀ c ∈ L.filter isCode, P c = true) : L.all P = true := by
  refine List.all_eq_true.mpr fun c hc => ?_
  have h := List.all_eq_true.mp h1 c hc
  rcases Bool.eq_false_or_eq_true (isCode c) with hi | hi
  · exact h2 c (List.mem_filter.mpr ⟨hc, hi⟩)
  · simpa [hi] using h
set_option maxRecDepth 65536 in
theorem w_c0 : (Jvm.Cond.code x code maxLocals ret).before args0 about1 = true := code_word (m := ⟨1, 1⟩) (meth := k1m1) (c := k1c1) (by decide +kernel) rfl rfl rfl (by decide +kernel)
set_option maxRecDepth 65536 in
theorem w_c1 : (Jvm.Cond.code ({ cls := "com/example/trailwire/trailwire/status/StatusCodeFromNumberPinLaw", name := "check", desc := "(I)Z" } : Jvm.MethodName) method_3_code (3 : Nat) (Option.some Jvm.ClassFile.FieldType.boolean)).before args0 about1 = true := code_word (m := ⟨1, 2⟩) (meth := k1m2) (c := k1c2) (by decide +kernel) rfl rfl rfl (by decide +kernel)
set_option maxRecDepth 65536 in
theorem w_c2 : (Jvm.Cond.code ({ cls := "com/example/trailwire/trailwire/status/StatusCode", name := "fromNumber", desc := "(I)Lcom/example/trailwire/trailwire/status/StatusCode;" } : Jvm.MethodName) prog_23_method_6_code (2 : Nat) (Option.some (Jvm.ClassFile.FieldType.object "com/example/trailwire/trailwire/status/StatusCode"))).before args0 about1 = true := code_word (m := ⟨6, 1⟩) (meth := k6m1) (c := k6c1) (by decide +kernel) rfl rfl rfl (by decide +kernel)
set_option maxRecDepth 65536 in
theorem w_c3 : (Jvm.Cond.code ({ cls := "com/example/trailwire/trailwire/status/StatusCode", name := "number", desc := "()I" } : Jvm.MethodName) prog_23_method_4_code (1 : Nat) (Option.some Jvm.ClassFile.FieldType.int)).before args0 about1 = true := code_word (m := ⟨6, 0⟩) (meth := k6m0) (c := k6c0) (by decide +kernel) rfl rfl rfl (by decide +kernel)
def codes1 : List Jvm.Cond := [Jvm.Cond.code x code maxLocals ret, Jvm.Cond.code ({ cls := "com/example/trailwire/trailwire/status/StatusCodeFromNumberPinLaw", name := "check", desc := "(I)Z" } : Jvm.MethodName) method_3_code (3 : Nat) (Option.some Jvm.ClassFile.FieldType.boolean), Jvm.Cond.code ({ cls := "com/example/trailwire/trailwire/status/StatusCode", name := "fromNumber", desc := "(I)Lcom/example/trailwire/trailwire/status/StatusCode;" } : Jvm.MethodName) prog_23_method_6_code (2 : Nat) (Option.some (Jvm.ClassFile.FieldType.object "com/example/trailwire/trailwire/status/StatusCode")), Jvm.Cond.code ({ cls := "com/example/trailwire/trailwire/status/StatusCode", name := "number", desc := "()I" } : Jvm.MethodName) prog_23_method_4_code (1 : Nat) (Option.some Jvm.ClassFile.FieldType.int)]
set_option maxRecDepth 65536 in
theorem codes_eq : words1.filter isCode = codes1 := rfl
theorem w_codes : ∀ c ∈ words1.filter isCode, c.before args0 about1 = true := by
  rw [codes_eq]
  intro c hc
  simp only [codes1, List.mem_cons, List.not_mem_nil, or_false] at hc
  rcases hc with rfl | rfl | rfl | rfl
  · exact w_c0
  · exact w_c1
  · exact w_c2
  · exact w_c3
set_option maxRecDepth 65536 in
theorem w_t1 : (words1.take 24).all (fun c => isCode c || c.before args0 about1) = true := by decide +kernel
set_option maxRecDepth 65536 in
theorem w_t2 : ((words1.drop 24).take 24).all (fun c => isCode c || c.before args0 about1) = true := by decide +kernel
set_option maxRecDepth 65536 in
theorem w_t3 : ((words1.drop 24).drop 24).all (fun c => isCode c || c.before args0 about1) = true := by decide +kernel
theorem w_tables : (allAtoms (Jvm.Cond.code x code maxLocals ret :: tables_1)).before args0 about1 = true := by
  rw [allAtoms_all]
  show words1.all (fun c => c.before args0 about1) = true
  refine all_split ?_ w_codes
  rw [← List.take_append_drop 24 words1, List.all_append, w_t1, ← List.take_append_drop 24 (words1.drop 24), List.all_append, w_t2, w_t3]
  rfl
set_option maxRecDepth 65536 in
theorem w_case : (Jvm.Cond.and given_1 narrow_1).before args0 about1 = true := by decide +kernel
theorem w_applies : (headSpec (Jvm.Cond.code x code maxLocals ret :: tables_1) room_1).applies x e0.platform about1 = true :=
  (Spec.applies_iff w_frames).mpr ⟨w_running, w_runnable, w_alone, w_named, w_hears, w_ripe, w_room, w_tables⟩
theorem atStart : AtStart classFile x code maxLocals ret World_1 tables_1 room_1 Calls_1 rest_1 Pre_1 launch0 p0 e0 about1 theMethod args0 below0 :=
  ⟨lists_1, trivial, launch0.admits_env _ _ _, launch0.least_env, fairChoices_fair.cas, fairChoices_fair.clock, w_frames, w_args, w_heap, w_applies, trivial, trivial, w_case⟩
end start1
theorem witness_1 : WitnessClaimed_1 := ⟨start1.p0, start1.e0, start1.about1, start1.theMethod, start1.args0, start1.below0, start1.atStart⟩
end Jvm.Pilot.@@N@@
