import JvmDerived
import JvmDerived.Pilot.@@N@@Statement
import JvmDerived.Pilot.@@N@@Code
set_option linter.unusedVariables false
set_option linter.unusedSimpArgs false
namespace Jvm.RoadKit
open Sem ClassFile Op Lib Jvm.Stand Jvm.Free Jvm.LawKit
section New
variable {p : Program} {l : Launch} {e : Env} {R : Room} {s : State} {m : MethodId} {args : Array Value} {below : List Frame} {meth : Method} {c : Code} {T : State} {locs : List Loc} {cells slots : Nat}
theorem retI (X : Stand p l e R s m args below meth c T locs cells slots) (hx : p.tables.exec = Jvm.exec) {pc : Nat} {Ls : Array Slot} {z : Int32} {rest : List Value} (hret : meth.sig.returnType = some .int) (hd : decode c.code pc = .ok (.ireturn, 1)) {fs : List Frame}
    (hl : ∀ (f : JFrame) (acts : List Action), f.method = m → f.locked = none → f.entered = [] → (doReturn e (T.setTop f) acts (some (.int z))).1 = T.setFrames fs) : Steps p.tables e below (T.setTop (mkF m pc Ls (.int z :: rest))) (T.setFrames fs) :=
  retOut X hx hret rfl (Or.inl ⟨rfl, Or.inl rfl, z, rfl⟩) hd hl
end New
end Jvm.RoadKit
namespace Jvm.Pilot.@@N@@
open Jvm Jvm.ClassFile Sem Op Lib Jvm.Free Jvm.Stand Jvm.LawKit Jvm.RoadKit Bundle Jvm.Pilot.@@N@@.Jvm.D
/-! small laws of this text's own -/
theorem own_eqv {args : Array Value} {first s : State} {o : Option Outcome} {idx : List Nat} {a b : Term} {v : Value} (h : (Jvm.Cond.eq a b).value args first o s idx = some true) (hb : b.eval args first o idx s = some v) : a.eval args first o idx s = some v := by
  cases ha : a.eval args first o idx s with
  | none => simp [Cond.value, ha] at h
  | some x => cases x <;> cases v <;> simp_all [Cond.value]
theorem own_fld {args : Array Value} {s : State} {t b : Term} {x : Addr} {C n d : String} {v : Value} (ht : t.eval args s none [] s = some (.ref x)) (h : (Jvm.Cond.eq (.field t C n d) b).value args s none s [] = some true) (hb : b.eval args s none [] s = some v) : Fld s s.heap x C n d v :=
  Fld.start ((fld_at ht).symm.trans (own_eqv h hb))
theorem own_len {args : Array Value} {s : State} {t : Term} {x : Addr} {c : Cell} {n : Int32} (ht : t.eval args s none [] s = some (.ref x)) (hc : s.heap[x]? = some c) (h : (Jvm.Cond.eq (.length t) (.int n)).value args s none s [] = some true) : c.slots.size < 2 ^ 31 ∧ c.slots.size.toInt32 = n := by
  have e := own_eqv h (v := .int n) rfl
  simp only [Term.eval, ht, Option.bind_eq_bind, Option.bind_some] at e
  cases hq : s.arrayAt? x with
  | none => simp [hq] at e
  | some c' =>
    have h1 := (State.arrayAt?_spec hq).1
    cases hc.symm.trans h1
    simp only [hq, Option.bind_some] at e
    split at e
    · rename_i hl; exact ⟨hl, by simpa using e⟩
    · cases e
theorem own_elem {args : Array Value} {s : State} {t b : Term} {x : Addr} {c : Cell} {j : Int32} {v : Value} (ht : t.eval args s none [] s = some (.ref x)) (hc : s.heap[x]? = some c) (h : (Jvm.Cond.eq (.elem t (.int j)) b).value args s none s [] = some true) (hb : b.eval args s none [] s = some v) : c.slots[j.toNatClampNeg]? = some v :=
  (elem_in (own_eqv h hb) ht rfl hc).2
theorem own_selpriv {y : MethodName} {s : State} {args : Array Value} {n : Nat} (hy : y.cls ≠ "java/lang/invoke/MethodHandle" ∧ y.cls ≠ "java/lang/invoke/VarHandle") (hins : (Jvm.Cond.instantiable y.cls n).before args s = true) (hpriv : (Jvm.Cond.privateMethod y).before args s = true) (hinst : (Jvm.Cond.instanceMethod y).before args s = true) : (Jvm.Cond.selects y.cls y y).before args s = true := by
  obtain ⟨c, k, hc, hk, -, hniab, -, -⟩ := Cond.instantiable_spec hins
  exact Stand.selects_self_of_private hc hk (Bool.or_eq_false_iff.mp hniab).1 (Cond.privateMethod_at hpriv) hinst hy
theorem own_ext {h0 h : Heap} (K : Keep h0 h []) : Ext h0 h := ⟨K.1, fun x c q => K.2.1 x c q (fun z => nomatch z)⟩
theorem own_cat1 {v : Value} (h : v.isRef = true) : v.category = 1 := by cases v <;> first | rfl | simp [Value.isRef] at h
theorem own_narref {t : FieldType} {v : Value} (h : t.isReference = true) (hv : v.isRef = true) : narrow t v = v := by
  cases v <;> first | (simp [Value.isRef] at hv; done) | (cases t <;> first | rfl | simp [FieldType.isReference] at h)
theorem own_store1 {l : Array Slot} {i : Nat} {v : Value} {o : Slot} (hold : l[i]? = some o) (ho : o = .unset ∨ ∃ w, o = .val w ∧ w.category = 1) (hv : v.category = 1) : storeLocals l i v = some (l.setIfInBounds i (.val v)) := XS.store1 hold ho hv
def own_Base (Z : State) (u : Nat → Addr) : Prop :=
  (Sta Z Z.heap "com/example/resolvent/resolvent/cli/OutputFormat" "TEXT" "Lcom/example/resolvent/resolvent/cli/OutputFormat;" (.ref (u 0))) ∧
  (Exa Z Z.heap (u 0) "com/example/resolvent/resolvent/cli/OutputFormat") ∧
  (Sta Z Z.heap "com/example/resolvent/resolvent/cli/OutputFormat" "$VALUES" "[Lcom/example/resolvent/resolvent/cli/OutputFormat;" (.ref (u 1))) ∧
  (Exa Z Z.heap (u 1) "[Lcom/example/resolvent/resolvent/cli/OutputFormat;") ∧
  (Sta Z Z.heap "com/example/resolvent/resolvent/cli/OutputFormat" "JSON" "Lcom/example/resolvent/resolvent/cli/OutputFormat;" (.ref (u 2))) ∧
  (Exa Z Z.heap (u 2) "com/example/resolvent/resolvent/cli/OutputFormat") ∧
  (Fld Z Z.heap (u 0) "java/lang/Enum" "ordinal" "I" (.int (0 : Int32))) ∧
  (∃ k, Arv Z Z.heap (u 1) k (.object "com/example/resolvent/resolvent/cli/OutputFormat") (2 : Int32) [.ref (u 0), .ref (u 2)] .null) ∧
  (Fld Z Z.heap (u 2) "java/lang/Enum" "ordinal" "I" (.int (1 : Int32))) ∧
  (∃ w : Int32, (¬ w = (0 : Int32)) ∧ Sta Z Z.heap "java/lang/String" "COMPACT_STRINGS" "Z" (.int w))
theorem own_compact {args : Array Value} {s : State} {t : Term} {w : Int32} (ht : t.eval args s none [] s = some (.int w)) (h : (Jvm.Cond.not (Jvm.Cond.eq t (.int (0 : Int32)))).value args s none s [] = some true) : ¬ w = (0 : Int32) := by
  intro q
  subst q
  simp [Cond.value, ht, Term.eval] at h
theorem own_ew {Z : State} {a0 : Array Value} (hw : ∀ d ∈ tables_1, d.before a0 Z = true) : EW Z a0 consts_1 := EW.cons (hw _ (List.mem_of_getElem? (i := 17) rfl)) (by decide +kernel) (EW.cons (hw _ (List.mem_of_getElem? (i := 46) rfl)) (by decide +kernel) (EW.cons (hw _ (List.mem_of_getElem? (i := 45) rfl)) (by decide +kernel) (EW.cons (hw _ (List.mem_of_getElem? (i := 3) rfl)) (by decide +kernel) (EW.nil))))
theorem own_wS {Z : State} {a0 : Array Value} (hw : ∀ d ∈ tables_1, d.before a0 Z = true) : ∀ a ∈ Bundle.stringAtoms, a.before a0 Z = true := fun d hd => by
  simp only [Bundle.stringAtoms, List.mem_cons, List.not_mem_nil, or_false] at hd
  rcases hd with rfl | rfl | rfl | rfl | rfl | rfl | rfl
  · exact (hw _ (List.mem_of_getElem? (i := 4) rfl))
  · exact (hw _ (List.mem_of_getElem? (i := 5) rfl))
  · exact (hw _ (List.mem_of_getElem? (i := 6) rfl))
  · exact (hw _ (List.mem_of_getElem? (i := 7) rfl))
  · exact (hw _ (List.mem_of_getElem? (i := 8) rfl))
  · exact (hw _ (List.mem_of_getElem? (i := 9) rfl))
  · exact (hw _ (List.mem_of_getElem? (i := 10) rfl))
theorem own_sne {Z : State} {h : Heap} {a b a' b' : Addr} {k k' : ClassId} (F : Fld Z h a "java/lang/String" "value" "[B" (.ref b)) (A : Arv Z h b k .byte (4 : Int32) [.int (116 : Int32), .int (101 : Int32), .int (120 : Int32), .int (116 : Int32)] (.int (0 : Int32))) (F' : Fld Z h a' "java/lang/String" "value" "[B" (.ref b')) (A' : Arv Z h b' k' .byte (4 : Int32) [.int (106 : Int32), .int (115 : Int32), .int (111 : Int32), .int (110 : Int32)] (.int (0 : Int32))) : a ≠ a' := Fld.ne F F' (fun q => by
  have q := Value.ref.inj q
  subst q
  obtain ⟨c, r, -, s1, -, H, -⟩ := A
  obtain ⟨c', r', -, s1', -, H', -⟩ := A'
  obtain rfl : c = c' := Option.some.inj (r.1.symm.trans r'.1)
  have e1 := H 0 (by rw [s1]; decide)
  have e2 := H' 0 (by rw [s1]; decide)
  rw [e1] at e2
  exact absurd e2 (by decide))
theorem own_pd0 : parseMethodDescriptor "([B[B)Z" = some ⟨[(.array .byte), (.array .byte)], some .boolean⟩ := by decide +kernel
theorem own_pd1 : parseMethodDescriptor "()[Lcom/example/resolvent/resolvent/cli/OutputFormat;" = some ⟨[], some (.array (.object "com/example/resolvent/resolvent/cli/OutputFormat"))⟩ := by decide +kernel
theorem own_pd2 : parseMethodDescriptor "()Ljava/lang/String;" = some ⟨[], some (.object "java/lang/String")⟩ := by decide +kernel
theorem own_pd3 : parseMethodDescriptor "(Ljava/lang/Object;)Z" = some ⟨[(.object "java/lang/Object")], some .boolean⟩ := by decide +kernel
theorem own_pd4 : parseMethodDescriptor "(Ljava/lang/String;)Lcom/example/resolvent/resolvent/cli/OutputFormat;" = some ⟨[(.object "java/lang/String")], some (.object "com/example/resolvent/resolvent/cli/OutputFormat")⟩ := by decide +kernel
theorem d5_0 : decode jdk_43_method_13_code 0 = .ok (.aload_n 0, 1) := by decide +kernel
theorem d5_1 : decode jdk_43_method_13_code 1 = .ok (.arraylength, 1) := by decide +kernel
theorem d5_2 : decode jdk_43_method_13_code 2 = .ok (.aload_n 1, 1) := by decide +kernel
theorem d5_3 : decode jdk_43_method_13_code 3 = .ok (.arraylength, 1) := by decide +kernel
theorem d5_4 : decode jdk_43_method_13_code 4 = .ok (.if_icmp .ne 30, 3) := by decide +kernel
theorem d5_7 : decode jdk_43_method_13_code 7 = .ok (.iconst 0, 1) := by decide +kernel
theorem d5_8 : decode jdk_43_method_13_code 8 = .ok (.istore_n 2, 1) := by decide +kernel
theorem d5_9 : decode jdk_43_method_13_code 9 = .ok (.iload_n 2, 1) := by decide +kernel
theorem d5_10 : decode jdk_43_method_13_code 10 = .ok (.aload_n 0, 1) := by decide +kernel
theorem d5_11 : decode jdk_43_method_13_code 11 = .ok (.arraylength, 1) := by decide +kernel
theorem d5_12 : decode jdk_43_method_13_code 12 = .ok (.if_icmp .ge 20, 3) := by decide +kernel
theorem d5_15 : decode jdk_43_method_13_code 15 = .ok (.aload_n 0, 1) := by decide +kernel
theorem d5_16 : decode jdk_43_method_13_code 16 = .ok (.iload_n 2, 1) := by decide +kernel
theorem d5_17 : decode jdk_43_method_13_code 17 = .ok (.baload, 1) := by decide +kernel
theorem d5_18 : decode jdk_43_method_13_code 18 = .ok (.aload_n 1, 1) := by decide +kernel
theorem d5_19 : decode jdk_43_method_13_code 19 = .ok (.iload_n 2, 1) := by decide +kernel
theorem d5_20 : decode jdk_43_method_13_code 20 = .ok (.baload, 1) := by decide +kernel
theorem d5_21 : decode jdk_43_method_13_code 21 = .ok (.if_icmp .eq 5, 3) := by decide +kernel
theorem d5_26 : decode jdk_43_method_13_code 26 = .ok (.iinc 2 1, 3) := by decide +kernel
theorem d5_29 : decode jdk_43_method_13_code 29 = .ok (.goto (-20), 3) := by decide +kernel
theorem d5_32 : decode jdk_43_method_13_code 32 = .ok (.iconst 1, 1) := by decide +kernel
theorem d5_33 : decode jdk_43_method_13_code 33 = .ok (.ireturn, 1) := by decide +kernel
theorem own_pn_5 : plainName "java/lang/StringLatin1" = true := by first | (simp [plainName, overriddenIn]; done) | decide +kernel
theorem own_ef_LTT (m : MethodId) (x0 : Addr) (x1 : Addr) : entryFrame m #[(.ref x0), (.ref x1)] 3 = mkF m 0 #[.val (.ref x0), .val (.ref x1), .unset] [] := by first | (simp [entryFrame, mkF, argsToLocals, Value.category]; done) | rfl
def own_QLTT (Z : State) (u : Nat → Addr) (r0 : Addr) (r1 : Addr) (k0 : ClassId) (k1 : ClassId) (h0 : Heap) (n0 : Nat) (v : Option Value) (h : Heap) (L : List Loc) : Prop := v = some (.int (1 : Int32)) ∧ Fr n0 L ∧ h = h0
set_option maxRecDepth 65536 in
set_option maxHeartbeats 40000000 in
theorem rmLTT (l : Launch) (Z : State) (a0 : Array Value) (hw : ∀ d ∈ tables_1, d.before a0 Z = true) (ws : List Jvm.Cond) (u : Nat → Addr) (r0 : Addr) (r1 : Addr) (k0 : ClassId) (k1 : ClassId) (B : own_Base Z u) (h0 : Heap) (n0 : Nat) (O : Old Z n0 h0) (hA0 : Arv Z h0 r0 k0 .byte (4 : Int32) [.int (116 : Int32), .int (101 : Int32), .int (120 : Int32), .int (116 : Int32)] (.int (0 : Int32))) (hA1 : Arv Z h0 r1 k1 .byte (4 : Int32) [.int (116 : Int32), .int (101 : Int32), .int (120 : Int32), .int (116 : Int32)] (.int (0 : Int32))) :
    MetFree l (⟨"java/lang/StringLatin1", "equals", "([B[B)Z"⟩ : MethodName) (head1 (Jvm.Cond.code (⟨"java/lang/StringLatin1", "equals", "([B[B)Z"⟩ : MethodName) jdk_43_method_13_code 3 (some .boolean) :: ws) ({ frames := 0, cells := 0, slots := 0, locals := 0 } : Room)) (fun a U => a = #[(.ref r0), (.ref r1)] ∧ Z.Warmed39 U.vm ∧ U.heap = h0) (fun _ _ _ _ _ => True) (fun _ U o U' => ∃ v L, o = .returned v ∧ own_QLTT Z u r0 r1 k0 k1 h0 n0 v U'.heap L ∧ FrameEnd U o U' L ({ frames := 0, cells := 0, slots := 0, locals := 0 } : Room).cells ({ frames := 0, cells := 0, slots := 0, locals := 0 } : Room).slots) := by
  refine MetFree.of_bodySF (plainFor_of_name own_pn_5) hisR ?_
  intro p e s m args below meth c s₁ Bd hml0 hP hK
  obtain ⟨rfl, hZ, hh⟩ := hP
  have hx := Bd.exec
  have hby := Bd.bytes
  have hml : c.maxLocals = 3 := hml0
  have hown : s.vm.findClass "java/lang/StringLatin1" = some m.cls := findClass_of_methodNamed Bd.named
  have hnm := (name_of_methodNamed Bd.named Bd.method).1
  have X0 : Stand p l e ({ frames := 0, cells := 0, slots := 0, locals := 0 } : Room) s m #[(.ref r0), (.ref r1)] below meth c s₁ [] 0 0 := Stand.of_body Bd
  have e0 : s₁.heap = h0 := by rw [← hh, Bd.state]; rfl
  have N0 := Fr.nil n0
  have K0 := Keep.refl h0 []
  have Z0 : n0 ≤ h0.size := O.1 ▸ O.2.1
  have pre0 : ∀ t, Steps p.tables e below (s₁.setTop (mkF m 0 #[.val (.ref r0), .val (.ref r1), .unset] [])) t → Steps p.tables e below (s₁.setTop (entryFrame m #[(.ref r0), (.ref r1)] 3)) t := fun t k => castTop (own_ef_LTT m r0 r1) k
  obtain ⟨cl1, Ar1, -, S1, N1, -, -⟩ := id hA0
  obtain ⟨cl2, Ar2, -, S2, N2, -, -⟩ := id hA1
  obtain ⟨cl3, Ar3, -, S3, N3, -, -⟩ := id hA0
  obtain ⟨cl4, Ar4, -, S4, N4, H4, -⟩ := id hA0
  have hin4 : ¬ ((0 : Int32) < 0 ∨ cl4.slots.size ≤ ((0 : Int32)).toNatClampNeg) := inb_of S4 ⟨by decide, by decide⟩
  obtain ⟨cl5, Ar5, -, S5, N5, H5, -⟩ := id hA1
  have hin5 : ¬ ((0 : Int32) < 0 ∨ cl5.slots.size ≤ ((0 : Int32)).toNatClampNeg) := inb_of S5 ⟨by decide, by decide⟩
  obtain ⟨cl6, Ar6, -, S6, N6, -, -⟩ := id hA0
  obtain ⟨cl7, Ar7, -, S7, N7, H7, -⟩ := id hA0
  have hin7 : ¬ ((1 : Int32) < 0 ∨ cl7.slots.size ≤ ((1 : Int32)).toNatClampNeg) := inb_of S7 ⟨by decide, by decide⟩
  obtain ⟨cl8, Ar8, -, S8, N8, H8, -⟩ := id hA1
  have hin8 : ¬ ((1 : Int32) < 0 ∨ cl8.slots.size ≤ ((1 : Int32)).toNatClampNeg) := inb_of S8 ⟨by decide, by decide⟩
  obtain ⟨cl9, Ar9, -, S9, N9, -, -⟩ := id hA0
  obtain ⟨cl10, Ar10, -, S10, N10, H10, -⟩ := id hA0
  have hin10 : ¬ ((2 : Int32) < 0 ∨ cl10.slots.size ≤ ((2 : Int32)).toNatClampNeg) := inb_of S10 ⟨by decide, by decide⟩
  obtain ⟨cl11, Ar11, -, S11, N11, H11, -⟩ := id hA1
  have hin11 : ¬ ((2 : Int32) < 0 ∨ cl11.slots.size ≤ ((2 : Int32)).toNatClampNeg) := inb_of S11 ⟨by decide, by decide⟩
  obtain ⟨cl12, Ar12, -, S12, N12, -, -⟩ := id hA0
  obtain ⟨cl13, Ar13, -, S13, N13, H13, -⟩ := id hA0
  have hin13 : ¬ ((3 : Int32) < 0 ∨ cl13.slots.size ≤ ((3 : Int32)).toNatClampNeg) := inb_of S13 ⟨by decide, by decide⟩
  obtain ⟨cl14, Ar14, -, S14, N14, H14, -⟩ := id hA1
  have hin14 : ¬ ((3 : Int32) < 0 ∨ cl14.slots.size ≤ ((3 : Int32)).toNatClampNeg) := inb_of S14 ⟨by decide, by decide⟩
  obtain ⟨cl15, Ar15, -, S15, N15, -, -⟩ := id hA0
  obtain ⟨fs, hr, hrun, hended, hW, hsame⟩ := X0.leave (v := some (.int (1 : Int32))) (fun h => by rw [Bd.returns] at h; cases h)
  refine ⟨_, _, pre0 _ ?_, hrun, hended, _, _, rfl, ?_, ⟨_, rfl⟩, hW, hsame.mono (by decide) (by decide)⟩
  · show Steps p.tables e below (s₁.setTop (mkF m 0 #[.val (.ref r0), .val (.ref r1), .unset] [])) _
    refine XS.aloadN X0.here hx rfl (hb hby d5_0) rfl rfl ?_
    show Steps p.tables e below (s₁.setTop (mkF m 1 #[.val (.ref r0), .val (.ref r1), .unset] [(.ref r0)])) _
    refine X0.arraylength hx (by rw [e0]; exact Ar1.1) (State.isArrayOf_alike hZ.alike Ar1.2.1) (g := (mkF m 1 #[.val (.ref r0), .val (.ref r1), .unset] [(.ref r0)])) rfl rfl (hb hby d5_1) _ ?_
    rw [len_of S1 N1]
    show Steps p.tables e below (s₁.setTop (mkF m 2 #[.val (.ref r0), .val (.ref r1), .unset] [(.int (4 : Int32))])) _
    refine XS.aloadN X0.here hx rfl (hb hby d5_2) rfl rfl ?_
    show Steps p.tables e below (s₁.setTop (mkF m 3 #[.val (.ref r0), .val (.ref r1), .unset] [(.ref r1), (.int (4 : Int32))])) _
    refine X0.arraylength hx (by rw [e0]; exact Ar2.1) (State.isArrayOf_alike hZ.alike Ar2.2.1) (g := (mkF m 3 #[.val (.ref r0), .val (.ref r1), .unset] [(.ref r1), (.int (4 : Int32))])) rfl rfl (hb hby d5_3) _ ?_
    rw [len_of S2 N2]
    show Steps p.tables e below (s₁.setTop (mkF m 4 #[.val (.ref r0), .val (.ref r1), .unset] [(.int (4 : Int32)), (.int (4 : Int32))])) _
    refine XS.icmpNo X0.here hx rfl (hb hby d5_4) rfl (teq (by decide : (4 : Int32) = (4 : Int32))).2 ?_
    show Steps p.tables e below (s₁.setTop (mkF m 7 #[.val (.ref r0), .val (.ref r1), .unset] [])) _
    refine XS.iconst X0.here hx rfl (hb hby d5_7) ?_
    show Steps p.tables e below (s₁.setTop (mkF m 8 #[.val (.ref r0), .val (.ref r1), .unset] [(.int (0 : Int32))])) _
    refine XS.istoreN X0.here hx rfl (hb hby d5_8) rfl (l' := #[.val (.ref r0), .val (.ref r1), .val (.int (0 : Int32))]) rfl ?_
    show Steps p.tables e below (s₁.setTop (mkF m 9 #[.val (.ref r0), .val (.ref r1), .val (.int (0 : Int32))] [])) _
    refine XS.iloadN X0.here hx rfl (hb hby d5_9) rfl ?_
    show Steps p.tables e below (s₁.setTop (mkF m 10 #[.val (.ref r0), .val (.ref r1), .val (.int (0 : Int32))] [(.int (0 : Int32))])) _
    refine XS.aloadN X0.here hx rfl (hb hby d5_10) rfl rfl ?_
    show Steps p.tables e below (s₁.setTop (mkF m 11 #[.val (.ref r0), .val (.ref r1), .val (.int (0 : Int32))] [(.ref r0), (.int (0 : Int32))])) _
    refine X0.arraylength hx (by rw [e0]; exact Ar3.1) (State.isArrayOf_alike hZ.alike Ar3.2.1) (g := (mkF m 11 #[.val (.ref r0), .val (.ref r1), .val (.int (0 : Int32))] [(.ref r0), (.int (0 : Int32))])) rfl rfl (hb hby d5_11) _ ?_
    rw [len_of S3 N3]
    show Steps p.tables e below (s₁.setTop (mkF m 12 #[.val (.ref r0), .val (.ref r1), .val (.int (0 : Int32))] [(.int (4 : Int32)), (.int (0 : Int32))])) _
    refine XS.icmpNo X0.here hx rfl (hb hby d5_12) rfl (tlt (by decide : (0 : Int32) < (4 : Int32))).2.1 ?_
    show Steps p.tables e below (s₁.setTop (mkF m 15 #[.val (.ref r0), .val (.ref r1), .val (.int (0 : Int32))] [])) _
    refine XS.aloadN X0.here hx rfl (hb hby d5_15) rfl rfl ?_
    show Steps p.tables e below (s₁.setTop (mkF m 16 #[.val (.ref r0), .val (.ref r1), .val (.int (0 : Int32))] [(.ref r0)])) _
    refine XS.iloadN X0.here hx rfl (hb hby d5_16) rfl ?_
    show Steps p.tables e below (s₁.setTop (mkF m 17 #[.val (.ref r0), .val (.ref r1), .val (.int (0 : Int32))] [(.int (0 : Int32)), (.ref r0)])) _
    refine X0.baloadBytes hx (j := (0 : Int32)) (v := (.int (116 : Int32))) (by rw [e0]; exact Ar4.1) (State.isArrayOf_alike hZ.alike Ar4.2.1) Ar4.2.2 hin4 (H4.at hin4 rfl) (g := (mkF m 17 #[.val (.ref r0), .val (.ref r1), .val (.int (0 : Int32))] [(.int (0 : Int32)), (.ref r0)])) rfl rfl (hb hby d5_17) _ ?_
    show Steps p.tables e below (s₁.setTop (mkF m 18 #[.val (.ref r0), .val (.ref r1), .val (.int (0 : Int32))] [(.int (116 : Int32))])) _
    refine XS.aloadN X0.here hx rfl (hb hby d5_18) rfl rfl ?_
    show Steps p.tables e below (s₁.setTop (mkF m 19 #[.val (.ref r0), .val (.ref r1), .val (.int (0 : Int32))] [(.ref r1), (.int (116 : Int32))])) _
    refine XS.iloadN X0.here hx rfl (hb hby d5_19) rfl ?_
    show Steps p.tables e below (s₁.setTop (mkF m 20 #[.val (.ref r0), .val (.ref r1), .val (.int (0 : Int32))] [(.int (0 : Int32)), (.ref r1), (.int (116 : Int32))])) _
    refine X0.baloadBytes hx (j := (0 : Int32)) (v := (.int (116 : Int32))) (by rw [e0]; exact Ar5.1) (State.isArrayOf_alike hZ.alike Ar5.2.1) Ar5.2.2 hin5 (H5.at hin5 rfl) (g := (mkF m 20 #[.val (.ref r0), .val (.ref r1), .val (.int (0 : Int32))] [(.int (0 : Int32)), (.ref r1), (.int (116 : Int32))])) rfl rfl (hb hby d5_20) _ ?_
    show Steps p.tables e below (s₁.setTop (mkF m 21 #[.val (.ref r0), .val (.ref r1), .val (.int (0 : Int32))] [(.int (116 : Int32)), (.int (116 : Int32))])) _
    refine XS.icmpYes X0.here hx rfl (pc0 := 21) (pc' := 26) rfl (hb hby d5_21) rfl (teq (by decide : (116 : Int32) = (116 : Int32))).1 (by decide) (by decide) ?_
    show Steps p.tables e below (s₁.setTop (mkF m 26 #[.val (.ref r0), .val (.ref r1), .val (.int (0 : Int32))] [])) _
    refine XS.iinc X0.here hx rfl (hb hby d5_26) rfl (l' := #[.val (.ref r0), .val (.ref r1), .val (.int (1 : Int32))]) rfl ?_
    show Steps p.tables e below (s₁.setTop (mkF m 29 #[.val (.ref r0), .val (.ref r1), .val (.int (1 : Int32))] [])) _
    refine XS.goto X0.here hx rfl (pc0 := 29) (pc' := 9) rfl (hb hby d5_29) (by decide) (by decide) ?_
    show Steps p.tables e below (s₁.setTop (mkF m 9 #[.val (.ref r0), .val (.ref r1), .val (.int (1 : Int32))] [])) _
    refine XS.iloadN X0.here hx rfl (hb hby d5_9) rfl ?_
    show Steps p.tables e below (s₁.setTop (mkF m 10 #[.val (.ref r0), .val (.ref r1), .val (.int (1 : Int32))] [(.int (1 : Int32))])) _
    refine XS.aloadN X0.here hx rfl (hb hby d5_10) rfl rfl ?_
    show Steps p.tables e below (s₁.setTop (mkF m 11 #[.val (.ref r0), .val (.ref r1), .val (.int (1 : Int32))] [(.ref r0), (.int (1 : Int32))])) _
    refine X0.arraylength hx (by rw [e0]; exact Ar6.1) (State.isArrayOf_alike hZ.alike Ar6.2.1) (g := (mkF m 11 #[.val (.ref r0), .val (.ref r1), .val (.int (1 : Int32))] [(.ref r0), (.int (1 : Int32))])) rfl rfl (hb hby d5_11) _ ?_
    rw [len_of S6 N6]
    show Steps p.tables e below (s₁.setTop (mkF m 12 #[.val (.ref r0), .val (.ref r1), .val (.int (1 : Int32))] [(.int (4 : Int32)), (.int (1 : Int32))])) _
    refine XS.icmpNo X0.here hx rfl (hb hby d5_12) rfl (tlt (by decide : (1 : Int32) < (4 : Int32))).2.1 ?_
    show Steps p.tables e below (s₁.setTop (mkF m 15 #[.val (.ref r0), .val (.ref r1), .val (.int (1 : Int32))] [])) _
    refine XS.aloadN X0.here hx rfl (hb hby d5_15) rfl rfl ?_
    show Steps p.tables e below (s₁.setTop (mkF m 16 #[.val (.ref r0), .val (.ref r1), .val (.int (1 : Int32))] [(.ref r0)])) _
    refine XS.iloadN X0.here hx rfl (hb hby d5_16) rfl ?_
    show Steps p.tables e below (s₁.setTop (mkF m 17 #[.val (.ref r0), .val (.ref r1), .val (.int (1 : Int32))] [(.int (1 : Int32)), (.ref r0)])) _
    refine X0.baloadBytes hx (j := (1 : Int32)) (v := (.int (101 : Int32))) (by rw [e0]; exact Ar7.1) (State.isArrayOf_alike hZ.alike Ar7.2.1) Ar7.2.2 hin7 (H7.at hin7 rfl) (g := (mkF m 17 #[.val (.ref r0), .val (.ref r1), .val (.int (1 : Int32))] [(.int (1 : Int32)), (.ref r0)])) rfl rfl (hb hby d5_17) _ ?_
    show Steps p.tables e below (s₁.setTop (mkF m 18 #[.val (.ref r0), .val (.ref r1), .val (.int (1 : Int32))] [(.int (101 : Int32))])) _
    refine XS.aloadN X0.here hx rfl (hb hby d5_18) rfl rfl ?_
    show Steps p.tables e below (s₁.setTop (mkF m 19 #[.val (.ref r0), .val (.ref r1), .val (.int (1 : Int32))] [(.ref r1), (.int (101 : Int32))])) _
    refine XS.iloadN X0.here hx rfl (hb hby d5_19) rfl ?_
    show Steps p.tables e below (s₁.setTop (mkF m 20 #[.val (.ref r0), .val (.ref r1), .val (.int (1 : Int32))] [(.int (1 : Int32)), (.ref r1), (.int (101 : Int32))])) _
    refine X0.baloadBytes hx (j := (1 : Int32)) (v := (.int (101 : Int32))) (by rw [e0]; exact Ar8.1) (State.isArrayOf_alike hZ.alike Ar8.2.1) Ar8.2.2 hin8 (H8.at hin8 rfl) (g := (mkF m 20 #[.val (.ref r0), .val (.ref r1), .val (.int (1 : Int32))] [(.int (1 : Int32)), (.ref r1), (.int (101 : Int32))])) rfl rfl (hb hby d5_20) _ ?_
    show Steps p.tables e below (s₁.setTop (mkF m 21 #[.val (.ref r0), .val (.ref r1), .val (.int (1 : Int32))] [(.int (101 : Int32)), (.int (101 : Int32))])) _
    refine XS.icmpYes X0.here hx rfl (pc0 := 21) (pc' := 26) rfl (hb hby d5_21) rfl (teq (by decide : (101 : Int32) = (101 : Int32))).1 (by decide) (by decide) ?_
    show Steps p.tables e below (s₁.setTop (mkF m 26 #[.val (.ref r0), .val (.ref r1), .val (.int (1 : Int32))] [])) _
    refine XS.iinc X0.here hx rfl (hb hby d5_26) rfl (l' := #[.val (.ref r0), .val (.ref r1), .val (.int (2 : Int32))]) rfl ?_
    show Steps p.tables e below (s₁.setTop (mkF m 29 #[.val (.ref r0), .val (.ref r1), .val (.int (2 : Int32))] [])) _
    refine XS.goto X0.here hx rfl (pc0 := 29) (pc' := 9) rfl (hb hby d5_29) (by decide) (by decide) ?_
    show Steps p.tables e below (s₁.setTop (mkF m 9 #[.val (.ref r0), .val (.ref r1), .val (.int (2 : Int32))] [])) _
    refine XS.iloadN X0.here hx rfl (hb hby d5_9) rfl ?_
    show Steps p.tables e below (s₁.setTop (mkF m 10 #[.val (.ref r0), .val (.ref r1), .val (.int (2 : Int32))] [(.int (2 : Int32))])) _
    refine XS.aloadN X0.here hx rfl (hb hby d5_10) rfl rfl ?_
    show Steps p.tables e below (s₁.setTop (mkF m 11 #[.val (.ref r0), .val (.ref r1), .val (.int (2 : Int32))] [(.ref r0), (.int (2 : Int32))])) _
    refine X0.arraylength hx (by rw [e0]; exact Ar9.1) (State.isArrayOf_alike hZ.alike Ar9.2.1) (g := (mkF m 11 #[.val (.ref r0), .val (.ref r1), .val (.int (2 : Int32))] [(.ref r0), (.int (2 : Int32))])) rfl rfl (hb hby d5_11) _ ?_
    rw [len_of S9 N9]
    show Steps p.tables e below (s₁.setTop (mkF m 12 #[.val (.ref r0), .val (.ref r1), .val (.int (2 : Int32))] [(.int (4 : Int32)), (.int (2 : Int32))])) _
    refine XS.icmpNo X0.here hx rfl (hb hby d5_12) rfl (tlt (by decide : (2 : Int32) < (4 : Int32))).2.1 ?_
    show Steps p.tables e below (s₁.setTop (mkF m 15 #[.val (.ref r0), .val (.ref r1), .val (.int (2 : Int32))] [])) _
    refine XS.aloadN X0.here hx rfl (hb hby d5_15) rfl rfl ?_
    show Steps p.tables e below (s₁.setTop (mkF m 16 #[.val (.ref r0), .val (.ref r1), .val (.int (2 : Int32))] [(.ref r0)])) _
    refine XS.iloadN X0.here hx rfl (hb hby d5_16) rfl ?_
    show Steps p.tables e below (s₁.setTop (mkF m 17 #[.val (.ref r0), .val (.ref r1), .val (.int (2 : Int32))] [(.int (2 : Int32)), (.ref r0)])) _
    refine X0.baloadBytes hx (j := (2 : Int32)) (v := (.int (120 : Int32))) (by rw [e0]; exact Ar10.1) (State.isArrayOf_alike hZ.alike Ar10.2.1) Ar10.2.2 hin10 (H10.at hin10 rfl) (g := (mkF m 17 #[.val (.ref r0), .val (.ref r1), .val (.int (2 : Int32))] [(.int (2 : Int32)), (.ref r0)])) rfl rfl (hb hby d5_17) _ ?_
    show Steps p.tables e below (s₁.setTop (mkF m 18 #[.val (.ref r0), .val (.ref r1), .val (.int (2 : Int32))] [(.int (120 : Int32))])) _
    refine XS.aloadN X0.here hx rfl (hb hby d5_18) rfl rfl ?_
    show Steps p.tables e below (s₁.setTop (mkF m 19 #[.val (.ref r0), .val (.ref r1), .val (.int (2 : Int32))] [(.ref r1), (.int (120 : Int32))])) _
    refine XS.iloadN X0.here hx rfl (hb hby d5_19) rfl ?_
    show Steps p.tables e below (s₁.setTop (mkF m 20 #[.val (.ref r0), .val (.ref r1), .val (.int (2 : Int32))] [(.int (2 : Int32)), (.ref r1), (.int (120 : Int32))])) _
    refine X0.baloadBytes hx (j := (2 : Int32)) (v := (.int (120 : Int32))) (by rw [e0]; exact Ar11.1) (State.isArrayOf_alike hZ.alike Ar11.2.1) Ar11.2.2 hin11 (H11.at hin11 rfl) (g := (mkF m 20 #[.val (.ref r0), .val (.ref r1), .val (.int (2 : Int32))] [(.int (2 : Int32)), (.ref r1), (.int (120 : Int32))])) rfl rfl (hb hby d5_20) _ ?_
    show Steps p.tables e below (s₁.setTop (mkF m 21 #[.val (.ref r0), .val (.ref r1), .val (.int (2 : Int32))] [(.int (120 : Int32)), (.int (120 : Int32))])) _
    refine XS.icmpYes X0.here hx rfl (pc0 := 21) (pc' := 26) rfl (hb hby d5_21) rfl (teq (by decide : (120 : Int32) = (120 : Int32))).1 (by decide) (by decide) ?_
    show Steps p.tables e below (s₁.setTop (mkF m 26 #[.val (.ref r0), .val (.ref r1), .val (.int (2 : Int32))] [])) _
    refine XS.iinc X0.here hx rfl (hb hby d5_26) rfl (l' := #[.val (.ref r0), .val (.ref r1), .val (.int (3 : Int32))]) rfl ?_
    show Steps p.tables e below (s₁.setTop (mkF m 29 #[.val (.ref r0), .val (.ref r1), .val (.int (3 : Int32))] [])) _
    refine XS.goto X0.here hx rfl (pc0 := 29) (pc' := 9) rfl (hb hby d5_29) (by decide) (by decide) ?_
    show Steps p.tables e below (s₁.setTop (mkF m 9 #[.val (.ref r0), .val (.ref r1), .val (.int (3 : Int32))] [])) _
    refine XS.iloadN X0.here hx rfl (hb hby d5_9) rfl ?_
    show Steps p.tables e below (s₁.setTop (mkF m 10 #[.val (.ref r0), .val (.ref r1), .val (.int (3 : Int32))] [(.int (3 : Int32))])) _
    refine XS.aloadN X0.here hx rfl (hb hby d5_10) rfl rfl ?_
    show Steps p.tables e below (s₁.setTop (mkF m 11 #[.val (.ref r0), .val (.ref r1), .val (.int (3 : Int32))] [(.ref r0), (.int (3 : Int32))])) _
    refine X0.arraylength hx (by rw [e0]; exact Ar12.1) (State.isArrayOf_alike hZ.alike Ar12.2.1) (g := (mkF m 11 #[.val (.ref r0), .val (.ref r1), .val (.int (3 : Int32))] [(.ref r0), (.int (3 : Int32))])) rfl rfl (hb hby d5_11) _ ?_
    rw [len_of S12 N12]
    show Steps p.tables e below (s₁.setTop (mkF m 12 #[.val (.ref r0), .val (.ref r1), .val (.int (3 : Int32))] [(.int (4 : Int32)), (.int (3 : Int32))])) _
    refine XS.icmpNo X0.here hx rfl (hb hby d5_12) rfl (tlt (by decide : (3 : Int32) < (4 : Int32))).2.1 ?_
    show Steps p.tables e below (s₁.setTop (mkF m 15 #[.val (.ref r0), .val (.ref r1), .val (.int (3 : Int32))] [])) _
    refine XS.aloadN X0.here hx rfl (hb hby d5_15) rfl rfl ?_
    show Steps p.tables e below (s₁.setTop (mkF m 16 #[.val (.ref r0), .val (.ref r1), .val (.int (3 : Int32))] [(.ref r0)])) _
    refine XS.iloadN X0.here hx rfl (hb hby d5_16) rfl ?_
    show Steps p.tables e below (s₁.setTop (mkF m 17 #[.val (.ref r0), .val (.ref r1), .val (.int (3 : Int32))] [(.int (3 : Int32)), (.ref r0)])) _
    refine X0.baloadBytes hx (j := (3 : Int32)) (v := (.int (116 : Int32))) (by rw [e0]; exact Ar13.1) (State.isArrayOf_alike hZ.alike Ar13.2.1) Ar13.2.2 hin13 (H13.at hin13 rfl) (g := (mkF m 17 #[.val (.ref r0), .val (.ref r1), .val (.int (3 : Int32))] [(.int (3 : Int32)), (.ref r0)])) rfl rfl (hb hby d5_17) _ ?_
    show Steps p.tables e below (s₁.setTop (mkF m 18 #[.val (.ref r0), .val (.ref r1), .val (.int (3 : Int32))] [(.int (116 : Int32))])) _
    refine XS.aloadN X0.here hx rfl (hb hby d5_18) rfl rfl ?_
    show Steps p.tables e below (s₁.setTop (mkF m 19 #[.val (.ref r0), .val (.ref r1), .val (.int (3 : Int32))] [(.ref r1), (.int (116 : Int32))])) _
    refine XS.iloadN X0.here hx rfl (hb hby d5_19) rfl ?_
    show Steps p.tables e below (s₁.setTop (mkF m 20 #[.val (.ref r0), .val (.ref r1), .val (.int (3 : Int32))] [(.int (3 : Int32)), (.ref r1), (.int (116 : Int32))])) _
    refine X0.baloadBytes hx (j := (3 : Int32)) (v := (.int (116 : Int32))) (by rw [e0]; exact Ar14.1) (State.isArrayOf_alike hZ.alike Ar14.2.1) Ar14.2.2 hin14 (H14.at hin14 rfl) (g := (mkF m 20 #[.val (.ref r0), .val (.ref r1), .val (.int (3 : Int32))] [(.int (3 : Int32)), (.ref r1), (.int (116 : Int32))])) rfl rfl (hb hby d5_20) _ ?_
    show Steps p.tables e below (s₁.setTop (mkF m 21 #[.val (.ref r0), .val (.ref r1), .val (.int (3 : Int32))] [(.int (116 : Int32)), (.int (116 : Int32))])) _
    refine XS.icmpYes X0.here hx rfl (pc0 := 21) (pc' := 26) rfl (hb hby d5_21) rfl (teq (by decide : (116 : Int32) = (116 : Int32))).1 (by decide) (by decide) ?_
    show Steps p.tables e below (s₁.setTop (mkF m 26 #[.val (.ref r0), .val (.ref r1), .val (.int (3 : Int32))] [])) _
    refine XS.iinc X0.here hx rfl (hb hby d5_26) rfl (l' := #[.val (.ref r0), .val (.ref r1), .val (.int (4 : Int32))]) rfl ?_
    show Steps p.tables e below (s₁.setTop (mkF m 29 #[.val (.ref r0), .val (.ref r1), .val (.int (4 : Int32))] [])) _
    refine XS.goto X0.here hx rfl (pc0 := 29) (pc' := 9) rfl (hb hby d5_29) (by decide) (by decide) ?_
    show Steps p.tables e below (s₁.setTop (mkF m 9 #[.val (.ref r0), .val (.ref r1), .val (.int (4 : Int32))] [])) _
    refine XS.iloadN X0.here hx rfl (hb hby d5_9) rfl ?_
    show Steps p.tables e below (s₁.setTop (mkF m 10 #[.val (.ref r0), .val (.ref r1), .val (.int (4 : Int32))] [(.int (4 : Int32))])) _
    refine XS.aloadN X0.here hx rfl (hb hby d5_10) rfl rfl ?_
    show Steps p.tables e below (s₁.setTop (mkF m 11 #[.val (.ref r0), .val (.ref r1), .val (.int (4 : Int32))] [(.ref r0), (.int (4 : Int32))])) _
    refine X0.arraylength hx (by rw [e0]; exact Ar15.1) (State.isArrayOf_alike hZ.alike Ar15.2.1) (g := (mkF m 11 #[.val (.ref r0), .val (.ref r1), .val (.int (4 : Int32))] [(.ref r0), (.int (4 : Int32))])) rfl rfl (hb hby d5_11) _ ?_
    rw [len_of S15 N15]
    show Steps p.tables e below (s₁.setTop (mkF m 12 #[.val (.ref r0), .val (.ref r1), .val (.int (4 : Int32))] [(.int (4 : Int32)), (.int (4 : Int32))])) _
    refine XS.icmpYes X0.here hx rfl (pc0 := 12) (pc' := 32) rfl (hb hby d5_12) rfl (flt (by decide : ¬ ((4 : Int32) < (4 : Int32)))).2.1 (by decide) (by decide) ?_
    show Steps p.tables e below (s₁.setTop (mkF m 32 #[.val (.ref r0), .val (.ref r1), .val (.int (4 : Int32))] [])) _
    refine XS.iconst X0.here hx rfl (hb hby d5_32) ?_
    show Steps p.tables e below (s₁.setTop (mkF m 33 #[.val (.ref r0), .val (.ref r1), .val (.int (4 : Int32))] [(.int (1 : Int32))])) _
    exact retN X0 hx (t := .boolean) Bd.returns (by simp) (hb hby d5_33) hr
  · show own_QLTT Z u r0 r1 k0 k1 h0 n0 _ s₁.heap _
    rw [e0]
    exact ⟨rfl, N0, rfl⟩
theorem own_ef_LJJ (m : MethodId) (x0 : Addr) (x1 : Addr) : entryFrame m #[(.ref x0), (.ref x1)] 3 = mkF m 0 #[.val (.ref x0), .val (.ref x1), .unset] [] := by first | (simp [entryFrame, mkF, argsToLocals, Value.category]; done) | rfl
def own_QLJJ (Z : State) (u : Nat → Addr) (r0 : Addr) (r1 : Addr) (k0 : ClassId) (k1 : ClassId) (h0 : Heap) (n0 : Nat) (v : Option Value) (h : Heap) (L : List Loc) : Prop := v = some (.int (1 : Int32)) ∧ Fr n0 L ∧ h = h0
set_option maxRecDepth 65536 in
set_option maxHeartbeats 40000000 in
theorem rmLJJ (l : Launch) (Z : State) (a0 : Array Value) (hw : ∀ d ∈ tables_1, d.before a0 Z = true) (ws : List Jvm.Cond) (u : Nat → Addr) (r0 : Addr) (r1 : Addr) (k0 : ClassId) (k1 : ClassId) (B : own_Base Z u) (h0 : Heap) (n0 : Nat) (O : Old Z n0 h0) (hA0 : Arv Z h0 r0 k0 .byte (4 : Int32) [.int (106 : Int32), .int (115 : Int32), .int (111 : Int32), .int (110 : Int32)] (.int (0 : Int32))) (hA1 : Arv Z h0 r1 k1 .byte (4 : Int32) [.int (106 : Int32), .int (115 : Int32), .int (111 : Int32), .int (110 : Int32)] (.int (0 : Int32))) :
    MetFree l (⟨"java/lang/StringLatin1", "equals", "([B[B)Z"⟩ : MethodName) (head1 (Jvm.Cond.code (⟨"java/lang/StringLatin1", "equals", "([B[B)Z"⟩ : MethodName) jdk_43_method_13_code 3 (some .boolean) :: ws) ({ frames := 0, cells := 0, slots := 0, locals := 0 } : Room)) (fun a U => a = #[(.ref r0), (.ref r1)] ∧ Z.Warmed39 U.vm ∧ U.heap = h0) (fun _ _ _ _ _ => True) (fun _ U o U' => ∃ v L, o = .returned v ∧ own_QLJJ Z u r0 r1 k0 k1 h0 n0 v U'.heap L ∧ FrameEnd U o U' L ({ frames := 0, cells := 0, slots := 0, locals := 0 } : Room).cells ({ frames := 0, cells := 0, slots := 0, locals := 0 } : Room).slots) := by
  refine MetFree.of_bodySF (plainFor_of_name own_pn_5) hisR ?_
  intro p e s m args below meth c s₁ Bd hml0 hP hK
  obtain ⟨rfl, hZ, hh⟩ := hP
  have hx := Bd.exec
  have hby := Bd.bytes
  have hml : c.maxLocals = 3 := hml0
  have hown : s.vm.findClass "java/lang/StringLatin1" = some m.cls := findClass_of_methodNamed Bd.named
  have hnm := (name_of_methodNamed Bd.named Bd.method).1
  have X0 : Stand p l e ({ frames := 0, cells := 0, slots := 0, locals := 0 } : Room) s m #[(.ref r0), (.ref r1)] below meth c s₁ [] 0 0 := Stand.of_body Bd
  have e0 : s₁.heap = h0 := by rw [← hh, Bd.state]; rfl
  have N0 := Fr.nil n0
  have K0 := Keep.refl h0 []
  have Z0 : n0 ≤ h0.size := O.1 ▸ O.2.1
  have pre0 : ∀ t, Steps p.tables e below (s₁.setTop (mkF m 0 #[.val (.ref r0), .val (.ref r1), .unset] [])) t → Steps p.tables e below (s₁.setTop (entryFrame m #[(.ref r0), (.ref r1)] 3)) t := fun t k => castTop (own_ef_LJJ m r0 r1) k
  obtain ⟨cl17, Ar17, -, S17, N17, -, -⟩ := id hA0
  obtain ⟨cl18, Ar18, -, S18, N18, -, -⟩ := id hA1
  obtain ⟨cl19, Ar19, -, S19, N19, -, -⟩ := id hA0
  obtain ⟨cl20, Ar20, -, S20, N20, H20, -⟩ := id hA0
  have hin20 : ¬ ((0 : Int32) < 0 ∨ cl20.slots.size ≤ ((0 : Int32)).toNatClampNeg) := inb_of S20 ⟨by decide, by decide⟩
  obtain ⟨cl21, Ar21, -, S21, N21, H21, -⟩ := id hA1
  have hin21 : ¬ ((0 : Int32) < 0 ∨ cl21.slots.size ≤ ((0 : Int32)).toNatClampNeg) := inb_of S21 ⟨by decide, by decide⟩
  obtain ⟨cl22, Ar22, -, S22, N22, -, -⟩ := id hA0
  obtain ⟨cl23, Ar23, -, S23, N23, H23, -⟩ := id hA0
  have hin23 : ¬ ((1 : Int32) < 0 ∨ cl23.slots.size ≤ ((1 : Int32)).toNatClampNeg) := inb_of S23 ⟨by decide, by decide⟩
  obtain ⟨cl24, Ar24, -, S24, N24, H24, -⟩ := id hA1
  have hin24 : ¬ ((1 : Int32) < 0 ∨ cl24.slots.size ≤ ((1 : Int32)).toNatClampNeg) := inb_of S24 ⟨by decide, by decide⟩
  obtain ⟨cl25, Ar25, -, S25, N25, -, -⟩ := id hA0
  obtain ⟨cl26, Ar26, -, S26, N26, H26, -⟩ := id hA0
  have hin26 : ¬ ((2 : Int32) < 0 ∨ cl26.slots.size ≤ ((2 : Int32)).toNatClampNeg) := inb_of S26 ⟨by decide, by decide⟩
  obtain ⟨cl27, Ar27, -, S27, N27, H27, -⟩ := id hA1
  have hin27 : ¬ ((2 : Int32) < 0 ∨ cl27.slots.size ≤ ((2 : Int32)).toNatClampNeg) := inb_of S27 ⟨by decide, by decide⟩
  obtain ⟨cl28, Ar28, -, S28, N28, -, -⟩ := id hA0
  obtain ⟨cl29, Ar29, -, S29, N29, H29, -⟩ := id hA0
  have hin29 : ¬ ((3 : Int32) < 0 ∨ cl29.slots.size ≤ ((3 : Int32)).toNatClampNeg) := inb_of S29 ⟨by decide, by decide⟩
  obtain ⟨cl30, Ar30, -, S30, N30, H30, -⟩ := id hA1
  have hin30 : ¬ ((3 : Int32) < 0 ∨ cl30.slots.size ≤ ((3 : Int32)).toNatClampNeg) := inb_of S30 ⟨by decide, by decide⟩
  obtain ⟨cl31, Ar31, -, S31, N31, -, -⟩ := id hA0
  obtain ⟨fs, hr, hrun, hended, hW, hsame⟩ := X0.leave (v := some (.int (1 : Int32))) (fun h => by rw [Bd.returns] at h; cases h)
  refine ⟨_, _, pre0 _ ?_, hrun, hended, _, _, rfl, ?_, ⟨_, rfl⟩, hW, hsame.mono (by decide) (by decide)⟩
  · show Steps p.tables e below (s₁.setTop (mkF m 0 #[.val (.ref r0), .val (.ref r1), .unset] [])) _
    refine XS.aloadN X0.here hx rfl (hb hby d5_0) rfl rfl ?_
    show Steps p.tables e below (s₁.setTop (mkF m 1 #[.val (.ref r0), .val (.ref r1), .unset] [(.ref r0)])) _
    refine X0.arraylength hx (by rw [e0]; exact Ar17.1) (State.isArrayOf_alike hZ.alike Ar17.2.1) (g := (mkF m 1 #[.val (.ref r0), .val (.ref r1), .unset] [(.ref r0)])) rfl rfl (hb hby d5_1) _ ?_
    rw [len_of S17 N17]
    show Steps p.tables e below (s₁.setTop (mkF m 2 #[.val (.ref r0), .val (.ref r1), .unset] [(.int (4 : Int32))])) _
    refine XS.aloadN X0.here hx rfl (hb hby d5_2) rfl rfl ?_
    show Steps p.tables e below (s₁.setTop (mkF m 3 #[.val (.ref r0), .val (.ref r1), .unset] [(.ref r1), (.int (4 : Int32))])) _
    refine X0.arraylength hx (by rw [e0]; exact Ar18.1) (State.isArrayOf_alike hZ.alike Ar18.2.1) (g := (mkF m 3 #[.val (.ref r0), .val (.ref r1), .unset] [(.ref r1), (.int (4 : Int32))])) rfl rfl (hb hby d5_3) _ ?_
    rw [len_of S18 N18]
    show Steps p.tables e below (s₁.setTop (mkF m 4 #[.val (.ref r0), .val (.ref r1), .unset] [(.int (4 : Int32)), (.int (4 : Int32))])) _
    refine XS.icmpNo X0.here hx rfl (hb hby d5_4) rfl (teq (by decide : (4 : Int32) = (4 : Int32))).2 ?_
    show Steps p.tables e below (s₁.setTop (mkF m 7 #[.val (.ref r0), .val (.ref r1), .unset] [])) _
    refine XS.iconst X0.here hx rfl (hb hby d5_7) ?_
    show Steps p.tables e below (s₁.setTop (mkF m 8 #[.val (.ref r0), .val (.ref r1), .unset] [(.int (0 : Int32))])) _
    refine XS.istoreN X0.here hx rfl (hb hby d5_8) rfl (l' := #[.val (.ref r0), .val (.ref r1), .val (.int (0 : Int32))]) rfl ?_
    show Steps p.tables e below (s₁.setTop (mkF m 9 #[.val (.ref r0), .val (.ref r1), .val (.int (0 : Int32))] [])) _
    refine XS.iloadN X0.here hx rfl (hb hby d5_9) rfl ?_
    show Steps p.tables e below (s₁.setTop (mkF m 10 #[.val (.ref r0), .val (.ref r1), .val (.int (0 : Int32))] [(.int (0 : Int32))])) _
    refine XS.aloadN X0.here hx rfl (hb hby d5_10) rfl rfl ?_
    show Steps p.tables e below (s₁.setTop (mkF m 11 #[.val (.ref r0), .val (.ref r1), .val (.int (0 : Int32))] [(.ref r0), (.int (0 : Int32))])) _
    refine X0.arraylength hx (by rw [e0]; exact Ar19.1) (State.isArrayOf_alike hZ.alike Ar19.2.1) (g := (mkF m 11 #[.val (.ref r0), .val (.ref r1), .val (.int (0 : Int32))] [(.ref r0), (.int (0 : Int32))])) rfl rfl (hb hby d5_11) _ ?_
    rw [len_of S19 N19]
    show Steps p.tables e below (s₁.setTop (mkF m 12 #[.val (.ref r0), .val (.ref r1), .val (.int (0 : Int32))] [(.int (4 : Int32)), (.int (0 : Int32))])) _
    refine XS.icmpNo X0.here hx rfl (hb hby d5_12) rfl (tlt (by decide : (0 : Int32) < (4 : Int32))).2.1 ?_
    show Steps p.tables e below (s₁.setTop (mkF m 15 #[.val (.ref r0), .val (.ref r1), .val (.int (0 : Int32))] [])) _
    refine XS.aloadN X0.here hx rfl (hb hby d5_15) rfl rfl ?_
    show Steps p.tables e below (s₁.setTop (mkF m 16 #[.val (.ref r0), .val (.ref r1), .val (.int (0 : Int32))] [(.ref r0)])) _
    refine XS.iloadN X0.here hx rfl (hb hby d5_16) rfl ?_
    show Steps p.tables e below (s₁.setTop (mkF m 17 #[.val (.ref r0), .val (.ref r1), .val (.int (0 : Int32))] [(.int (0 : Int32)), (.ref r0)])) _
    refine X0.baloadBytes hx (j := (0 : Int32)) (v := (.int (106 : Int32))) (by rw [e0]; exact Ar20.1) (State.isArrayOf_alike hZ.alike Ar20.2.1) Ar20.2.2 hin20 (H20.at hin20 rfl) (g := (mkF m 17 #[.val (.ref r0), .val (.ref r1), .val (.int (0 : Int32))] [(.int (0 : Int32)), (.ref r0)])) rfl rfl (hb hby d5_17) _ ?_
    show Steps p.tables e below (s₁.setTop (mkF m 18 #[.val (.ref r0), .val (.ref r1), .val (.int (0 : Int32))] [(.int (106 : Int32))])) _
    refine XS.aloadN X0.here hx rfl (hb hby d5_18) rfl rfl ?_
    show Steps p.tables e below (s₁.setTop (mkF m 19 #[.val (.ref r0), .val (.ref r1), .val (.int (0 : Int32))] [(.ref r1), (.int (106 : Int32))])) _
    refine XS.iloadN X0.here hx rfl (hb hby d5_19) rfl ?_
    show Steps p.tables e below (s₁.setTop (mkF m 20 #[.val (.ref r0), .val (.ref r1), .val (.int (0 : Int32))] [(.int (0 : Int32)), (.ref r1), (.int (106 : Int32))])) _
    refine X0.baloadBytes hx (j := (0 : Int32)) (v := (.int (106 : Int32))) (by rw [e0]; exact Ar21.1) (State.isArrayOf_alike hZ.alike Ar21.2.1) Ar21.2.2 hin21 (H21.at hin21 rfl) (g := (mkF m 20 #[.val (.ref r0), .val (.ref r1), .val (.int (0 : Int32))] [(.int (0 : Int32)), (.ref r1), (.int (106 : Int32))])) rfl rfl (hb hby d5_20) _ ?_
    show Steps p.tables e below (s₁.setTop (mkF m 21 #[.val (.ref r0), .val (.ref r1), .val (.int (0 : Int32))] [(.int (106 : Int32)), (.int (106 : Int32))])) _
    refine XS.icmpYes X0.here hx rfl (pc0 := 21) (pc' := 26) rfl (hb hby d5_21) rfl (teq (by decide : (106 : Int32) = (106 : Int32))).1 (by decide) (by decide) ?_
    show Steps p.tables e below (s₁.setTop (mkF m 26 #[.val (.ref r0), .val (.ref r1), .val (.int (0 : Int32))] [])) _
    refine XS.iinc X0.here hx rfl (hb hby d5_26) rfl (l' := #[.val (.ref r0), .val (.ref r1), .val (.int (1 : Int32))]) rfl ?_
    show Steps p.tables e below (s₁.setTop (mkF m 29 #[.val (.ref r0), .val (.ref r1), .val (.int (1 : Int32))] [])) _
    refine XS.goto X0.here hx rfl (pc0 := 29) (pc' := 9) rfl (hb hby d5_29) (by decide) (by decide) ?_
    show Steps p.tables e below (s₁.setTop (mkF m 9 #[.val (.ref r0), .val (.ref r1), .val (.int (1 : Int32))] [])) _
    refine XS.iloadN X0.here hx rfl (hb hby d5_9) rfl ?_
    show Steps p.tables e below (s₁.setTop (mkF m 10 #[.val (.ref r0), .val (.ref r1), .val (.int (1 : Int32))] [(.int (1 : Int32))])) _
    refine XS.aloadN X0.here hx rfl (hb hby d5_10) rfl rfl ?_
    show Steps p.tables e below (s₁.setTop (mkF m 11 #[.val (.ref r0), .val (.ref r1), .val (.int (1 : Int32))] [(.ref r0), (.int (1 : Int32))])) _
    refine X0.arraylength hx (by rw [e0]; exact Ar22.1) (State.isArrayOf_alike hZ.alike Ar22.2.1) (g := (mkF m 11 #[.val (.ref r0), .val (.ref r1), .val (.int (1 : Int32))] [(.ref r0), (.int (1 : Int32))])) rfl rfl (hb hby d5_11) _ ?_
    rw [len_of S22 N22]
    show Steps p.tables e below (s₁.setTop (mkF m 12 #[.val (.ref r0), .val (.ref r1), .val (.int (1 : Int32))] [(.int (4 : Int32)), (.int (1 : Int32))])) _
    refine XS.icmpNo X0.here hx rfl (hb hby d5_12) rfl (tlt (by decide : (1 : Int32) < (4 : Int32))).2.1 ?_
    show Steps p.tables e below (s₁.setTop (mkF m 15 #[.val (.ref r0), .val (.ref r1), .val (.int (1 : Int32))] [])) _
    refine XS.aloadN X0.here hx rfl (hb hby d5_15) rfl rfl ?_
    show Steps p.tables e below (s₁.setTop (mkF m 16 #[.val (.ref r0), .val (.ref r1), .val (.int (1 : Int32))] [(.ref r0)])) _
    refine XS.iloadN X0.here hx rfl (hb hby d5_16) rfl ?_
    show Steps p.tables e below (s₁.setTop (mkF m 17 #[.val (.ref r0), .val (.ref r1), .val (.int (1 : Int32))] [(.int (1 : Int32)), (.ref r0)])) _
    refine X0.baloadBytes hx (j := (1 : Int32)) (v := (.int (115 : Int32))) (by rw [e0]; exact Ar23.1) (State.isArrayOf_alike hZ.alike Ar23.2.1) Ar23.2.2 hin23 (H23.at hin23 rfl) (g := (mkF m 17 #[.val (.ref r0), .val (.ref r1), .val (.int (1 : Int32))] [(.int (1 : Int32)), (.ref r0)])) rfl rfl (hb hby d5_17) _ ?_
    show Steps p.tables e below (s₁.setTop (mkF m 18 #[.val (.ref r0), .val (.ref r1), .val (.int (1 : Int32))] [(.int (115 : Int32))])) _
    refine XS.aloadN X0.here hx rfl (hb hby d5_18) rfl rfl ?_
    show Steps p.tables e below (s₁.setTop (mkF m 19 #[.val (.ref r0), .val (.ref r1), .val (.int (1 : Int32))] [(.ref r1), (.int (115 : Int32))])) _
    refine XS.iloadN X0.here hx rfl (hb hby d5_19) rfl ?_
    show Steps p.tables e below (s₁.setTop (mkF m 20 #[.val (.ref r0), .val (.ref r1), .val (.int (1 : Int32))] [(.int (1 : Int32)), (.ref r1), (.int (115 : Int32))])) _
    refine X0.baloadBytes hx (j := (1 : Int32)) (v := (.int (115 : Int32))) (by rw [e0]; exact Ar24.1) (State.isArrayOf_alike hZ.alike Ar24.2.1) Ar24.2.2 hin24 (H24.at hin24 rfl) (g := (mkF m 20 #[.val (.ref r0), .val (.ref r1), .val (.int (1 : Int32))] [(.int (1 : Int32)), (.ref r1), (.int (115 : Int32))])) rfl rfl (hb hby d5_20) _ ?_
    show Steps p.tables e below (s₁.setTop (mkF m 21 #[.val (.ref r0), .val (.ref r1), .val (.int (1 : Int32))] [(.int (115 : Int32)), (.int (115 : Int32))])) _
    refine XS.icmpYes X0.here hx rfl (pc0 := 21) (pc' := 26) rfl (hb hby d5_21) rfl (teq (by decide : (115 : Int32) = (115 : Int32))).1 (by decide) (by decide) ?_
    show Steps p.tables e below (s₁.setTop (mkF m 26 #[.val (.ref r0), .val (.ref r1), .val (.int (1 : Int32))] [])) _
    refine XS.iinc X0.here hx rfl (hb hby d5_26) rfl (l' := #[.val (.ref r0), .val (.ref r1), .val (.int (2 : Int32))]) rfl ?_
    show Steps p.tables e below (s₁.setTop (mkF m 29 #[.val (.ref r0), .val (.ref r1), .val (.int (2 : Int32))] [])) _
    refine XS.goto X0.here hx rfl (pc0 := 29) (pc' := 9) rfl (hb hby d5_29) (by decide) (by decide) ?_
    show Steps p.tables e below (s₁.setTop (mkF m 9 #[.val (.ref r0), .val (.ref r1), .val (.int (2 : Int32))] [])) _
    refine XS.iloadN X0.here hx rfl (hb hby d5_9) rfl ?_
    show Steps p.tables e below (s₁.setTop (mkF m 10 #[.val (.ref r0), .val (.ref r1), .val (.int (2 : Int32))] [(.int (2 : Int32))])) _
    refine XS.aloadN X0.here hx rfl (hb hby d5_10) rfl rfl ?_
    show Steps p.tables e below (s₁.setTop (mkF m 11 #[.val (.ref r0), .val (.ref r1), .val (.int (2 : Int32))] [(.ref r0), (.int (2 : Int32))])) _
    refine X0.arraylength hx (by rw [e0]; exact Ar25.1) (State.isArrayOf_alike hZ.alike Ar25.2.1) (g := (mkF m 11 #[.val (.ref r0), .val (.ref r1), .val (.int (2 : Int32))] [(.ref r0), (.int (2 : Int32))])) rfl rfl (hb hby d5_11) _ ?_
    rw [len_of S25 N25]
    show Steps p.tables e below (s₁.setTop (mkF m 12 #[.val (.ref r0), .val (.ref r1), .val (.int (2 : Int32))] [(.int (4 : Int32)), (.int (2 : Int32))])) _
    refine XS.icmpNo X0.here hx rfl (hb hby d5_12) rfl (tlt (by decide : (2 : Int32) < (4 : Int32))).2.1 ?_
    show Steps p.tables e below (s₁.setTop (mkF m 15 #[.val (.ref r0), .val (.ref r1), .val (.int (2 : Int32))] [])) _
    refine XS.aloadN X0.here hx rfl (hb hby d5_15) rfl rfl ?_
    show Steps p.tables e below (s₁.setTop (mkF m 16 #[.val (.ref r0), .val (.ref r1), .val (.int (2 : Int32))] [(.ref r0)])) _
    refine XS.iloadN X0.here hx rfl (hb hby d5_16) rfl ?_
    show Steps p.tables e below (s₁.setTop (mkF m 17 #[.val (.ref r0), .val (.ref r1), .val (.int (2 : Int32))] [(.int (2 : Int32)), (.ref r0)])) _
    refine X0.baloadBytes hx (j := (2 : Int32)) (v := (.int (111 : Int32))) (by rw [e0]; exact Ar26.1) (State.isArrayOf_alike hZ.alike Ar26.2.1) Ar26.2.2 hin26 (H26.at hin26 rfl) (g := (mkF m 17 #[.val (.ref r0), .val (.ref r1), .val (.int (2 : Int32))] [(.int (2 : Int32)), (.ref r0)])) rfl rfl (hb hby d5_17) _ ?_
    show Steps p.tables e below (s₁.setTop (mkF m 18 #[.val (.ref r0), .val (.ref r1), .val (.int (2 : Int32))] [(.int (111 : Int32))])) _
    refine XS.aloadN X0.here hx rfl (hb hby d5_18) rfl rfl ?_
    show Steps p.tables e below (s₁.setTop (mkF m 19 #[.val (.ref r0), .val (.ref r1), .val (.int (2 : Int32))] [(.ref r1), (.int (111 : Int32))])) _
    refine XS.iloadN X0.here hx rfl (hb hby d5_19) rfl ?_
    show Steps p.tables e below (s₁.setTop (mkF m 20 #[.val (.ref r0), .val (.ref r1), .val (.int (2 : Int32))] [(.int (2 : Int32)), (.ref r1), (.int (111 : Int32))])) _
    refine X0.baloadBytes hx (j := (2 : Int32)) (v := (.int (111 : Int32))) (by rw [e0]; exact Ar27.1) (State.isArrayOf_alike hZ.alike Ar27.2.1) Ar27.2.2 hin27 (H27.at hin27 rfl) (g := (mkF m 20 #[.val (.ref r0), .val (.ref r1), .val (.int (2 : Int32))] [(.int (2 : Int32)), (.ref r1), (.int (111 : Int32))])) rfl rfl (hb hby d5_20) _ ?_
    show Steps p.tables e below (s₁.setTop (mkF m 21 #[.val (.ref r0), .val (.ref r1), .val (.int (2 : Int32))] [(.int (111 : Int32)), (.int (111 : Int32))])) _
    refine XS.icmpYes X0.here hx rfl (pc0 := 21) (pc' := 26) rfl (hb hby d5_21) rfl (teq (by decide : (111 : Int32) = (111 : Int32))).1 (by decide) (by decide) ?_
    show Steps p.tables e below (s₁.setTop (mkF m 26 #[.val (.ref r0), .val (.ref r1), .val (.int (2 : Int32))] [])) _
    refine XS.iinc X0.here hx rfl (hb hby d5_26) rfl (l' := #[.val (.ref r0), .val (.ref r1), .val (.int (3 : Int32))]) rfl ?_
    show Steps p.tables e below (s₁.setTop (mkF m 29 #[.val (.ref r0), .val (.ref r1), .val (.int (3 : Int32))] [])) _
    refine XS.goto X0.here hx rfl (pc0 := 29) (pc' := 9) rfl (hb hby d5_29) (by decide) (by decide) ?_
    show Steps p.tables e below (s₁.setTop (mkF m 9 #[.val (.ref r0), .val (.ref r1), .val (.int (3 : Int32))] [])) _
    refine XS.iloadN X0.here hx rfl (hb hby d5_9) rfl ?_
    show Steps p.tables e below (s₁.setTop (mkF m 10 #[.val (.ref r0), .val (.ref r1), .val (.int (3 : Int32))] [(.int (3 : Int32))])) _
    refine XS.aloadN X0.here hx rfl (hb hby d5_10) rfl rfl ?_
    show Steps p.tables e below (s₁.setTop (mkF m 11 #[.val (.ref r0), .val (.ref r1), .val (.int (3 : Int32))] [(.ref r0), (.int (3 : Int32))])) _
    refine X0.arraylength hx (by rw [e0]; exact Ar28.1) (State.isArrayOf_alike hZ.alike Ar28.2.1) (g := (mkF m 11 #[.val (.ref r0), .val (.ref r1), .val (.int (3 : Int32))] [(.ref r0), (.int (3 : Int32))])) rfl rfl (hb hby d5_11) _ ?_
    rw [len_of S28 N28]
    show Steps p.tables e below (s₁.setTop (mkF m 12 #[.val (.ref r0), .val (.ref r1), .val (.int (3 : Int32))] [(.int (4 : Int32)), (.int (3 : Int32))])) _
    refine XS.icmpNo X0.here hx rfl (hb hby d5_12) rfl (tlt (by decide : (3 : Int32) < (4 : Int32))).2.1 ?_
    show Steps p.tables e below (s₁.setTop (mkF m 15 #[.val (.ref r0), .val (.ref r1), .val (.int (3 : Int32))] [])) _
    refine XS.aloadN X0.here hx rfl (hb hby d5_15) rfl rfl ?_
    show Steps p.tables e below (s₁.setTop (mkF m 16 #[.val (.ref r0), .val (.ref r1), .val (.int (3 : Int32))] [(.ref r0)])) _
    refine XS.iloadN X0.here hx rfl (hb hby d5_16) rfl ?_
    show Steps p.tables e below (s₁.setTop (mkF m 17 #[.val (.ref r0), .val (.ref r1), .val (.int (3 : Int32))] [(.int (3 : Int32)), (.ref r0)])) _
    refine X0.baloadBytes hx (j := (3 : Int32)) (v := (.int (110 : Int32))) (by rw [e0]; exact Ar29.1) (State.isArrayOf_alike hZ.alike Ar29.2.1) Ar29.2.2 hin29 (H29.at hin29 rfl) (g := (mkF m 17 #[.val (.ref r0), .val (.ref r1), .val (.int (3 : Int32))] [(.int (3 : Int32)), (.ref r0)])) rfl rfl (hb hby d5_17) _ ?_
    show Steps p.tables e below (s₁.setTop (mkF m 18 #[.val (.ref r0), .val (.ref r1), .val (.int (3 : Int32))] [(.int (110 : Int32))])) _
    refine XS.aloadN X0.here hx rfl (hb hby d5_18) rfl rfl ?_
    show Steps p.tables e below (s₁.setTop (mkF m 19 #[.val (.ref r0), .val (.ref r1), .val (.int (3 : Int32))] [(.ref r1), (.int (110 : Int32))])) _
    refine XS.iloadN X0.here hx rfl (hb hby d5_19) rfl ?_
    show Steps p.tables e below (s₁.setTop (mkF m 20 #[.val (.ref r0), .val (.ref r1), .val (.int (3 : Int32))] [(.int (3 : Int32)), (.ref r1), (.int (110 : Int32))])) _
    refine X0.baloadBytes hx (j := (3 : Int32)) (v := (.int (110 : Int32))) (by rw [e0]; exact Ar30.1) (State.isArrayOf_alike hZ.alike Ar30.2.1) Ar30.2.2 hin30 (H30.at hin30 rfl) (g := (mkF m 20 #[.val (.ref r0), .val (.ref r1), .val (.int (3 : Int32))] [(.int (3 : Int32)), (.ref r1), (.int (110 : Int32))])) rfl rfl (hb hby d5_20) _ ?_
    show Steps p.tables e below (s₁.setTop (mkF m 21 #[.val (.ref r0), .val (.ref r1), .val (.int (3 : Int32))] [(.int (110 : Int32)), (.int (110 : Int32))])) _
    refine XS.icmpYes X0.here hx rfl (pc0 := 21) (pc' := 26) rfl (hb hby d5_21) rfl (teq (by decide : (110 : Int32) = (110 : Int32))).1 (by decide) (by decide) ?_
    show Steps p.tables e below (s₁.setTop (mkF m 26 #[.val (.ref r0), .val (.ref r1), .val (.int (3 : Int32))] [])) _
    refine XS.iinc X0.here hx rfl (hb hby d5_26) rfl (l' := #[.val (.ref r0), .val (.ref r1), .val (.int (4 : Int32))]) rfl ?_
    show Steps p.tables e below (s₁.setTop (mkF m 29 #[.val (.ref r0), .val (.ref r1), .val (.int (4 : Int32))] [])) _
    refine XS.goto X0.here hx rfl (pc0 := 29) (pc' := 9) rfl (hb hby d5_29) (by decide) (by decide) ?_
    show Steps p.tables e below (s₁.setTop (mkF m 9 #[.val (.ref r0), .val (.ref r1), .val (.int (4 : Int32))] [])) _
    refine XS.iloadN X0.here hx rfl (hb hby d5_9) rfl ?_
    show Steps p.tables e below (s₁.setTop (mkF m 10 #[.val (.ref r0), .val (.ref r1), .val (.int (4 : Int32))] [(.int (4 : Int32))])) _
    refine XS.aloadN X0.here hx rfl (hb hby d5_10) rfl rfl ?_
    show Steps p.tables e below (s₁.setTop (mkF m 11 #[.val (.ref r0), .val (.ref r1), .val (.int (4 : Int32))] [(.ref r0), (.int (4 : Int32))])) _
    refine X0.arraylength hx (by rw [e0]; exact Ar31.1) (State.isArrayOf_alike hZ.alike Ar31.2.1) (g := (mkF m 11 #[.val (.ref r0), .val (.ref r1), .val (.int (4 : Int32))] [(.ref r0), (.int (4 : Int32))])) rfl rfl (hb hby d5_11) _ ?_
    rw [len_of S31 N31]
    show Steps p.tables e below (s₁.setTop (mkF m 12 #[.val (.ref r0), .val (.ref r1), .val (.int (4 : Int32))] [(.int (4 : Int32)), (.int (4 : Int32))])) _
    refine XS.icmpYes X0.here hx rfl (pc0 := 12) (pc' := 32) rfl (hb hby d5_12) rfl (flt (by decide : ¬ ((4 : Int32) < (4 : Int32)))).2.1 (by decide) (by decide) ?_
    show Steps p.tables e below (s₁.setTop (mkF m 32 #[.val (.ref r0), .val (.ref r1), .val (.int (4 : Int32))] [])) _
    refine XS.iconst X0.here hx rfl (hb hby d5_32) ?_
    show Steps p.tables e below (s₁.setTop (mkF m 33 #[.val (.ref r0), .val (.ref r1), .val (.int (4 : Int32))] [(.int (1 : Int32))])) _
    exact retN X0 hx (t := .boolean) Bd.returns (by simp) (hb hby d5_33) hr
  · show own_QLJJ Z u r0 r1 k0 k1 h0 n0 _ s₁.heap _
    rw [e0]
    exact ⟨rfl, N0, rfl⟩
theorem d5_24 : decode jdk_43_method_13_code 24 = .ok (.iconst 0, 1) := by decide +kernel
theorem d5_25 : decode jdk_43_method_13_code 25 = .ok (.ireturn, 1) := by decide +kernel
theorem own_ef_LTJ (m : MethodId) (x0 : Addr) (x1 : Addr) : entryFrame m #[(.ref x0), (.ref x1)] 3 = mkF m 0 #[.val (.ref x0), .val (.ref x1), .unset] [] := by first | (simp [entryFrame, mkF, argsToLocals, Value.category]; done) | rfl
def own_QLTJ (Z : State) (u : Nat → Addr) (r0 : Addr) (r1 : Addr) (k0 : ClassId) (k1 : ClassId) (h0 : Heap) (n0 : Nat) (v : Option Value) (h : Heap) (L : List Loc) : Prop := v = some (.int (0 : Int32)) ∧ Fr n0 L ∧ h = h0
set_option maxRecDepth 65536 in
set_option maxHeartbeats 40000000 in
theorem rmLTJ (l : Launch) (Z : State) (a0 : Array Value) (hw : ∀ d ∈ tables_1, d.before a0 Z = true) (ws : List Jvm.Cond) (u : Nat → Addr) (r0 : Addr) (r1 : Addr) (k0 : ClassId) (k1 : ClassId) (B : own_Base Z u) (h0 : Heap) (n0 : Nat) (O : Old Z n0 h0) (hA0 : Arv Z h0 r0 k0 .byte (4 : Int32) [.int (116 : Int32), .int (101 : Int32), .int (120 : Int32), .int (116 : Int32)] (.int (0 : Int32))) (hA1 : Arv Z h0 r1 k1 .byte (4 : Int32) [.int (106 : Int32), .int (115 : Int32), .int (111 : Int32), .int (110 : Int32)] (.int (0 : Int32))) :
    MetFree l (⟨"java/lang/StringLatin1", "equals", "([B[B)Z"⟩ : MethodName) (head1 (Jvm.Cond.code (⟨"java/lang/StringLatin1", "equals", "([B[B)Z"⟩ : MethodName) jdk_43_method_13_code 3 (some .boolean) :: ws) ({ frames := 0, cells := 0, slots := 0, locals := 0 } : Room)) (fun a U => a = #[(.ref r0), (.ref r1)] ∧ Z.Warmed39 U.vm ∧ U.heap = h0) (fun _ _ _ _ _ => True) (fun _ U o U' => ∃ v L, o = .returned v ∧ own_QLTJ Z u r0 r1 k0 k1 h0 n0 v U'.heap L ∧ FrameEnd U o U' L ({ frames := 0, cells := 0, slots := 0, locals := 0 } : Room).cells ({ frames := 0, cells := 0, slots := 0, locals := 0 } : Room).slots) := by
  refine MetFree.of_bodySF (plainFor_of_name own_pn_5) hisR ?_
  intro p e s m args below meth c s₁ Bd hml0 hP hK
  obtain ⟨rfl, hZ, hh⟩ := hP
  have hx := Bd.exec
  have hby := Bd.bytes
  have hml : c.maxLocals = 3 := hml0
  have hown : s.vm.findClass "java/lang/StringLatin1" = some m.cls := findClass_of_methodNamed Bd.named
  have hnm := (name_of_methodNamed Bd.named Bd.method).1
  have X0 : Stand p l e ({ frames := 0, cells := 0, slots := 0, locals := 0 } : Room) s m #[(.ref r0), (.ref r1)] below meth c s₁ [] 0 0 := Stand.of_body Bd
  have e0 : s₁.heap = h0 := by rw [← hh, Bd.state]; rfl
  have N0 := Fr.nil n0
  have K0 := Keep.refl h0 []
  have Z0 : n0 ≤ h0.size := O.1 ▸ O.2.1
  have pre0 : ∀ t, Steps p.tables e below (s₁.setTop (mkF m 0 #[.val (.ref r0), .val (.ref r1), .unset] [])) t → Steps p.tables e below (s₁.setTop (entryFrame m #[(.ref r0), (.ref r1)] 3)) t := fun t k => castTop (own_ef_LTJ m r0 r1) k
  obtain ⟨cl33, Ar33, -, S33, N33, -, -⟩ := id hA0
  obtain ⟨cl34, Ar34, -, S34, N34, -, -⟩ := id hA1
  obtain ⟨cl35, Ar35, -, S35, N35, -, -⟩ := id hA0
  obtain ⟨cl36, Ar36, -, S36, N36, H36, -⟩ := id hA0
  have hin36 : ¬ ((0 : Int32) < 0 ∨ cl36.slots.size ≤ ((0 : Int32)).toNatClampNeg) := inb_of S36 ⟨by decide, by decide⟩
  obtain ⟨cl37, Ar37, -, S37, N37, H37, -⟩ := id hA1
  have hin37 : ¬ ((0 : Int32) < 0 ∨ cl37.slots.size ≤ ((0 : Int32)).toNatClampNeg) := inb_of S37 ⟨by decide, by decide⟩
  obtain ⟨fs, hr, hrun, hended, hW, hsame⟩ := X0.leave (v := some (.int (0 : Int32))) (fun h => by rw [Bd.returns] at h; cases h)
  refine ⟨_, _, pre0 _ ?_, hrun, hended, _, _, rfl, ?_, ⟨_, rfl⟩, hW, hsame.mono (by decide) (by decide)⟩
  · show Steps p.tables e below (s₁.setTop (mkF m 0 #[.val (.ref r0), .val (.ref r1), .unset] [])) _
    refine XS.aloadN X0.here hx rfl (hb hby d5_0) rfl rfl ?_
    show Steps p.tables e below (s₁.setTop (mkF m 1 #[.val (.ref r0), .val (.ref r1), .unset] [(.ref r0)])) _
    refine X0.arraylength hx (by rw [e0]; exact Ar33.1) (State.isArrayOf_alike hZ.alike Ar33.2.1) (g := (mkF m 1 #[.val (.ref r0), .val (.ref r1), .unset] [(.ref r0)])) rfl rfl (hb hby d5_1) _ ?_
    rw [len_of S33 N33]
    show Steps p.tables e below (s₁.setTop (mkF m 2 #[.val (.ref r0), .val (.ref r1), .unset] [(.int (4 : Int32))])) _
    refine XS.aloadN X0.here hx rfl (hb hby d5_2) rfl rfl ?_
    show Steps p.tables e below (s₁.setTop (mkF m 3 #[.val (.ref r0), .val (.ref r1), .unset] [(.ref r1), (.int (4 : Int32))])) _
    refine X0.arraylength hx (by rw [e0]; exact Ar34.1) (State.isArrayOf_alike hZ.alike Ar34.2.1) (g := (mkF m 3 #[.val (.ref r0), .val (.ref r1), .unset] [(.ref r1), (.int (4 : Int32))])) rfl rfl (hb hby d5_3) _ ?_
    rw [len_of S34 N34]
    show Steps p.tables e below (s₁.setTop (mkF m 4 #[.val (.ref r0), .val (.ref r1), .unset] [(.int (4 : Int32)), (.int (4 : Int32))])) _
    refine XS.icmpNo X0.here hx rfl (hb hby d5_4) rfl (teq (by decide : (4 : Int32) = (4 : Int32))).2 ?_
    show Steps p.tables e below (s₁.setTop (mkF m 7 #[.val (.ref r0), .val (.ref r1), .unset] [])) _
    refine XS.iconst X0.here hx rfl (hb hby d5_7) ?_
    show Steps p.tables e below (s₁.setTop (mkF m 8 #[.val (.ref r0), .val (.ref r1), .unset] [(.int (0 : Int32))])) _
    refine XS.istoreN X0.here hx rfl (hb hby d5_8) rfl (l' := #[.val (.ref r0), .val (.ref r1), .val (.int (0 : Int32))]) rfl ?_
    show Steps p.tables e below (s₁.setTop (mkF m 9 #[.val (.ref r0), .val (.ref r1), .val (.int (0 : Int32))] [])) _
    refine XS.iloadN X0.here hx rfl (hb hby d5_9) rfl ?_
    show Steps p.tables e below (s₁.setTop (mkF m 10 #[.val (.ref r0), .val (.ref r1), .val (.int (0 : Int32))] [(.int (0 : Int32))])) _
    refine XS.aloadN X0.here hx rfl (hb hby d5_10) rfl rfl ?_
    show Steps p.tables e below (s₁.setTop (mkF m 11 #[.val (.ref r0), .val (.ref r1), .val (.int (0 : Int32))] [(.ref r0), (.int (0 : Int32))])) _
    refine X0.arraylength hx (by rw [e0]; exact Ar35.1) (State.isArrayOf_alike hZ.alike Ar35.2.1) (g := (mkF m 11 #[.val (.ref r0), .val (.ref r1), .val (.int (0 : Int32))] [(.ref r0), (.int (0 : Int32))])) rfl rfl (hb hby d5_11) _ ?_
    rw [len_of S35 N35]
    show Steps p.tables e below (s₁.setTop (mkF m 12 #[.val (.ref r0), .val (.ref r1), .val (.int (0 : Int32))] [(.int (4 : Int32)), (.int (0 : Int32))])) _
    refine XS.icmpNo X0.here hx rfl (hb hby d5_12) rfl (tlt (by decide : (0 : Int32) < (4 : Int32))).2.1 ?_
    show Steps p.tables e below (s₁.setTop (mkF m 15 #[.val (.ref r0), .val (.ref r1), .val (.int (0 : Int32))] [])) _
    refine XS.aloadN X0.here hx rfl (hb hby d5_15) rfl rfl ?_
    show Steps p.tables e below (s₁.setTop (mkF m 16 #[.val (.ref r0), .val (.ref r1), .val (.int (0 : Int32))] [(.ref r0)])) _
    refine XS.iloadN X0.here hx rfl (hb hby d5_16) rfl ?_
    show Steps p.tables e below (s₁.setTop (mkF m 17 #[.val (.ref r0), .val (.ref r1), .val (.int (0 : Int32))] [(.int (0 : Int32)), (.ref r0)])) _
    refine X0.baloadBytes hx (j := (0 : Int32)) (v := (.int (116 : Int32))) (by rw [e0]; exact Ar36.1) (State.isArrayOf_alike hZ.alike Ar36.2.1) Ar36.2.2 hin36 (H36.at hin36 rfl) (g := (mkF m 17 #[.val (.ref r0), .val (.ref r1), .val (.int (0 : Int32))] [(.int (0 : Int32)), (.ref r0)])) rfl rfl (hb hby d5_17) _ ?_
    show Steps p.tables e below (s₁.setTop (mkF m 18 #[.val (.ref r0), .val (.ref r1), .val (.int (0 : Int32))] [(.int (116 : Int32))])) _
    refine XS.aloadN X0.here hx rfl (hb hby d5_18) rfl rfl ?_
    show Steps p.tables e below (s₁.setTop (mkF m 19 #[.val (.ref r0), .val (.ref r1), .val (.int (0 : Int32))] [(.ref r1), (.int (116 : Int32))])) _
    refine XS.iloadN X0.here hx rfl (hb hby d5_19) rfl ?_
    show Steps p.tables e below (s₁.setTop (mkF m 20 #[.val (.ref r0), .val (.ref r1), .val (.int (0 : Int32))] [(.int (0 : Int32)), (.ref r1), (.int (116 : Int32))])) _
    refine X0.baloadBytes hx (j := (0 : Int32)) (v := (.int (106 : Int32))) (by rw [e0]; exact Ar37.1) (State.isArrayOf_alike hZ.alike Ar37.2.1) Ar37.2.2 hin37 (H37.at hin37 rfl) (g := (mkF m 20 #[.val (.ref r0), .val (.ref r1), .val (.int (0 : Int32))] [(.int (0 : Int32)), (.ref r1), (.int (116 : Int32))])) rfl rfl (hb hby d5_20) _ ?_
    show Steps p.tables e below (s₁.setTop (mkF m 21 #[.val (.ref r0), .val (.ref r1), .val (.int (0 : Int32))] [(.int (106 : Int32)), (.int (116 : Int32))])) _
    refine XS.icmpNo X0.here hx rfl (hb hby d5_21) rfl (feq (by decide : ¬ ((116 : Int32) = (106 : Int32)))).1 ?_
    show Steps p.tables e below (s₁.setTop (mkF m 24 #[.val (.ref r0), .val (.ref r1), .val (.int (0 : Int32))] [])) _
    refine XS.iconst X0.here hx rfl (hb hby d5_24) ?_
    show Steps p.tables e below (s₁.setTop (mkF m 25 #[.val (.ref r0), .val (.ref r1), .val (.int (0 : Int32))] [(.int (0 : Int32))])) _
    exact retN X0 hx (t := .boolean) Bd.returns (by simp) (hb hby d5_25) hr
  · show own_QLTJ Z u r0 r1 k0 k1 h0 n0 _ s₁.heap _
    rw [e0]
    exact ⟨rfl, N0, rfl⟩
theorem d2_0 : decode jdk_42_method_66_code 0 = .ok (.aload_n 0, 1) := by decide +kernel
theorem d2_1 : decode jdk_42_method_66_code 1 = .ok (.aload_n 1, 1) := by decide +kernel
theorem d2_2 : decode jdk_42_method_66_code 2 = .ok (.if_acmp .ne 5, 3) := by decide +kernel
theorem d2_5 : decode jdk_42_method_66_code 5 = .ok (.iconst 1, 1) := by decide +kernel
theorem d2_6 : decode jdk_42_method_66_code 6 = .ok (.ireturn, 1) := by decide +kernel
theorem d2_7 : decode jdk_42_method_66_code 7 = .ok (.aload_n 1, 1) := by decide +kernel
theorem d2_8 : decode jdk_42_method_66_code 8 = .ok (.instanceof 10, 3) := by decide +kernel
theorem d2_11 : decode jdk_42_method_66_code 11 = .ok (.ifCond .eq 43, 3) := by decide +kernel
theorem d2_14 : decode jdk_42_method_66_code 14 = .ok (.aload_n 1, 1) := by decide +kernel
theorem d2_15 : decode jdk_42_method_66_code 15 = .ok (.checkcast 10, 3) := by decide +kernel
theorem d2_18 : decode jdk_42_method_66_code 18 = .ok (.astore_n 2, 1) := by decide +kernel
theorem d2_19 : decode jdk_42_method_66_code 19 = .ok (.getstatic 38, 3) := by decide +kernel
theorem d2_22 : decode jdk_42_method_66_code 22 = .ok (.ifCond .eq 14, 3) := by decide +kernel
theorem d2_25 : decode jdk_42_method_66_code 25 = .ok (.aload_n 0, 1) := by decide +kernel
theorem d2_26 : decode jdk_42_method_66_code 26 = .ok (.getfield 15, 3) := by decide +kernel
theorem d2_29 : decode jdk_42_method_66_code 29 = .ok (.aload_n 2, 1) := by decide +kernel
theorem d2_30 : decode jdk_42_method_66_code 30 = .ok (.getfield 15, 3) := by decide +kernel
theorem d2_33 : decode jdk_42_method_66_code 33 = .ok (.if_icmp .ne 21, 3) := by decide +kernel
theorem d2_36 : decode jdk_42_method_66_code 36 = .ok (.aload_n 0, 1) := by decide +kernel
theorem d2_37 : decode jdk_42_method_66_code 37 = .ok (.getfield 9, 3) := by decide +kernel
theorem d2_40 : decode jdk_42_method_66_code 40 = .ok (.aload_n 2, 1) := by decide +kernel
theorem d2_41 : decode jdk_42_method_66_code 41 = .ok (.getfield 9, 3) := by decide +kernel
theorem d2_44 : decode jdk_42_method_66_code 44 = .ok (.invokestatic 541, 3) := by decide +kernel
theorem d2_47 : decode jdk_42_method_66_code 47 = .ok (.ifCond .eq 7, 3) := by decide +kernel
theorem d2_50 : decode jdk_42_method_66_code 50 = .ok (.iconst 1, 1) := by decide +kernel
theorem d2_51 : decode jdk_42_method_66_code 51 = .ok (.goto 4, 3) := by decide +kernel
theorem d2_55 : decode jdk_42_method_66_code 55 = .ok (.ireturn, 1) := by decide +kernel
theorem own_pn_2 : plainName "java/lang/String" = true := by first | (simp [plainName, overriddenIn]; done) | decide +kernel
theorem own_ef_ETT (m : MethodId) (x0 : Addr) (x1 : Addr) : entryFrame m #[(.ref x0), (.ref x1)] 3 = mkF m 0 #[.val (.ref x0), .val (.ref x1), .unset] [] := by first | (simp [entryFrame, mkF, argsToLocals, Value.category]; done) | rfl
def own_QETT (Z : State) (u : Nat → Addr) (r0 : Addr) (r1 : Addr) (b0 : Addr) (k0 : ClassId) (b1 : Addr) (k1 : ClassId) (h0 : Heap) (n0 : Nat) (v : Option Value) (h : Heap) (L : List Loc) : Prop := v = some (.int (1 : Int32)) ∧ Fr n0 L ∧ h = h0
set_option maxRecDepth 65536 in
set_option maxHeartbeats 40000000 in
theorem rmETT (l : Launch) (Z : State) (a0 : Array Value) (hw : ∀ d ∈ tables_1, d.before a0 Z = true) (ws : List Jvm.Cond) (u : Nat → Addr) (r0 : Addr) (r1 : Addr) (b0 : Addr) (k0 : ClassId) (b1 : Addr) (k1 : ClassId) (B : own_Base Z u) (h0 : Heap) (n0 : Nat) (O : Old Z n0 h0) (hX0 : Exa Z h0 r0 "java/lang/String") (hc0 : Fld Z h0 r0 "java/lang/String" "coder" "B" (.int (0 : Int32))) (hv0 : Fld Z h0 r0 "java/lang/String" "value" "[B" (.ref b0)) (hA0 : Arv Z h0 b0 k0 .byte (4 : Int32) [.int (116 : Int32), .int (101 : Int32), .int (120 : Int32), .int (116 : Int32)] (.int (0 : Int32))) (hX1 : Exa Z h0 r1 "java/lang/String") (hc1 : Fld Z h0 r1 "java/lang/String" "coder" "B" (.int (0 : Int32))) (hv1 : Fld Z h0 r1 "java/lang/String" "value" "[B" (.ref b1)) (hA1 : Arv Z h0 b1 k1 .byte (4 : Int32) [.int (116 : Int32), .int (101 : Int32), .int (120 : Int32), .int (116 : Int32)] (.int (0 : Int32))) :
    MetFree l (⟨"java/lang/String", "equals", "(Ljava/lang/Object;)Z"⟩ : MethodName) (head1 (Jvm.Cond.code (⟨"java/lang/String", "equals", "(Ljava/lang/Object;)Z"⟩ : MethodName) jdk_42_method_66_code 3 (some .boolean) :: ws) ({ frames := 1, cells := 0, slots := 0, locals := 14 } : Room)) (fun a U => a = #[(.ref r0), (.ref r1)] ∧ Z.Warmed39 U.vm ∧ U.heap = h0) (fun _ _ _ _ _ => True) (fun _ U o U' => ∃ v L, o = .returned v ∧ own_QETT Z u r0 r1 b0 k0 b1 k1 h0 n0 v U'.heap L ∧ FrameEnd U o U' L ({ frames := 1, cells := 0, slots := 0, locals := 14 } : Room).cells ({ frames := 1, cells := 0, slots := 0, locals := 14 } : Room).slots) := by
  refine MetFree.of_bodySF (plainFor_of_name own_pn_2) hisR ?_
  intro p e s m args below meth c s₁ Bd hml0 hP hK
  obtain ⟨rfl, hZ, hh⟩ := hP
  have hx := Bd.exec
  have hby := Bd.bytes
  have hml : c.maxLocals = 3 := hml0
  have hown : s.vm.findClass "java/lang/String" = some m.cls := findClass_of_methodNamed Bd.named
  have hnm := (name_of_methodNamed Bd.named Bd.method).1
  have X0 : Stand p l e ({ frames := 1, cells := 0, slots := 0, locals := 14 } : Room) s m #[(.ref r0), (.ref r1)] below meth c s₁ [] 0 0 := Stand.of_body Bd
  have e0 : s₁.heap = h0 := by rw [← hh, Bd.state]; rfl
  have N0 := Fr.nil n0
  have K0 := Keep.refl h0 []
  have Z0 : n0 ≤ h0.size := O.1 ▸ O.2.1
  have pre0 : ∀ t, Steps p.tables e below (s₁.setTop (mkF m 0 #[.val (.ref r0), .val (.ref r1), .unset] [])) t → Steps p.tables e below (s₁.setTop (entryFrame m #[(.ref r0), (.ref r1)] 3)) t := fun t k => castTop (own_ef_ETT m r0 r1) k
  have pre39 : ∀ t, Steps p.tables e below (s₁.setTop (mkF m 2 #[.val (.ref r0), .val (.ref r1), .unset] [(.ref r1), (.ref r0)])) t → Steps p.tables e below (s₁.setTop (entryFrame m #[(.ref r0), (.ref r1)] 3)) t := fun t kt => pre0 t (by
    show Steps p.tables e below (s₁.setTop (mkF m 0 #[.val (.ref r0), .val (.ref r1), .unset] [])) _
    refine XS.aloadN X0.here hx rfl (hb hby d2_0) rfl rfl ?_
    show Steps p.tables e below (s₁.setTop (mkF m 1 #[.val (.ref r0), .val (.ref r1), .unset] [(.ref r0)])) _
    refine XS.aloadN X0.here hx rfl (hb hby d2_1) rfl rfl ?_
    exact kt)
  by_cases hc40 : r0 = r1
  · --
    obtain ⟨fs, hr, hrun, hended, hW, hsame⟩ := X0.leave (v := some (.int (1 : Int32))) (fun h => by rw [Bd.returns] at h; cases h)
    refine ⟨_, _, pre39 _ ?_, hrun, hended, _, _, rfl, ?_, ⟨_, rfl⟩, hW, hsame.mono (by decide) (by decide)⟩
    · show Steps p.tables e below (s₁.setTop (mkF m 2 #[.val (.ref r0), .val (.ref r1), .unset] [(.ref r1), (.ref r0)])) _
      refine Jvm.RoadKit.acmp (g := (mkF m 2 #[.val (.ref r0), .val (.ref r1), .unset] [(.ref r1), (.ref r0)])) X0 hx rfl rfl rfl (pc0 := 2) (pc' := 5) (same := true) rfl (hb hby d2_2) rfl (decide_eq_true (congrArg Value.ref hc40)) (by decide) (by decide) ?_
      show Steps p.tables e below (s₁.setTop (mkF m 5 #[.val (.ref r0), .val (.ref r1), .unset] [])) _
      refine XS.iconst X0.here hx rfl (hb hby d2_5) ?_
      show Steps p.tables e below (s₁.setTop (mkF m 6 #[.val (.ref r0), .val (.ref r1), .unset] [(.int (1 : Int32))])) _
      exact retN X0 hx (t := .boolean) Bd.returns (by simp) (hb hby d2_6) hr
    · show own_QETT Z u r0 r1 b0 k0 b1 k1 h0 n0 _ s₁.heap _
      rw [e0]
      exact ⟨rfl, N0, rfl⟩
  · --
    obtain ⟨T42, X42, e42, st42⟩ := instY X0 hx hZ hown (hw _ (List.mem_of_getElem? (i := 47) rfl)) e0 (Ins.self hX1) (g := (mkF m 8 #[.val (.ref r0), .val (.ref r1), .unset] [(.ref r1)])) rfl rfl (hb hby d2_8)
    obtain ⟨T43, X43, e43, st43⟩ := castY X42 hx hZ hown (hw _ (List.mem_of_getElem? (i := 47) rfl)) e42 (Ins.self hX1) (g := (mkF m 15 #[.val (.ref r0), .val (.ref r1), .unset] [(.ref r1)])) rfl rfl (hb hby d2_15)
    obtain ⟨wC, hwC, SC⟩ := id B.2.2.2.2.2.2.2.2.2
    obtain ⟨T44, X44, e44, st44⟩ := getS2 X43 hx hZ hown (host := "") (Or.inl (hw _ (List.mem_of_getElem? (i := 49) rfl))) Via.refl e43 (SC.ext O.2) (g := (mkF m 19 #[.val (.ref r0), .val (.ref r1), .val (.ref r1)] [])) rfl (hb hby d2_19)
    obtain ⟨T45, X45, e45, st45⟩ := getF X44 hx hZ hown (host := "") (Or.inl (hw _ (List.mem_of_getElem? (i := 50) rfl))) Via.refl e44 hc0 (g := (mkF m 26 #[.val (.ref r0), .val (.ref r1), .val (.ref r1)] [(.ref r0)])) rfl rfl (hb hby d2_26)
    obtain ⟨T46, X46, e46, st46⟩ := getF X45 hx hZ hown (host := "") (Or.inl (hw _ (List.mem_of_getElem? (i := 50) rfl))) Via.refl e45 hc1 (g := (mkF m 30 #[.val (.ref r0), .val (.ref r1), .val (.ref r1)] [(.ref r1), (.int (0 : Int32))])) rfl rfl (hb hby d2_30)
    obtain ⟨T47, X47, e47, st47⟩ := getF X46 hx hZ hown (host := "") (Or.inl (hw _ (List.mem_of_getElem? (i := 51) rfl))) Via.refl e46 hv0 (g := (mkF m 37 #[.val (.ref r0), .val (.ref r1), .val (.ref r1)] [(.ref r0)])) rfl rfl (hb hby d2_37)
    obtain ⟨T48, X48, e48, st48⟩ := getF X47 hx hZ hown (host := "") (Or.inl (hw _ (List.mem_of_getElem? (i := 51) rfl))) Via.refl e47 hv1 (g := (mkF m 41 #[.val (.ref r0), .val (.ref r1), .val (.ref r1)] [(.ref r1), (.ref b0)])) rfl rfl (hb hby d2_41)
    obtain ⟨vr49, _, ⟨T49, L49, k49, n49⟩, -, X49, ⟨Lc49, hQ49, l49, y49, z49⟩, st49⟩ := Jvm.LawKit.callS X48 hx (y := (⟨"java/lang/StringLatin1", "equals", "([B[B)Z"⟩ : MethodName)) hown (mvT hZ (hw _ (List.mem_of_getElem? (i := 52) rfl))) (mvT hZ (hw _ (List.mem_of_getElem? (i := 53) rfl))) (mvT hZ (hw _ (List.mem_of_getElem? (i := 54) rfl))) (mvT hZ (hw _ (List.mem_of_getElem? (i := 55) rfl))) (by decide) (backOf (W := 0) (rmLTT l Z a0 hw [] u b0 b1 k0 k1 B h0 n0 O hA0 hA1) hZ (hw _ (List.mem_of_getElem? (i := 55) rfl)) (hw _ (List.mem_of_getElem? (i := 54) rfl)) (by decide) (by decide)) (g := (mkF m 44 #[.val (.ref r0), .val (.ref r1), .val (.ref r1)] [(.ref b1), (.ref b0)])) rfl (by rw [hml]; rfl) (argsL := [(.ref b0), (.ref b1)]) (rest := []) (lenOf own_pd0 rfl) rfl (by show 2 * 0 + _ ≤ _; exact Nat.le_of_eq rfl) (hb hby d2_44) (fun _ _ => ⟨rfl, e48, (by decide : 0 + 0 ≤ _), (by decide : 0 + 0 ≤ _)⟩)
    dsimp only [Pt.U, Pt.locs, Pt.cells, Pt.slots] at X49 l49 y49 z49 st49 hQ49
    subst l49 y49 z49
    obtain ⟨rfl, N49q, e49⟩ := hQ49
    have N49 := Fr.app N0 N49q
    obtain ⟨fs, hr, hrun, hended, hW, hsame⟩ := X49.leave (v := some (.int (1 : Int32))) (fun h => by rw [Bd.returns] at h; cases h)
    refine ⟨_, _, pre39 _ ?_, hrun, hended, _, _, rfl, ?_, ⟨_, rfl⟩, hW, hsame.mono (by decide) (by decide)⟩
    · show Steps p.tables e below (s₁.setTop (mkF m 2 #[.val (.ref r0), .val (.ref r1), .unset] [(.ref r1), (.ref r0)])) _
      refine Jvm.RoadKit.acmp (g := (mkF m 2 #[.val (.ref r0), .val (.ref r1), .unset] [(.ref r1), (.ref r0)])) X0 hx rfl rfl rfl (pc0 := 2) (pc' := 7) (same := false) rfl (hb hby d2_2) rfl (decide_eq_false fun q => hc40 (Value.ref.inj q)) (by decide) (by decide) ?_
      show Steps p.tables e below (s₁.setTop (mkF m 7 #[.val (.ref r0), .val (.ref r1), .unset] [])) _
      refine XS.aloadN X0.here hx rfl (hb hby d2_7) rfl rfl ?_
      show Steps p.tables e below (s₁.setTop (mkF m 8 #[.val (.ref r0), .val (.ref r1), .unset] [(.ref r1)])) _
      refine st42 _ ?_
      show Steps p.tables e below (T42.setTop (mkF m 11 #[.val (.ref r0), .val (.ref r1), .unset] [(.int (1 : Int32))])) _
      refine XS.ifNo X42.here hx rfl (hb hby d2_11) rfl ((if0 _ _).trans (feq (by decide : ¬ ((1 : Int32) = (0 : Int32)))).1) ?_
      show Steps p.tables e below (T42.setTop (mkF m 14 #[.val (.ref r0), .val (.ref r1), .unset] [])) _
      refine XS.aloadN X42.here hx rfl (hb hby d2_14) rfl rfl ?_
      show Steps p.tables e below (T42.setTop (mkF m 15 #[.val (.ref r0), .val (.ref r1), .unset] [(.ref r1)])) _
      refine st43 _ ?_
      show Steps p.tables e below (T43.setTop (mkF m 18 #[.val (.ref r0), .val (.ref r1), .unset] [(.ref r1)])) _
      refine XS.astoreN X43.here hx rfl (hb hby d2_18) rfl rfl (l' := #[.val (.ref r0), .val (.ref r1), .val (.ref r1)]) rfl ?_
      show Steps p.tables e below (T43.setTop (mkF m 19 #[.val (.ref r0), .val (.ref r1), .val (.ref r1)] [])) _
      refine st44 _ ?_
      show Steps p.tables e below (T44.setTop (mkF m 22 #[.val (.ref r0), .val (.ref r1), .val (.ref r1)] [(.int wC)])) _
      refine XS.ifNo X44.here hx rfl (hb hby d2_22) rfl ((if0 _ _).trans (feq hwC).1) ?_
      show Steps p.tables e below (T44.setTop (mkF m 25 #[.val (.ref r0), .val (.ref r1), .val (.ref r1)] [])) _
      refine XS.aloadN X44.here hx rfl (hb hby d2_25) rfl rfl ?_
      show Steps p.tables e below (T44.setTop (mkF m 26 #[.val (.ref r0), .val (.ref r1), .val (.ref r1)] [(.ref r0)])) _
      refine st45 _ ?_
      show Steps p.tables e below (T45.setTop (mkF m 29 #[.val (.ref r0), .val (.ref r1), .val (.ref r1)] [(.int (0 : Int32))])) _
      refine XS.aloadN X45.here hx rfl (hb hby d2_29) rfl rfl ?_
      show Steps p.tables e below (T45.setTop (mkF m 30 #[.val (.ref r0), .val (.ref r1), .val (.ref r1)] [(.ref r1), (.int (0 : Int32))])) _
      refine st46 _ ?_
      show Steps p.tables e below (T46.setTop (mkF m 33 #[.val (.ref r0), .val (.ref r1), .val (.ref r1)] [(.int (0 : Int32)), (.int (0 : Int32))])) _
      refine XS.icmpNo X46.here hx rfl (hb hby d2_33) rfl (teq (by decide : (0 : Int32) = (0 : Int32))).2 ?_
      show Steps p.tables e below (T46.setTop (mkF m 36 #[.val (.ref r0), .val (.ref r1), .val (.ref r1)] [])) _
      refine XS.aloadN X46.here hx rfl (hb hby d2_36) rfl rfl ?_
      show Steps p.tables e below (T46.setTop (mkF m 37 #[.val (.ref r0), .val (.ref r1), .val (.ref r1)] [(.ref r0)])) _
      refine st47 _ ?_
      show Steps p.tables e below (T47.setTop (mkF m 40 #[.val (.ref r0), .val (.ref r1), .val (.ref r1)] [(.ref b0)])) _
      refine XS.aloadN X47.here hx rfl (hb hby d2_40) rfl rfl ?_
      show Steps p.tables e below (T47.setTop (mkF m 41 #[.val (.ref r0), .val (.ref r1), .val (.ref r1)] [(.ref r1), (.ref b0)])) _
      refine st48 _ ?_
      show Steps p.tables e below (T48.setTop (mkF m 44 #[.val (.ref r0), .val (.ref r1), .val (.ref r1)] [(.ref b1), (.ref b0)])) _
      refine st49 _ ?_
      show Steps p.tables e below (T49.setTop (mkF m 47 #[.val (.ref r0), .val (.ref r1), .val (.ref r1)] [(.int (1 : Int32))])) _
      refine XS.ifNo X49.here hx rfl (hb hby d2_47) rfl ((if0 _ _).trans (feq (by decide : ¬ ((1 : Int32) = (0 : Int32)))).1) ?_
      show Steps p.tables e below (T49.setTop (mkF m 50 #[.val (.ref r0), .val (.ref r1), .val (.ref r1)] [])) _
      refine XS.iconst X49.here hx rfl (hb hby d2_50) ?_
      show Steps p.tables e below (T49.setTop (mkF m 51 #[.val (.ref r0), .val (.ref r1), .val (.ref r1)] [(.int (1 : Int32))])) _
      refine XS.goto X49.here hx rfl (pc0 := 51) (pc' := 55) rfl (hb hby d2_51) (by decide) (by decide) ?_
      show Steps p.tables e below (T49.setTop (mkF m 55 #[.val (.ref r0), .val (.ref r1), .val (.ref r1)] [(.int (1 : Int32))])) _
      exact retN X49 hx (t := .boolean) Bd.returns (by simp) (hb hby d2_55) hr
    · show own_QETT Z u r0 r1 b0 k0 b1 k1 h0 n0 _ T49.heap _
      rw [e49]
      exact ⟨rfl, N49, rfl⟩
theorem own_ef_EJJ (m : MethodId) (x0 : Addr) (x1 : Addr) : entryFrame m #[(.ref x0), (.ref x1)] 3 = mkF m 0 #[.val (.ref x0), .val (.ref x1), .unset] [] := by first | (simp [entryFrame, mkF, argsToLocals, Value.category]; done) | rfl
def own_QEJJ (Z : State) (u : Nat → Addr) (r0 : Addr) (r1 : Addr) (b0 : Addr) (k0 : ClassId) (b1 : Addr) (k1 : ClassId) (h0 : Heap) (n0 : Nat) (v : Option Value) (h : Heap) (L : List Loc) : Prop := v = some (.int (1 : Int32)) ∧ Fr n0 L ∧ h = h0
set_option maxRecDepth 65536 in
set_option maxHeartbeats 40000000 in
theorem rmEJJ (l : Launch) (Z : State) (a0 : Array Value) (hw : ∀ d ∈ tables_1, d.before a0 Z = true) (ws : List Jvm.Cond) (u : Nat → Addr) (r0 : Addr) (r1 : Addr) (b0 : Addr) (k0 : ClassId) (b1 : Addr) (k1 : ClassId) (B : own_Base Z u) (h0 : Heap) (n0 : Nat) (O : Old Z n0 h0) (hX0 : Exa Z h0 r0 "java/lang/String") (hc0 : Fld Z h0 r0 "java/lang/String" "coder" "B" (.int (0 : Int32))) (hv0 : Fld Z h0 r0 "java/lang/String" "value" "[B" (.ref b0)) (hA0 : Arv Z h0 b0 k0 .byte (4 : Int32) [.int (106 : Int32), .int (115 : Int32), .int (111 : Int32), .int (110 : Int32)] (.int (0 : Int32))) (hX1 : Exa Z h0 r1 "java/lang/String") (hc1 : Fld Z h0 r1 "java/lang/String" "coder" "B" (.int (0 : Int32))) (hv1 : Fld Z h0 r1 "java/lang/String" "value" "[B" (.ref b1)) (hA1 : Arv Z h0 b1 k1 .byte (4 : Int32) [.int (106 : Int32), .int (115 : Int32), .int (111 : Int32), .int (110 : Int32)] (.int (0 : Int32))) :
    MetFree l (⟨"java/lang/String", "equals", "(Ljava/lang/Object;)Z"⟩ : MethodName) (head1 (Jvm.Cond.code (⟨"java/lang/String", "equals", "(Ljava/lang/Object;)Z"⟩ : MethodName) jdk_42_method_66_code 3 (some .boolean) :: ws) ({ frames := 1, cells := 0, slots := 0, locals := 14 } : Room)) (fun a U => a = #[(.ref r0), (.ref r1)] ∧ Z.Warmed39 U.vm ∧ U.heap = h0) (fun _ _ _ _ _ => True) (fun _ U o U' => ∃ v L, o = .returned v ∧ own_QEJJ Z u r0 r1 b0 k0 b1 k1 h0 n0 v U'.heap L ∧ FrameEnd U o U' L ({ frames := 1, cells := 0, slots := 0, locals := 14 } : Room).cells ({ frames := 1, cells := 0, slots := 0, locals := 14 } : Room).slots) := by
  refine MetFree.of_bodySF (plainFor_of_name own_pn_2) hisR ?_
  intro p e s m args below meth c s₁ Bd hml0 hP hK
  obtain ⟨rfl, hZ, hh⟩ := hP
  have hx := Bd.exec
  have hby := Bd.bytes
  have hml : c.maxLocals = 3 := hml0
  have hown : s.vm.findClass "java/lang/String" = some m.cls := findClass_of_methodNamed Bd.named
  have hnm := (name_of_methodNamed Bd.named Bd.method).1
  have X0 : Stand p l e ({ frames := 1, cells := 0, slots := 0, locals := 14 } : Room) s m #[(.ref r0), (.ref r1)] below meth c s₁ [] 0 0 := Stand.of_body Bd
  have e0 : s₁.heap = h0 := by rw [← hh, Bd.state]; rfl
  have N0 := Fr.nil n0
  have K0 := Keep.refl h0 []
  have Z0 : n0 ≤ h0.size := O.1 ▸ O.2.1
  have pre0 : ∀ t, Steps p.tables e below (s₁.setTop (mkF m 0 #[.val (.ref r0), .val (.ref r1), .unset] [])) t → Steps p.tables e below (s₁.setTop (entryFrame m #[(.ref r0), (.ref r1)] 3)) t := fun t k => castTop (own_ef_EJJ m r0 r1) k
  have pre51 : ∀ t, Steps p.tables e below (s₁.setTop (mkF m 2 #[.val (.ref r0), .val (.ref r1), .unset] [(.ref r1), (.ref r0)])) t → Steps p.tables e below (s₁.setTop (entryFrame m #[(.ref r0), (.ref r1)] 3)) t := fun t kt => pre0 t (by
    show Steps p.tables e below (s₁.setTop (mkF m 0 #[.val (.ref r0), .val (.ref r1), .unset] [])) _
    refine XS.aloadN X0.here hx rfl (hb hby d2_0) rfl rfl ?_
    show Steps p.tables e below (s₁.setTop (mkF m 1 #[.val (.ref r0), .val (.ref r1), .unset] [(.ref r0)])) _
    refine XS.aloadN X0.here hx rfl (hb hby d2_1) rfl rfl ?_
    exact kt)
  by_cases hc52 : r0 = r1
  · --
    obtain ⟨fs, hr, hrun, hended, hW, hsame⟩ := X0.leave (v := some (.int (1 : Int32))) (fun h => by rw [Bd.returns] at h; cases h)
    refine ⟨_, _, pre51 _ ?_, hrun, hended, _, _, rfl, ?_, ⟨_, rfl⟩, hW, hsame.mono (by decide) (by decide)⟩
    · show Steps p.tables e below (s₁.setTop (mkF m 2 #[.val (.ref r0), .val (.ref r1), .unset] [(.ref r1), (.ref r0)])) _
      refine Jvm.RoadKit.acmp (g := (mkF m 2 #[.val (.ref r0), .val (.ref r1), .unset] [(.ref r1), (.ref r0)])) X0 hx rfl rfl rfl (pc0 := 2) (pc' := 5) (same := true) rfl (hb hby d2_2) rfl (decide_eq_true (congrArg Value.ref hc52)) (by decide) (by decide) ?_
      show Steps p.tables e below (s₁.setTop (mkF m 5 #[.val (.ref r0), .val (.ref r1), .unset] [])) _
      refine XS.iconst X0.here hx rfl (hb hby d2_5) ?_
      show Steps p.tables e below (s₁.setTop (mkF m 6 #[.val (.ref r0), .val (.ref r1), .unset] [(.int (1 : Int32))])) _
      exact retN X0 hx (t := .boolean) Bd.returns (by simp) (hb hby d2_6) hr
    · show own_QEJJ Z u r0 r1 b0 k0 b1 k1 h0 n0 _ s₁.heap _
      rw [e0]
      exact ⟨rfl, N0, rfl⟩
  · --
    obtain ⟨T54, X54, e54, st54⟩ := instY X0 hx hZ hown (hw _ (List.mem_of_getElem? (i := 47) rfl)) e0 (Ins.self hX1) (g := (mkF m 8 #[.val (.ref r0), .val (.ref r1), .unset] [(.ref r1)])) rfl rfl (hb hby d2_8)
    obtain ⟨T55, X55, e55, st55⟩ := castY X54 hx hZ hown (hw _ (List.mem_of_getElem? (i := 47) rfl)) e54 (Ins.self hX1) (g := (mkF m 15 #[.val (.ref r0), .val (.ref r1), .unset] [(.ref r1)])) rfl rfl (hb hby d2_15)
    obtain ⟨wC, hwC, SC⟩ := id B.2.2.2.2.2.2.2.2.2
    obtain ⟨T56, X56, e56, st56⟩ := getS2 X55 hx hZ hown (host := "") (Or.inl (hw _ (List.mem_of_getElem? (i := 49) rfl))) Via.refl e55 (SC.ext O.2) (g := (mkF m 19 #[.val (.ref r0), .val (.ref r1), .val (.ref r1)] [])) rfl (hb hby d2_19)
    obtain ⟨T57, X57, e57, st57⟩ := getF X56 hx hZ hown (host := "") (Or.inl (hw _ (List.mem_of_getElem? (i := 50) rfl))) Via.refl e56 hc0 (g := (mkF m 26 #[.val (.ref r0), .val (.ref r1), .val (.ref r1)] [(.ref r0)])) rfl rfl (hb hby d2_26)
    obtain ⟨T58, X58, e58, st58⟩ := getF X57 hx hZ hown (host := "") (Or.inl (hw _ (List.mem_of_getElem? (i := 50) rfl))) Via.refl e57 hc1 (g := (mkF m 30 #[.val (.ref r0), .val (.ref r1), .val (.ref r1)] [(.ref r1), (.int (0 : Int32))])) rfl rfl (hb hby d2_30)
    obtain ⟨T59, X59, e59, st59⟩ := getF X58 hx hZ hown (host := "") (Or.inl (hw _ (List.mem_of_getElem? (i := 51) rfl))) Via.refl e58 hv0 (g := (mkF m 37 #[.val (.ref r0), .val (.ref r1), .val (.ref r1)] [(.ref r0)])) rfl rfl (hb hby d2_37)
    obtain ⟨T60, X60, e60, st60⟩ := getF X59 hx hZ hown (host := "") (Or.inl (hw _ (List.mem_of_getElem? (i := 51) rfl))) Via.refl e59 hv1 (g := (mkF m 41 #[.val (.ref r0), .val (.ref r1), .val (.ref r1)] [(.ref r1), (.ref b0)])) rfl rfl (hb hby d2_41)
    obtain ⟨vr61, _, ⟨T61, L61, k61, n61⟩, -, X61, ⟨Lc61, hQ61, l61, y61, z61⟩, st61⟩ := Jvm.LawKit.callS X60 hx (y := (⟨"java/lang/StringLatin1", "equals", "([B[B)Z"⟩ : MethodName)) hown (mvT hZ (hw _ (List.mem_of_getElem? (i := 52) rfl))) (mvT hZ (hw _ (List.mem_of_getElem? (i := 53) rfl))) (mvT hZ (hw _ (List.mem_of_getElem? (i := 54) rfl))) (mvT hZ (hw _ (List.mem_of_getElem? (i := 55) rfl))) (by decide) (backOf (W := 0) (rmLJJ l Z a0 hw [] u b0 b1 k0 k1 B h0 n0 O hA0 hA1) hZ (hw _ (List.mem_of_getElem? (i := 55) rfl)) (hw _ (List.mem_of_getElem? (i := 54) rfl)) (by decide) (by decide)) (g := (mkF m 44 #[.val (.ref r0), .val (.ref r1), .val (.ref r1)] [(.ref b1), (.ref b0)])) rfl (by rw [hml]; rfl) (argsL := [(.ref b0), (.ref b1)]) (rest := []) (lenOf own_pd0 rfl) rfl (by show 2 * 0 + _ ≤ _; exact Nat.le_of_eq rfl) (hb hby d2_44) (fun _ _ => ⟨rfl, e60, (by decide : 0 + 0 ≤ _), (by decide : 0 + 0 ≤ _)⟩)
    dsimp only [Pt.U, Pt.locs, Pt.cells, Pt.slots] at X61 l61 y61 z61 st61 hQ61
    subst l61 y61 z61
    obtain ⟨rfl, N61q, e61⟩ := hQ61
    have N61 := Fr.app N0 N61q
    obtain ⟨fs, hr, hrun, hended, hW, hsame⟩ := X61.leave (v := some (.int (1 : Int32))) (fun h => by rw [Bd.returns] at h; cases h)
    refine ⟨_, _, pre51 _ ?_, hrun, hended, _, _, rfl, ?_, ⟨_, rfl⟩, hW, hsame.mono (by decide) (by decide)⟩
    · show Steps p.tables e below (s₁.setTop (mkF m 2 #[.val (.ref r0), .val (.ref r1), .unset] [(.ref r1), (.ref r0)])) _
      refine Jvm.RoadKit.acmp (g := (mkF m 2 #[.val (.ref r0), .val (.ref r1), .unset] [(.ref r1), (.ref r0)])) X0 hx rfl rfl rfl (pc0 := 2) (pc' := 7) (same := false) rfl (hb hby d2_2) rfl (decide_eq_false fun q => hc52 (Value.ref.inj q)) (by decide) (by decide) ?_
      show Steps p.tables e below (s₁.setTop (mkF m 7 #[.val (.ref r0), .val (.ref r1), .unset] [])) _
      refine XS.aloadN X0.here hx rfl (hb hby d2_7) rfl rfl ?_
      show Steps p.tables e below (s₁.setTop (mkF m 8 #[.val (.ref r0), .val (.ref r1), .unset] [(.ref r1)])) _
      refine st54 _ ?_
      show Steps p.tables e below (T54.setTop (mkF m 11 #[.val (.ref r0), .val (.ref r1), .unset] [(.int (1 : Int32))])) _
      refine XS.ifNo X54.here hx rfl (hb hby d2_11) rfl ((if0 _ _).trans (feq (by decide : ¬ ((1 : Int32) = (0 : Int32)))).1) ?_
      show Steps p.tables e below (T54.setTop (mkF m 14 #[.val (.ref r0), .val (.ref r1), .unset] [])) _
      refine XS.aloadN X54.here hx rfl (hb hby d2_14) rfl rfl ?_
      show Steps p.tables e below (T54.setTop (mkF m 15 #[.val (.ref r0), .val (.ref r1), .unset] [(.ref r1)])) _
      refine st55 _ ?_
      show Steps p.tables e below (T55.setTop (mkF m 18 #[.val (.ref r0), .val (.ref r1), .unset] [(.ref r1)])) _
      refine XS.astoreN X55.here hx rfl (hb hby d2_18) rfl rfl (l' := #[.val (.ref r0), .val (.ref r1), .val (.ref r1)]) rfl ?_
      show Steps p.tables e below (T55.setTop (mkF m 19 #[.val (.ref r0), .val (.ref r1), .val (.ref r1)] [])) _
      refine st56 _ ?_
      show Steps p.tables e below (T56.setTop (mkF m 22 #[.val (.ref r0), .val (.ref r1), .val (.ref r1)] [(.int wC)])) _
      refine XS.ifNo X56.here hx rfl (hb hby d2_22) rfl ((if0 _ _).trans (feq hwC).1) ?_
      show Steps p.tables e below (T56.setTop (mkF m 25 #[.val (.ref r0), .val (.ref r1), .val (.ref r1)] [])) _
      refine XS.aloadN X56.here hx rfl (hb hby d2_25) rfl rfl ?_
      show Steps p.tables e below (T56.setTop (mkF m 26 #[.val (.ref r0), .val (.ref r1), .val (.ref r1)] [(.ref r0)])) _
      refine st57 _ ?_
      show Steps p.tables e below (T57.setTop (mkF m 29 #[.val (.ref r0), .val (.ref r1), .val (.ref r1)] [(.int (0 : Int32))])) _
      refine XS.aloadN X57.here hx rfl (hb hby d2_29) rfl rfl ?_
      show Steps p.tables e below (T57.setTop (mkF m 30 #[.val (.ref r0), .val (.ref r1), .val (.ref r1)] [(.ref r1), (.int (0 : Int32))])) _
      refine st58 _ ?_
      show Steps p.tables e below (T58.setTop (mkF m 33 #[.val (.ref r0), .val (.ref r1), .val (.ref r1)] [(.int (0 : Int32)), (.int (0 : Int32))])) _
      refine XS.icmpNo X58.here hx rfl (hb hby d2_33) rfl (teq (by decide : (0 : Int32) = (0 : Int32))).2 ?_
      show Steps p.tables e below (T58.setTop (mkF m 36 #[.val (.ref r0), .val (.ref r1), .val (.ref r1)] [])) _
      refine XS.aloadN X58.here hx rfl (hb hby d2_36) rfl rfl ?_
      show Steps p.tables e below (T58.setTop (mkF m 37 #[.val (.ref r0), .val (.ref r1), .val (.ref r1)] [(.ref r0)])) _
      refine st59 _ ?_
      show Steps p.tables e below (T59.setTop (mkF m 40 #[.val (.ref r0), .val (.ref r1), .val (.ref r1)] [(.ref b0)])) _
      refine XS.aloadN X59.here hx rfl (hb hby d2_40) rfl rfl ?_
      show Steps p.tables e below (T59.setTop (mkF m 41 #[.val (.ref r0), .val (.ref r1), .val (.ref r1)] [(.ref r1), (.ref b0)])) _
      refine st60 _ ?_
      show Steps p.tables e below (T60.setTop (mkF m 44 #[.val (.ref r0), .val (.ref r1), .val (.ref r1)] [(.ref b1), (.ref b0)])) _
      refine st61 _ ?_
      show Steps p.tables e below (T61.setTop (mkF m 47 #[.val (.ref r0), .val (.ref r1), .val (.ref r1)] [(.int (1 : Int32))])) _
      refine XS.ifNo X61.here hx rfl (hb hby d2_47) rfl ((if0 _ _).trans (feq (by decide : ¬ ((1 : Int32) = (0 : Int32)))).1) ?_
      show Steps p.tables e below (T61.setTop (mkF m 50 #[.val (.ref r0), .val (.ref r1), .val (.ref r1)] [])) _
      refine XS.iconst X61.here hx rfl (hb hby d2_50) ?_
      show Steps p.tables e below (T61.setTop (mkF m 51 #[.val (.ref r0), .val (.ref r1), .val (.ref r1)] [(.int (1 : Int32))])) _
      refine XS.goto X61.here hx rfl (pc0 := 51) (pc' := 55) rfl (hb hby d2_51) (by decide) (by decide) ?_
      show Steps p.tables e below (T61.setTop (mkF m 55 #[.val (.ref r0), .val (.ref r1), .val (.ref r1)] [(.int (1 : Int32))])) _
      exact retN X61 hx (t := .boolean) Bd.returns (by simp) (hb hby d2_55) hr
    · show own_QEJJ Z u r0 r1 b0 k0 b1 k1 h0 n0 _ T61.heap _
      rw [e61]
      exact ⟨rfl, N61, rfl⟩
theorem d2_54 : decode jdk_42_method_66_code 54 = .ok (.iconst 0, 1) := by decide +kernel
theorem own_ef_ETJ (m : MethodId) (x0 : Addr) (x1 : Addr) : entryFrame m #[(.ref x0), (.ref x1)] 3 = mkF m 0 #[.val (.ref x0), .val (.ref x1), .unset] [] := by first | (simp [entryFrame, mkF, argsToLocals, Value.category]; done) | rfl
def own_QETJ (Z : State) (u : Nat → Addr) (r0 : Addr) (r1 : Addr) (b0 : Addr) (k0 : ClassId) (b1 : Addr) (k1 : ClassId) (h0 : Heap) (n0 : Nat) (v : Option Value) (h : Heap) (L : List Loc) : Prop := v = some (.int (0 : Int32)) ∧ Fr n0 L ∧ h = h0
set_option maxRecDepth 65536 in
set_option maxHeartbeats 40000000 in
theorem rmETJ (l : Launch) (Z : State) (a0 : Array Value) (hw : ∀ d ∈ tables_1, d.before a0 Z = true) (ws : List Jvm.Cond) (u : Nat → Addr) (r0 : Addr) (r1 : Addr) (b0 : Addr) (k0 : ClassId) (b1 : Addr) (k1 : ClassId) (B : own_Base Z u) (h0 : Heap) (n0 : Nat) (O : Old Z n0 h0) (hX0 : Exa Z h0 r0 "java/lang/String") (hc0 : Fld Z h0 r0 "java/lang/String" "coder" "B" (.int (0 : Int32))) (hv0 : Fld Z h0 r0 "java/lang/String" "value" "[B" (.ref b0)) (hA0 : Arv Z h0 b0 k0 .byte (4 : Int32) [.int (116 : Int32), .int (101 : Int32), .int (120 : Int32), .int (116 : Int32)] (.int (0 : Int32))) (hX1 : Exa Z h0 r1 "java/lang/String") (hc1 : Fld Z h0 r1 "java/lang/String" "coder" "B" (.int (0 : Int32))) (hv1 : Fld Z h0 r1 "java/lang/String" "value" "[B" (.ref b1)) (hA1 : Arv Z h0 b1 k1 .byte (4 : Int32) [.int (106 : Int32), .int (115 : Int32), .int (111 : Int32), .int (110 : Int32)] (.int (0 : Int32))) (hne : r0 ≠ r1) :
    MetFree l (⟨"java/lang/String", "equals", "(Ljava/lang/Object;)Z"⟩ : MethodName) (head1 (Jvm.Cond.code (⟨"java/lang/String", "equals", "(Ljava/lang/Object;)Z"⟩ : MethodName) jdk_42_method_66_code 3 (some .boolean) :: ws) ({ frames := 1, cells := 0, slots := 0, locals := 14 } : Room)) (fun a U => a = #[(.ref r0), (.ref r1)] ∧ Z.Warmed39 U.vm ∧ U.heap = h0) (fun _ _ _ _ _ => True) (fun _ U o U' => ∃ v L, o = .returned v ∧ own_QETJ Z u r0 r1 b0 k0 b1 k1 h0 n0 v U'.heap L ∧ FrameEnd U o U' L ({ frames := 1, cells := 0, slots := 0, locals := 14 } : Room).cells ({ frames := 1, cells := 0, slots := 0, locals := 14 } : Room).slots) := by
  refine MetFree.of_bodySF (plainFor_of_name own_pn_2) hisR ?_
  intro p e s m args below meth c s₁ Bd hml0 hP hK
  obtain ⟨rfl, hZ, hh⟩ := hP
  have hx := Bd.exec
  have hby := Bd.bytes
  have hml : c.maxLocals = 3 := hml0
  have hown : s.vm.findClass "java/lang/String" = some m.cls := findClass_of_methodNamed Bd.named
  have hnm := (name_of_methodNamed Bd.named Bd.method).1
  have X0 : Stand p l e ({ frames := 1, cells := 0, slots := 0, locals := 14 } : Room) s m #[(.ref r0), (.ref r1)] below meth c s₁ [] 0 0 := Stand.of_body Bd
  have e0 : s₁.heap = h0 := by rw [← hh, Bd.state]; rfl
  have N0 := Fr.nil n0
  have K0 := Keep.refl h0 []
  have Z0 : n0 ≤ h0.size := O.1 ▸ O.2.1
  have pre0 : ∀ t, Steps p.tables e below (s₁.setTop (mkF m 0 #[.val (.ref r0), .val (.ref r1), .unset] [])) t → Steps p.tables e below (s₁.setTop (entryFrame m #[(.ref r0), (.ref r1)] 3)) t := fun t k => castTop (own_ef_ETJ m r0 r1) k
  obtain ⟨T63, X63, e63, st63⟩ := instY X0 hx hZ hown (hw _ (List.mem_of_getElem? (i := 47) rfl)) e0 (Ins.self hX1) (g := (mkF m 8 #[.val (.ref r0), .val (.ref r1), .unset] [(.ref r1)])) rfl rfl (hb hby d2_8)
  obtain ⟨T64, X64, e64, st64⟩ := castY X63 hx hZ hown (hw _ (List.mem_of_getElem? (i := 47) rfl)) e63 (Ins.self hX1) (g := (mkF m 15 #[.val (.ref r0), .val (.ref r1), .unset] [(.ref r1)])) rfl rfl (hb hby d2_15)
  obtain ⟨wC, hwC, SC⟩ := id B.2.2.2.2.2.2.2.2.2
  obtain ⟨T65, X65, e65, st65⟩ := getS2 X64 hx hZ hown (host := "") (Or.inl (hw _ (List.mem_of_getElem? (i := 49) rfl))) Via.refl e64 (SC.ext O.2) (g := (mkF m 19 #[.val (.ref r0), .val (.ref r1), .val (.ref r1)] [])) rfl (hb hby d2_19)
  obtain ⟨T66, X66, e66, st66⟩ := getF X65 hx hZ hown (host := "") (Or.inl (hw _ (List.mem_of_getElem? (i := 50) rfl))) Via.refl e65 hc0 (g := (mkF m 26 #[.val (.ref r0), .val (.ref r1), .val (.ref r1)] [(.ref r0)])) rfl rfl (hb hby d2_26)
  obtain ⟨T67, X67, e67, st67⟩ := getF X66 hx hZ hown (host := "") (Or.inl (hw _ (List.mem_of_getElem? (i := 50) rfl))) Via.refl e66 hc1 (g := (mkF m 30 #[.val (.ref r0), .val (.ref r1), .val (.ref r1)] [(.ref r1), (.int (0 : Int32))])) rfl rfl (hb hby d2_30)
  obtain ⟨T68, X68, e68, st68⟩ := getF X67 hx hZ hown (host := "") (Or.inl (hw _ (List.mem_of_getElem? (i := 51) rfl))) Via.refl e67 hv0 (g := (mkF m 37 #[.val (.ref r0), .val (.ref r1), .val (.ref r1)] [(.ref r0)])) rfl rfl (hb hby d2_37)
  obtain ⟨T69, X69, e69, st69⟩ := getF X68 hx hZ hown (host := "") (Or.inl (hw _ (List.mem_of_getElem? (i := 51) rfl))) Via.refl e68 hv1 (g := (mkF m 41 #[.val (.ref r0), .val (.ref r1), .val (.ref r1)] [(.ref r1), (.ref b0)])) rfl rfl (hb hby d2_41)
  obtain ⟨vr70, _, ⟨T70, L70, k70, n70⟩, -, X70, ⟨Lc70, hQ70, l70, y70, z70⟩, st70⟩ := Jvm.LawKit.callS X69 hx (y := (⟨"java/lang/StringLatin1", "equals", "([B[B)Z"⟩ : MethodName)) hown (mvT hZ (hw _ (List.mem_of_getElem? (i := 52) rfl))) (mvT hZ (hw _ (List.mem_of_getElem? (i := 53) rfl))) (mvT hZ (hw _ (List.mem_of_getElem? (i := 54) rfl))) (mvT hZ (hw _ (List.mem_of_getElem? (i := 55) rfl))) (by decide) (backOf (W := 0) (rmLTJ l Z a0 hw [] u b0 b1 k0 k1 B h0 n0 O hA0 hA1) hZ (hw _ (List.mem_of_getElem? (i := 55) rfl)) (hw _ (List.mem_of_getElem? (i := 54) rfl)) (by decide) (by decide)) (g := (mkF m 44 #[.val (.ref r0), .val (.ref r1), .val (.ref r1)] [(.ref b1), (.ref b0)])) rfl (by rw [hml]; rfl) (argsL := [(.ref b0), (.ref b1)]) (rest := []) (lenOf own_pd0 rfl) rfl (by show 2 * 0 + _ ≤ _; exact Nat.le_of_eq rfl) (hb hby d2_44) (fun _ _ => ⟨rfl, e69, (by decide : 0 + 0 ≤ _), (by decide : 0 + 0 ≤ _)⟩)
  dsimp only [Pt.U, Pt.locs, Pt.cells, Pt.slots] at X70 l70 y70 z70 st70 hQ70
  subst l70 y70 z70
  obtain ⟨rfl, N70q, e70⟩ := hQ70
  have N70 := Fr.app N0 N70q
  obtain ⟨fs, hr, hrun, hended, hW, hsame⟩ := X70.leave (v := some (.int (0 : Int32))) (fun h => by rw [Bd.returns] at h; cases h)
  refine ⟨_, _, pre0 _ ?_, hrun, hended, _, _, rfl, ?_, ⟨_, rfl⟩, hW, hsame.mono (by decide) (by decide)⟩
  · show Steps p.tables e below (s₁.setTop (mkF m 0 #[.val (.ref r0), .val (.ref r1), .unset] [])) _
    refine XS.aloadN X0.here hx rfl (hb hby d2_0) rfl rfl ?_
    show Steps p.tables e below (s₁.setTop (mkF m 1 #[.val (.ref r0), .val (.ref r1), .unset] [(.ref r0)])) _
    refine XS.aloadN X0.here hx rfl (hb hby d2_1) rfl rfl ?_
    show Steps p.tables e below (s₁.setTop (mkF m 2 #[.val (.ref r0), .val (.ref r1), .unset] [(.ref r1), (.ref r0)])) _
    refine Jvm.RoadKit.acmp (g := (mkF m 2 #[.val (.ref r0), .val (.ref r1), .unset] [(.ref r1), (.ref r0)])) X0 hx rfl rfl rfl (pc0 := 2) (pc' := 7) (same := false) rfl (hb hby d2_2) rfl (decide_eq_false fun q => (hne : ¬ (r0 = r1)) (Value.ref.inj q)) (by decide) (by decide) ?_
    show Steps p.tables e below (s₁.setTop (mkF m 7 #[.val (.ref r0), .val (.ref r1), .unset] [])) _
    refine XS.aloadN X0.here hx rfl (hb hby d2_7) rfl rfl ?_
    show Steps p.tables e below (s₁.setTop (mkF m 8 #[.val (.ref r0), .val (.ref r1), .unset] [(.ref r1)])) _
    refine st63 _ ?_
    show Steps p.tables e below (T63.setTop (mkF m 11 #[.val (.ref r0), .val (.ref r1), .unset] [(.int (1 : Int32))])) _
    refine XS.ifNo X63.here hx rfl (hb hby d2_11) rfl ((if0 _ _).trans (feq (by decide : ¬ ((1 : Int32) = (0 : Int32)))).1) ?_
    show Steps p.tables e below (T63.setTop (mkF m 14 #[.val (.ref r0), .val (.ref r1), .unset] [])) _
    refine XS.aloadN X63.here hx rfl (hb hby d2_14) rfl rfl ?_
    show Steps p.tables e below (T63.setTop (mkF m 15 #[.val (.ref r0), .val (.ref r1), .unset] [(.ref r1)])) _
    refine st64 _ ?_
    show Steps p.tables e below (T64.setTop (mkF m 18 #[.val (.ref r0), .val (.ref r1), .unset] [(.ref r1)])) _
    refine XS.astoreN X64.here hx rfl (hb hby d2_18) rfl rfl (l' := #[.val (.ref r0), .val (.ref r1), .val (.ref r1)]) rfl ?_
    show Steps p.tables e below (T64.setTop (mkF m 19 #[.val (.ref r0), .val (.ref r1), .val (.ref r1)] [])) _
    refine st65 _ ?_
    show Steps p.tables e below (T65.setTop (mkF m 22 #[.val (.ref r0), .val (.ref r1), .val (.ref r1)] [(.int wC)])) _
    refine XS.ifNo X65.here hx rfl (hb hby d2_22) rfl ((if0 _ _).trans (feq hwC).1) ?_
    show Steps p.tables e below (T65.setTop (mkF m 25 #[.val (.ref r0), .val (.ref r1), .val (.ref r1)] [])) _
    refine XS.aloadN X65.here hx rfl (hb hby d2_25) rfl rfl ?_
    show Steps p.tables e below (T65.setTop (mkF m 26 #[.val (.ref r0), .val (.ref r1), .val (.ref r1)] [(.ref r0)])) _
    refine st66 _ ?_
    show Steps p.tables e below (T66.setTop (mkF m 29 #[.val (.ref r0), .val (.ref r1), .val (.ref r1)] [(.int (0 : Int32))])) _
    refine XS.aloadN X66.here hx rfl (hb hby d2_29) rfl rfl ?_
    show Steps p.tables e below (T66.setTop (mkF m 30 #[.val (.ref r0), .val (.ref r1), .val (.ref r1)] [(.ref r1), (.int (0 : Int32))])) _
    refine st67 _ ?_
    show Steps p.tables e below (T67.setTop (mkF m 33 #[.val (.ref r0), .val (.ref r1), .val (.ref r1)] [(.int (0 : Int32)), (.int (0 : Int32))])) _
    refine XS.icmpNo X67.here hx rfl (hb hby d2_33) rfl (teq (by decide : (0 : Int32) = (0 : Int32))).2 ?_
    show Steps p.tables e below (T67.setTop (mkF m 36 #[.val (.ref r0), .val (.ref r1), .val (.ref r1)] [])) _
    refine XS.aloadN X67.here hx rfl (hb hby d2_36) rfl rfl ?_
    show Steps p.tables e below (T67.setTop (mkF m 37 #[.val (.ref r0), .val (.ref r1), .val (.ref r1)] [(.ref r0)])) _
    refine st68 _ ?_
    show Steps p.tables e below (T68.setTop (mkF m 40 #[.val (.ref r0), .val (.ref r1), .val (.ref r1)] [(.ref b0)])) _
    refine XS.aloadN X68.here hx rfl (hb hby d2_40) rfl rfl ?_
    show Steps p.tables e below (T68.setTop (mkF m 41 #[.val (.ref r0), .val (.ref r1), .val (.ref r1)] [(.ref r1), (.ref b0)])) _
    refine st69 _ ?_
    show Steps p.tables e below (T69.setTop (mkF m 44 #[.val (.ref r0), .val (.ref r1), .val (.ref r1)] [(.ref b1), (.ref b0)])) _
    refine st70 _ ?_
    show Steps p.tables e below (T70.setTop (mkF m 47 #[.val (.ref r0), .val (.ref r1), .val (.ref r1)] [(.int (0 : Int32))])) _
    refine XS.ifYes X70.here hx rfl (pc0 := 47) (pc' := 54) rfl (hb hby d2_47) rfl ((if0 _ _).trans (teq (by decide : (0 : Int32) = (0 : Int32))).1) (by decide) (by decide) ?_
    show Steps p.tables e below (T70.setTop (mkF m 54 #[.val (.ref r0), .val (.ref r1), .val (.ref r1)] [])) _
    refine XS.iconst X70.here hx rfl (hb hby d2_54) ?_
    show Steps p.tables e below (T70.setTop (mkF m 55 #[.val (.ref r0), .val (.ref r1), .val (.ref r1)] [(.int (0 : Int32))])) _
    exact retN X70 hx (t := .boolean) Bd.returns (by simp) (hb hby d2_55) hr
  · show own_QETJ Z u r0 r1 b0 k0 b1 k1 h0 n0 _ T70.heap _
    rw [e70]
    exact ⟨rfl, N70, rfl⟩
theorem d4_0 : decode prog_2_method_1_code 0 = .ok (.getstatic 10, 3) := by decide +kernel
theorem d4_3 : decode prog_2_method_1_code 3 = .ok (.invokevirtual 14, 3) := by decide +kernel
theorem d4_6 : decode prog_2_method_1_code 6 = .ok (.checkcast 15, 3) := by decide +kernel
theorem d4_9 : decode prog_2_method_1_code 9 = .ok (.areturn, 1) := by decide +kernel
theorem own_pn_4 : plainName "com/example/resolvent/resolvent/cli/OutputFormat" = true := by first | (simp [plainName, overriddenIn]; done) | decide +kernel
theorem own_ef_4 (m : MethodId)  : entryFrame m #[] 0 = mkF m 0 #[] [] := by first | (simp [entryFrame, mkF, argsToLocals, Value.category]; done) | rfl
def own_Q4 (Z : State) (u : Nat → Addr)  (h0 : Heap) (n0 : Nat) (v : Option Value) (h : Heap) (L : List Loc) : Prop := ∃ b : Addr, v = some (.ref b) ∧ Fr n0 L ∧ Ext h0 h ∧ n0 ≤ b ∧ h0.size ≤ b ∧ ∃ k, Arv Z h b k (.object "com/example/resolvent/resolvent/cli/OutputFormat") (2 : Int32) [.ref (u 0), .ref (u 2)] .null
set_option maxRecDepth 65536 in
set_option maxHeartbeats 40000000 in
theorem rm4 (l : Launch) (Z : State) (a0 : Array Value) (hw : ∀ d ∈ tables_1, d.before a0 Z = true) (ws : List Jvm.Cond) (u : Nat → Addr)  (B : own_Base Z u) (h0 : Heap) (n0 : Nat) (O : Old Z n0 h0) :
    MetFree l (⟨"com/example/resolvent/resolvent/cli/OutputFormat", "values", "()[Lcom/example/resolvent/resolvent/cli/OutputFormat;"⟩ : MethodName) (head1 (Jvm.Cond.code (⟨"com/example/resolvent/resolvent/cli/OutputFormat", "values", "()[Lcom/example/resolvent/resolvent/cli/OutputFormat;"⟩ : MethodName) prog_2_method_1_code 0 (some (.array (.object "com/example/resolvent/resolvent/cli/OutputFormat"))) :: ws) ({ frames := 1, cells := 1, slots := 2, locals := 14 } : Room)) (fun a U => a = #[] ∧ Z.Warmed39 U.vm ∧ U.heap = h0) (fun _ _ _ _ _ => True) (fun _ U o U' => ∃ v L, o = .returned v ∧ own_Q4 Z u  h0 n0 v U'.heap L ∧ FrameEnd U o U' L ({ frames := 1, cells := 1, slots := 2, locals := 14 } : Room).cells ({ frames := 1, cells := 1, slots := 2, locals := 14 } : Room).slots) := by
  refine MetFree.of_bodySF (plainFor_of_name own_pn_4) hisR ?_
  intro p e s m args below meth c s₁ Bd hml0 hP hK
  obtain ⟨rfl, hZ, hh⟩ := hP
  have hx := Bd.exec
  have hby := Bd.bytes
  have hml : c.maxLocals = 0 := hml0
  have hown : s.vm.findClass "com/example/resolvent/resolvent/cli/OutputFormat" = some m.cls := findClass_of_methodNamed Bd.named
  have hnm := (name_of_methodNamed Bd.named Bd.method).1
  have X0 : Stand p l e ({ frames := 1, cells := 1, slots := 2, locals := 14 } : Room) s m #[] below meth c s₁ [] 0 0 := Stand.of_body Bd
  have e0 : s₁.heap = h0 := by rw [← hh, Bd.state]; rfl
  have N0 := Fr.nil n0
  have K0 := Keep.refl h0 []
  have Z0 : n0 ≤ h0.size := O.1 ▸ O.2.1
  have pre0 : ∀ t, Steps p.tables e below (s₁.setTop (mkF m 0 #[] [])) t → Steps p.tables e below (s₁.setTop (entryFrame m #[] 0)) t := fun t k => castTop (own_ef_4 m ) k
  obtain ⟨T72, X72, e72, st72⟩ := getS2 X0 hx hZ hown (host := "") (Or.inl (hw _ (List.mem_of_getElem? (i := 29) rfl))) Via.refl e0 (B.2.2.1.ext O.2) (g := (mkF m 0 #[] [])) rfl (hb hby d4_0)
  obtain ⟨kA1, VA1⟩ := id B.2.2.2.2.2.2.2.1
  obtain ⟨T73, h73, X73, e73, E73, A73, G73, st73⟩ := cloneH X72 hx hZ hown (hw _ (List.mem_of_getElem? (i := 31) rfl)) (hw _ (List.mem_of_getElem? (i := 32) rfl)) (hw _ (List.mem_of_getElem? (i := 36) rfl)) (hw _ (List.mem_of_getElem? (i := 34) rfl)) (hw _ (List.mem_of_getElem? (i := 35) rfl)) (hw _ (List.mem_of_getElem? (i := 37) rfl)) e72 (Arv.arh (VA1.ext O.2)) (B.2.2.2.1.ext O.2) (g := (mkF m 3 #[] [(.ref (u 1))])) rfl (by rw [hml]; rfl) rfl (hb hby d4_3) (by decide) (W := 0) (cap := 2) (by show 2 * 0 + _ ≤ _; exact Nat.le_of_eq rfl) (by decide) (by decide) (by decide) (by decide)
  obtain ⟨b73, g73⟩ : ∃ z, z = h0.size := ⟨_, rfl⟩
  rw [← g73] at A73 G73 st73
  have gx_b73 : n0 ≤ b73 := Nat.le_trans (O.1 ▸ O.2.1) (Nat.le_of_eq g73.symm)
  have sz_b73 : h0.size ≤ b73 := Nat.le_trans K0.1 (Nat.le_of_eq g73.symm)
  have O73 := O.ext E73
  have K73 := K0.ext E73
  have V_b73 : Arv Z h73 b73 kA1 (.object "com/example/resolvent/resolvent/cli/OutputFormat") (2 : Int32) [.ref (u 0), .ref (u 2)] .null := A73
  obtain ⟨T74, X74, e74, st74⟩ := castY X73 hx hZ hown (hw _ (List.mem_of_getElem? (i := 40) rfl)) e73 (Ins.self G73) (g := (mkF m 6 #[] [(.ref b73)])) rfl rfl (hb hby d4_6)
  obtain ⟨fs, hr, hrun, hended, hW, hsame⟩ := X74.leave (v := some (.ref b73)) (fun h => by rw [Bd.returns] at h; cases h)
  refine ⟨_, _, pre0 _ ?_, hrun, hended, _, _, rfl, ?_, ⟨_, rfl⟩, hW, hsame.mono (by decide) (by decide)⟩
  · show Steps p.tables e below (s₁.setTop (mkF m 0 #[] [])) _
    refine st72 _ ?_
    show Steps p.tables e below (T72.setTop (mkF m 3 #[] [(.ref (u 1))])) _
    refine st73 _ ?_
    show Steps p.tables e below (T73.setTop (mkF m 6 #[] [(.ref b73)])) _
    refine st74 _ ?_
    show Steps p.tables e below (T74.setTop (mkF m 9 #[] [(.ref b73)])) _
    exact retOut X74 hx Bd.returns (own_narref rfl rfl) (Or.inr (Or.inr (Or.inr (Or.inr ⟨rfl, rfl, rfl⟩)))) (hb hby d4_9) hr
  · show own_Q4 Z u  h0 n0 _ T74.heap _
    rw [e74]
    exact ⟨b73, rfl, N0, own_ext K73, gx_b73, sz_b73, _, V_b73⟩
theorem d1_0 : decode prog_2_method_5_code 0 = .ok (.aload_n 0, 1) := by decide +kernel
theorem d1_1 : decode prog_2_method_5_code 1 = .ok (.getstatic 3, 3) := by decide +kernel
theorem d1_4 : decode prog_2_method_5_code 4 = .ok (.if_acmp .ne 8, 3) := by decide +kernel
theorem d1_7 : decode prog_2_method_5_code 7 = .ok (.ldc 57, 2) := by decide +kernel
theorem d1_9 : decode prog_2_method_5_code 9 = .ok (.goto 5, 3) := by decide +kernel
theorem d1_14 : decode prog_2_method_5_code 14 = .ok (.areturn, 1) := by decide +kernel
theorem own_pn_1 : plainName "com/example/resolvent/resolvent/cli/OutputFormat" = true := by first | (simp [plainName, overriddenIn]; done) | decide +kernel
theorem own_ef_ST (m : MethodId) (x0 : Addr) : entryFrame m #[(.ref x0)] 1 = mkF m 0 #[.val (.ref x0)] [] := by first | (simp [entryFrame, mkF, argsToLocals, Value.category]; done) | rfl
def own_QST (Z : State) (u : Nat → Addr)  (h0 : Heap) (n0 : Nat) (v : Option Value) (h : Heap) (L : List Loc) : Prop := ∃ (a b : Addr) (k : ClassId), v = some (.ref a) ∧ Fr n0 L ∧ Ext h0 h ∧ Exa Z h a "java/lang/String" ∧ Fld Z h a "java/lang/String" "coder" "B" (.int (0 : Int32)) ∧ Fld Z h a "java/lang/String" "value" "[B" (.ref b) ∧ Arv Z h b k .byte (4 : Int32) [.int (116 : Int32), .int (101 : Int32), .int (120 : Int32), .int (116 : Int32)] (.int (0 : Int32))
set_option maxRecDepth 65536 in
set_option maxHeartbeats 40000000 in
theorem rmST (l : Launch) (Z : State) (a0 : Array Value) (hw : ∀ d ∈ tables_1, d.before a0 Z = true) (ws : List Jvm.Cond) (u : Nat → Addr)  (B : own_Base Z u) (h0 : Heap) (n0 : Nat) (O : Old Z n0 h0) :
    MetFree l (⟨"com/example/resolvent/resolvent/cli/OutputFormat", "toString", "()Ljava/lang/String;"⟩ : MethodName) (head1 (Jvm.Cond.code (⟨"com/example/resolvent/resolvent/cli/OutputFormat", "toString", "()Ljava/lang/String;"⟩ : MethodName) prog_2_method_5_code 1 (some (.object "java/lang/String")) :: ws) ({ frames := 0, cells := 2, slots := 20, locals := 0 } : Room)) (fun a U => a = #[(.ref (u 0))] ∧ Z.Warmed39 U.vm ∧ U.heap = h0 ∧ CHv Z consts_1 U.vm h0) (fun _ _ _ _ _ => True) (fun _ U o U' => ∃ v L, o = .returned v ∧ own_QST Z u  h0 n0 v U'.heap L ∧ CHr Z consts_1 U.vm U.heap U'.vm U'.heap ∧ ReturnedEndW U o U' L ({ frames := 0, cells := 2, slots := 20, locals := 0 } : Room).cells ({ frames := 0, cells := 2, slots := 20, locals := 0 } : Room).slots) := by
  refine MetFree.of_bodySF (plainFor_of_name own_pn_1) hisR ?_
  intro p e s m args below meth c s₁ Bd hml0 hP hK
  obtain ⟨rfl, hZ, hh, hCH⟩ := hP
  have hx := Bd.exec
  have hby := Bd.bytes
  have hml : c.maxLocals = 1 := hml0
  have hown : s.vm.findClass "com/example/resolvent/resolvent/cli/OutputFormat" = some m.cls := findClass_of_methodNamed Bd.named
  have hnm := (name_of_methodNamed Bd.named Bd.method).1
  have X0 : Stand p l e ({ frames := 0, cells := 2, slots := 20, locals := 0 } : Room) s m #[(.ref (u 0))] below meth c s₁ [] 0 0 := Stand.of_body Bd
  have X0 : Stand p l e ({ frames := 0, cells := 2, slots := 20, locals := 0 } : Room) (s.setVm s.vm) m #[(.ref (u 0))] below meth c s₁ [] 0 0 := X0
  have hS := (State.WarmedH.refl s).since h0.size
  have hk0 : h0.size ≤ h0.size := Nat.le_refl _
  have C0 : CHr Z consts_1 s.vm h0 s.vm h0 := CHr.refl hCH
  have hEL := own_ew hw
  have hWS := own_wS hw
  have e0 : s₁.heap = h0 := by rw [← hh, Bd.state]; rfl
  have N0 := Fr.nil n0
  have K0 := Keep.refl h0 []
  have Z0 : n0 ≤ h0.size := O.1 ▸ O.2.1
  have pre0 : ∀ t, Steps p.tables e below (s₁.setTop (mkF m 0 #[.val (.ref (u 0))] [])) t → Steps p.tables e below (s₁.setTop (entryFrame m #[(.ref (u 0))] 1)) t := fun t k => castTop (own_ef_ST m (u 0)) k
  obtain ⟨T76, X76, e76, st76⟩ := getS2 X0 hx hZ hown (host := "") (Or.inl (hw _ (List.mem_of_getElem? (i := 16) rfl))) Via.refl e0 (B.1.ext O.2) (g := (mkF m 1 #[.val (.ref (u 0))] [(.ref (u 0))])) rfl (hb hby d1_1)
  have pre77 : ∀ t, Steps p.tables e below (T76.setTop (mkF m 7 #[.val (.ref (u 0))] [])) t → Steps p.tables e below (s₁.setTop (entryFrame m #[(.ref (u 0))] 1)) t := fun t kt => pre0 t (by
    show Steps p.tables e below (s₁.setTop (mkF m 0 #[.val (.ref (u 0))] [])) _
    refine XS.aloadN X0.here hx rfl (hb hby d1_0) rfl rfl ?_
    show Steps p.tables e below (s₁.setTop (mkF m 1 #[.val (.ref (u 0))] [(.ref (u 0))])) _
    refine st76 _ ?_
    show Steps p.tables e below (T76.setTop (mkF m 4 #[.val (.ref (u 0))] [(.ref (u 0)), (.ref (u 0))])) _
    refine Jvm.RoadKit.acmp (g := (mkF m 4 #[.val (.ref (u 0))] [(.ref (u 0)), (.ref (u 0))])) X76 hx rfl rfl rfl (pc0 := 4) (pc' := 7) (same := true) rfl (hb hby d1_4) rfl (decide_eq_true rfl) (by decide) (by decide) ?_
    exact kt)
  obtain ⟨a78, T78, h78, kk78, b78, kb78, X78, e78, E78, hS, hk78, hZ, hown, G78, Fc78, Fv78, V78, -, -, Cx78, -, -, st78⟩ := ldcCH (s := s) (vm0 := s.vm) X76 hx hZ hown (hw _ (List.mem_of_getElem? (i := 17) rfl)) hWS e76 hS hk0 hEL (List.mem_of_getElem? (i := 0) rfl) C0.1 (vs := [.int (116 : Int32), .int (101 : Int32), .int (120 : Int32), .int (116 : Int32)]) (z := (4 : Int32)) (by decide +kernel) (by decide) (by decide) (g := (mkF m 7 #[.val (.ref (u 0))] [])) rfl (hb hby d1_7) (n := 16) (by decide +kernel) (by decide) (by decide) (by decide)
  have C78 := C0.trans Cx78
  have O78 := O.ext E78
  have K78 := K0.ext E78
  obtain ⟨fs, hr, hrun, hended, hRW⟩ := Stand.leaveW (s := s) (vm₁ := T78.vm) X78 hS (by rw [e78]; exact hk78) (v := some (.ref a78)) (fun h => by rw [Bd.returns] at h; cases h)
  refine ⟨_, _, pre77 _ ?_, hrun, hended, _, _, rfl, ?_, ?_, ⟨hRW.1, hRW.2.1, hRW.2.2.1, hRW.2.2.2.mono (by decide) (by decide)⟩⟩
  · show Steps p.tables e below (T76.setTop (mkF m 7 #[.val (.ref (u 0))] [])) _
    refine st78 _ ?_
    show Steps p.tables e below (T78.setTop (mkF m 9 #[.val (.ref (u 0))] [(.ref a78)])) _
    refine XS.goto X78.here hx rfl (pc0 := 9) (pc' := 14) rfl (hb hby d1_9) (by decide) (by decide) ?_
    show Steps p.tables e below (T78.setTop (mkF m 14 #[.val (.ref (u 0))] [(.ref a78)])) _
    exact retOut X78 hx Bd.returns (own_narref rfl rfl) (Or.inr (Or.inr (Or.inr (Or.inr ⟨rfl, rfl, rfl⟩)))) (hb hby d1_14) hr
  · show own_QST Z u  h0 n0 _ T78.heap _
    rw [e78]
    exact ⟨a78, b78, kb78, rfl, N0, own_ext K78, G78, Fc78, Fv78, V78⟩
  · show CHr Z consts_1 s.vm s.heap T78.vm T78.heap
    rw [hh, e78]
    exact C78.trans (CHv.at (s := s) (vm0 := T78.vm) X78 hZ hEL C78.1)
theorem d1_12 : decode prog_2_method_5_code 12 = .ok (.ldc 59, 2) := by decide +kernel
theorem own_ef_SJ (m : MethodId) (x0 : Addr) : entryFrame m #[(.ref x0)] 1 = mkF m 0 #[.val (.ref x0)] [] := by first | (simp [entryFrame, mkF, argsToLocals, Value.category]; done) | rfl
def own_QSJ (Z : State) (u : Nat → Addr)  (h0 : Heap) (n0 : Nat) (v : Option Value) (h : Heap) (L : List Loc) : Prop := ∃ (a b : Addr) (k : ClassId), v = some (.ref a) ∧ Fr n0 L ∧ Ext h0 h ∧ Exa Z h a "java/lang/String" ∧ Fld Z h a "java/lang/String" "coder" "B" (.int (0 : Int32)) ∧ Fld Z h a "java/lang/String" "value" "[B" (.ref b) ∧ Arv Z h b k .byte (4 : Int32) [.int (106 : Int32), .int (115 : Int32), .int (111 : Int32), .int (110 : Int32)] (.int (0 : Int32))
set_option maxRecDepth 65536 in
set_option maxHeartbeats 40000000 in
theorem rmSJ (l : Launch) (Z : State) (a0 : Array Value) (hw : ∀ d ∈ tables_1, d.before a0 Z = true) (ws : List Jvm.Cond) (u : Nat → Addr)  (B : own_Base Z u) (h0 : Heap) (n0 : Nat) (O : Old Z n0 h0) :
    MetFree l (⟨"com/example/resolvent/resolvent/cli/OutputFormat", "toString", "()Ljava/lang/String;"⟩ : MethodName) (head1 (Jvm.Cond.code (⟨"com/example/resolvent/resolvent/cli/OutputFormat", "toString", "()Ljava/lang/String;"⟩ : MethodName) prog_2_method_5_code 1 (some (.object "java/lang/String")) :: ws) ({ frames := 0, cells := 2, slots := 20, locals := 0 } : Room)) (fun a U => a = #[(.ref (u 2))] ∧ Z.Warmed39 U.vm ∧ U.heap = h0 ∧ CHv Z consts_1 U.vm h0) (fun _ _ _ _ _ => True) (fun _ U o U' => ∃ v L, o = .returned v ∧ own_QSJ Z u  h0 n0 v U'.heap L ∧ CHr Z consts_1 U.vm U.heap U'.vm U'.heap ∧ ReturnedEndW U o U' L ({ frames := 0, cells := 2, slots := 20, locals := 0 } : Room).cells ({ frames := 0, cells := 2, slots := 20, locals := 0 } : Room).slots) := by
  refine MetFree.of_bodySF (plainFor_of_name own_pn_1) hisR ?_
  intro p e s m args below meth c s₁ Bd hml0 hP hK
  obtain ⟨rfl, hZ, hh, hCH⟩ := hP
  have hx := Bd.exec
  have hby := Bd.bytes
  have hml : c.maxLocals = 1 := hml0
  have hown : s.vm.findClass "com/example/resolvent/resolvent/cli/OutputFormat" = some m.cls := findClass_of_methodNamed Bd.named
  have hnm := (name_of_methodNamed Bd.named Bd.method).1
  have X0 : Stand p l e ({ frames := 0, cells := 2, slots := 20, locals := 0 } : Room) s m #[(.ref (u 2))] below meth c s₁ [] 0 0 := Stand.of_body Bd
  have X0 : Stand p l e ({ frames := 0, cells := 2, slots := 20, locals := 0 } : Room) (s.setVm s.vm) m #[(.ref (u 2))] below meth c s₁ [] 0 0 := X0
  have hS := (State.WarmedH.refl s).since h0.size
  have hk0 : h0.size ≤ h0.size := Nat.le_refl _
  have C0 : CHr Z consts_1 s.vm h0 s.vm h0 := CHr.refl hCH
  have hEL := own_ew hw
  have hWS := own_wS hw
  have e0 : s₁.heap = h0 := by rw [← hh, Bd.state]; rfl
  have N0 := Fr.nil n0
  have K0 := Keep.refl h0 []
  have Z0 : n0 ≤ h0.size := O.1 ▸ O.2.1
  have pre0 : ∀ t, Steps p.tables e below (s₁.setTop (mkF m 0 #[.val (.ref (u 2))] [])) t → Steps p.tables e below (s₁.setTop (entryFrame m #[(.ref (u 2))] 1)) t := fun t k => castTop (own_ef_SJ m (u 2)) k
  obtain ⟨T80, X80, e80, st80⟩ := getS2 X0 hx hZ hown (host := "") (Or.inl (hw _ (List.mem_of_getElem? (i := 16) rfl))) Via.refl e0 (B.1.ext O.2) (g := (mkF m 1 #[.val (.ref (u 2))] [(.ref (u 2))])) rfl (hb hby d1_1)
  have pre81 : ∀ t, Steps p.tables e below (T80.setTop (mkF m 12 #[.val (.ref (u 2))] [])) t → Steps p.tables e below (s₁.setTop (entryFrame m #[(.ref (u 2))] 1)) t := fun t kt => pre0 t (by
    show Steps p.tables e below (s₁.setTop (mkF m 0 #[.val (.ref (u 2))] [])) _
    refine XS.aloadN X0.here hx rfl (hb hby d1_0) rfl rfl ?_
    show Steps p.tables e below (s₁.setTop (mkF m 1 #[.val (.ref (u 2))] [(.ref (u 2))])) _
    refine st80 _ ?_
    show Steps p.tables e below (T80.setTop (mkF m 4 #[.val (.ref (u 2))] [(.ref (u 0)), (.ref (u 2))])) _
    refine Jvm.RoadKit.acmp (g := (mkF m 4 #[.val (.ref (u 2))] [(.ref (u 0)), (.ref (u 2))])) X80 hx rfl rfl rfl (pc0 := 4) (pc' := 12) (same := false) rfl (hb hby d1_4) rfl (decide_eq_false fun q => ((Fld.ne B.2.2.2.2.2.2.2.2.1 B.2.2.2.2.2.2.1 (by decide)) : ¬ ((u 2) = (u 0))) (Value.ref.inj q)) (by decide) (by decide) ?_
    exact kt)
  obtain ⟨a82, T82, h82, kk82, b82, kb82, X82, e82, E82, hS, hk82, hZ, hown, G82, Fc82, Fv82, V82, -, -, Cx82, -, -, st82⟩ := ldcCH (s := s) (vm0 := s.vm) X80 hx hZ hown (hw _ (List.mem_of_getElem? (i := 46) rfl)) hWS e80 hS hk0 hEL (List.mem_of_getElem? (i := 1) rfl) C0.1 (vs := [.int (106 : Int32), .int (115 : Int32), .int (111 : Int32), .int (110 : Int32)]) (z := (4 : Int32)) (by decide +kernel) (by decide) (by decide) (g := (mkF m 12 #[.val (.ref (u 2))] [])) rfl (hb hby d1_12) (n := 16) (by decide +kernel) (by decide) (by decide) (by decide)
  have C82 := C0.trans Cx82
  have O82 := O.ext E82
  have K82 := K0.ext E82
  obtain ⟨fs, hr, hrun, hended, hRW⟩ := Stand.leaveW (s := s) (vm₁ := T82.vm) X82 hS (by rw [e82]; exact hk82) (v := some (.ref a82)) (fun h => by rw [Bd.returns] at h; cases h)
  refine ⟨_, _, pre81 _ ?_, hrun, hended, _, _, rfl, ?_, ?_, ⟨hRW.1, hRW.2.1, hRW.2.2.1, hRW.2.2.2.mono (by decide) (by decide)⟩⟩
  · show Steps p.tables e below (T80.setTop (mkF m 12 #[.val (.ref (u 2))] [])) _
    refine st82 _ ?_
    show Steps p.tables e below (T82.setTop (mkF m 14 #[.val (.ref (u 2))] [(.ref a82)])) _
    exact retOut X82 hx Bd.returns (own_narref rfl rfl) (Or.inr (Or.inr (Or.inr (Or.inr ⟨rfl, rfl, rfl⟩)))) (hb hby d1_14) hr
  · show own_QSJ Z u  h0 n0 _ T82.heap _
    rw [e82]
    exact ⟨a82, b82, kb82, rfl, N0, own_ext K82, G82, Fc82, Fv82, V82⟩
  · show CHr Z consts_1 s.vm s.heap T82.vm T82.heap
    rw [hh, e82]
    exact C82.trans (CHv.at (s := s) (vm0 := T82.vm) X82 hZ hEL C82.1)
theorem d3_0 : decode prog_2_method_4_code 0 = .ok (.invokestatic 29, 3) := by decide +kernel
theorem d3_3 : decode prog_2_method_4_code 3 = .ok (.astore_n 1, 1) := by decide +kernel
theorem d3_4 : decode prog_2_method_4_code 4 = .ok (.aload_n 1, 1) := by decide +kernel
theorem d3_5 : decode prog_2_method_4_code 5 = .ok (.arraylength, 1) := by decide +kernel
theorem d3_6 : decode prog_2_method_4_code 6 = .ok (.istore_n 2, 1) := by decide +kernel
theorem d3_7 : decode prog_2_method_4_code 7 = .ok (.iconst 0, 1) := by decide +kernel
theorem d3_8 : decode prog_2_method_4_code 8 = .ok (.istore_n 3, 1) := by decide +kernel
theorem d3_9 : decode prog_2_method_4_code 9 = .ok (.iload_n 3, 1) := by decide +kernel
theorem d3_10 : decode prog_2_method_4_code 10 = .ok (.iload_n 2, 1) := by decide +kernel
theorem d3_11 : decode prog_2_method_4_code 11 = .ok (.if_icmp .ge 29, 3) := by decide +kernel
theorem d3_14 : decode prog_2_method_4_code 14 = .ok (.aload_n 1, 1) := by decide +kernel
theorem d3_15 : decode prog_2_method_4_code 15 = .ok (.iload_n 3, 1) := by decide +kernel
theorem d3_16 : decode prog_2_method_4_code 16 = .ok (.aaload, 1) := by decide +kernel
theorem d3_17 : decode prog_2_method_4_code 17 = .ok (.astore 4, 2) := by decide +kernel
theorem d3_19 : decode prog_2_method_4_code 19 = .ok (.aload 4, 2) := by decide +kernel
theorem d3_21 : decode prog_2_method_4_code 21 = .ok (.invokevirtual 33, 3) := by decide +kernel
theorem d3_24 : decode prog_2_method_4_code 24 = .ok (.aload_n 0, 1) := by decide +kernel
theorem d3_25 : decode prog_2_method_4_code 25 = .ok (.invokevirtual 37, 3) := by decide +kernel
theorem d3_28 : decode prog_2_method_4_code 28 = .ok (.ifCond .eq 6, 3) := by decide +kernel
theorem d3_31 : decode prog_2_method_4_code 31 = .ok (.aload 4, 2) := by decide +kernel
theorem d3_33 : decode prog_2_method_4_code 33 = .ok (.areturn, 1) := by decide +kernel
theorem own_pn_3 : plainName "com/example/resolvent/resolvent/cli/OutputFormat" = true := by first | (simp [plainName, overriddenIn]; done) | decide +kernel
theorem own_ef_PT (m : MethodId) (x0 : Addr) : entryFrame m #[(.ref x0)] 5 = mkF m 0 #[.val (.ref x0), .unset, .unset, .unset, .unset] [] := by first | (simp [entryFrame, mkF, argsToLocals, Value.category]; done) | rfl
def own_QPT (Z : State) (u : Nat → Addr) (r0 : Addr) (b0 : Addr) (k0 : ClassId) (h0 : Heap) (n0 : Nat) (v : Option Value) (h : Heap) (L : List Loc) : Prop := v = some (.ref (u 0)) ∧ Fr n0 L ∧ Ext h0 h
set_option maxRecDepth 65536 in
set_option maxHeartbeats 40000000 in
theorem rmPT (l : Launch) (Z : State) (a0 : Array Value) (hw : ∀ d ∈ tables_1, d.before a0 Z = true) (ws : List Jvm.Cond) (u : Nat → Addr) (r0 : Addr) (b0 : Addr) (k0 : ClassId) (B : own_Base Z u) (h0 : Heap) (n0 : Nat) (O : Old Z n0 h0) (hX0 : Exa Z h0 r0 "java/lang/String") (hc0 : Fld Z h0 r0 "java/lang/String" "coder" "B" (.int (0 : Int32))) (hv0 : Fld Z h0 r0 "java/lang/String" "value" "[B" (.ref b0)) (hA0 : Arv Z h0 b0 k0 .byte (4 : Int32) [.int (116 : Int32), .int (101 : Int32), .int (120 : Int32), .int (116 : Int32)] (.int (0 : Int32))) :
    MetFree l (⟨"com/example/resolvent/resolvent/cli/OutputFormat", "parse", "(Ljava/lang/String;)Lcom/example/resolvent/resolvent/cli/OutputFormat;"⟩ : MethodName) (head1 (Jvm.Cond.code (⟨"com/example/resolvent/resolvent/cli/OutputFormat", "parse", "(Ljava/lang/String;)Lcom/example/resolvent/resolvent/cli/OutputFormat;"⟩ : MethodName) prog_2_method_4_code 5 (some (.object "com/example/resolvent/resolvent/cli/OutputFormat")) :: ws) ({ frames := 2, cells := 3, slots := 22, locals := 28 } : Room)) (fun a U => a = #[(.ref r0)] ∧ Z.Warmed39 U.vm ∧ U.heap = h0 ∧ CHv Z consts_1 U.vm h0) (fun _ _ _ _ _ => True) (fun _ U o U' => ∃ v L, o = .returned v ∧ own_QPT Z u r0 b0 k0 h0 n0 v U'.heap L ∧ CHr Z consts_1 U.vm U.heap U'.vm U'.heap ∧ ReturnedEndW U o U' L ({ frames := 2, cells := 3, slots := 22, locals := 28 } : Room).cells ({ frames := 2, cells := 3, slots := 22, locals := 28 } : Room).slots) := by
  refine MetFree.of_bodySF (plainFor_of_name own_pn_3) hisR ?_
  intro p e s m args below meth c s₁ Bd hml0 hP hK
  obtain ⟨rfl, hZ, hh, hCH⟩ := hP
  have hx := Bd.exec
  have hby := Bd.bytes
  have hml : c.maxLocals = 5 := hml0
  have hown : s.vm.findClass "com/example/resolvent/resolvent/cli/OutputFormat" = some m.cls := findClass_of_methodNamed Bd.named
  have hnm := (name_of_methodNamed Bd.named Bd.method).1
  have X0 : Stand p l e ({ frames := 2, cells := 3, slots := 22, locals := 28 } : Room) s m #[(.ref r0)] below meth c s₁ [] 0 0 := Stand.of_body Bd
  have X0 : Stand p l e ({ frames := 2, cells := 3, slots := 22, locals := 28 } : Room) (s.setVm s.vm) m #[(.ref r0)] below meth c s₁ [] 0 0 := X0
  have hS := (State.WarmedH.refl s).since h0.size
  have hk0 : h0.size ≤ h0.size := Nat.le_refl _
  have C0 : CHr Z consts_1 s.vm h0 s.vm h0 := CHr.refl hCH
  have hEL := own_ew hw
  have hWS := own_wS hw
  have e0 : s₁.heap = h0 := by rw [← hh, Bd.state]; rfl
  have N0 := Fr.nil n0
  have K0 := Keep.refl h0 []
  have Z0 : n0 ≤ h0.size := O.1 ▸ O.2.1
  have pre0 : ∀ t, Steps p.tables e below (s₁.setTop (mkF m 0 #[.val (.ref r0), .unset, .unset, .unset, .unset] [])) t → Steps p.tables e below (s₁.setTop (entryFrame m #[(.ref r0)] 5)) t := fun t k => castTop (own_ef_PT m r0) k
  obtain ⟨vr84, _, ⟨T84, L84, k84, n84⟩, -, X84, ⟨Lc84, hQ84, l84, y84, z84⟩, st84⟩ := Jvm.LawKit.callS X0 hx (y := (⟨"com/example/resolvent/resolvent/cli/OutputFormat", "values", "()[Lcom/example/resolvent/resolvent/cli/OutputFormat;"⟩ : MethodName)) hown (mvT hZ (hw _ (List.mem_of_getElem? (i := 26) rfl))) (mvT hZ (hw _ (List.mem_of_getElem? (i := 27) rfl))) (mvT hZ (hw _ (List.mem_of_getElem? (i := 1) rfl))) (mvT hZ (hw _ (List.mem_of_getElem? (i := 28) rfl))) (by decide) (backOf (W := 0) (rm4 l Z a0 hw [] u  B h0 n0 O ) hZ (hw _ (List.mem_of_getElem? (i := 28) rfl)) (hw _ (List.mem_of_getElem? (i := 1) rfl)) (by decide) (by decide)) (g := (mkF m 0 #[.val (.ref r0), .unset, .unset, .unset, .unset] [])) rfl (by rw [hml]; rfl) (argsL := []) (rest := []) (lenOf own_pd1 rfl) rfl (by show 2 * 0 + _ ≤ _; exact Nat.le_of_eq rfl) (hb hby d3_0) (fun _ _ => ⟨rfl, e0, (by decide : 0 + 1 ≤ _), (by decide : 0 + 2 ≤ _)⟩)
  dsimp only [Pt.U, Pt.locs, Pt.cells, Pt.slots] at X84 l84 y84 z84 st84 hQ84
  subst l84 y84 z84
  obtain ⟨b84, rfl, N84q, E84, gx_b84, zz84, k84v, V_b84⟩ := hQ84
  have N84 := Fr.app N0 N84q
  have sz_b84 : h0.size ≤ b84 := Nat.le_trans K0.1 zz84
  have ne85 : r0 ≠ b84 := Nat.ne_of_lt (Nat.lt_of_lt_of_le hX0.lt zz84)
  have ne86 : b0 ≠ b84 := Nat.ne_of_lt (Nat.lt_of_lt_of_le hA0.lt zz84)
  have O84 := O.ext E84
  have K84 := K0.ext E84
  have f87 := hX0.ext E84
  have f88 := hc0.ext E84
  have f89 := hv0.ext E84
  have f90 := hA0.ext E84
  have hk84 := Nat.le_trans hk0 E84.1
  have C84 := C0.trans (CHr.ext E84 C0.1)
  obtain ⟨cl91, Ar91, -, S91, N91, -, -⟩ := id V_b84
  obtain ⟨cl92, Ar92, -, S92, N92, H92, -⟩ := id V_b84
  have hin92 : ¬ ((0 : Int32) < 0 ∨ cl92.slots.size ≤ ((0 : Int32)).toNatClampNeg) := inb_of S92 ⟨by decide, by decide⟩
  have pre93 : ∀ t, Steps p.tables e below (T84.setTop (mkF m 21 #[.val (.ref r0), .val (.ref b84), .val (.int (2 : Int32)), .val (.int (0 : Int32)), .val (.ref (u 0))] [(.ref (u 0))])) t → Steps p.tables e below (s₁.setTop (entryFrame m #[(.ref r0)] 5)) t := fun t kt => pre0 t (by
    show Steps p.tables e below (s₁.setTop (mkF m 0 #[.val (.ref r0), .unset, .unset, .unset, .unset] [])) _
    refine st84 _ ?_
    show Steps p.tables e below (T84.setTop (mkF m 3 #[.val (.ref r0), .unset, .unset, .unset, .unset] [(.ref b84)])) _
    refine XS.astoreN X84.here hx rfl (hb hby d3_3) rfl rfl (l' := #[.val (.ref r0), .val (.ref b84), .unset, .unset, .unset]) rfl ?_
    show Steps p.tables e below (T84.setTop (mkF m 4 #[.val (.ref r0), .val (.ref b84), .unset, .unset, .unset] [])) _
    refine XS.aloadN X84.here hx rfl (hb hby d3_4) rfl rfl ?_
    show Steps p.tables e below (T84.setTop (mkF m 5 #[.val (.ref r0), .val (.ref b84), .unset, .unset, .unset] [(.ref b84)])) _
    refine X84.arraylength hx Ar91.1 (State.isArrayOf_alike hZ.alike Ar91.2.1) (g := (mkF m 5 #[.val (.ref r0), .val (.ref b84), .unset, .unset, .unset] [(.ref b84)])) rfl rfl (hb hby d3_5) _ ?_
    rw [len_of S91 N91]
    show Steps p.tables e below (T84.setTop (mkF m 6 #[.val (.ref r0), .val (.ref b84), .unset, .unset, .unset] [(.int (2 : Int32))])) _
    refine XS.istoreN X84.here hx rfl (hb hby d3_6) rfl (l' := #[.val (.ref r0), .val (.ref b84), .val (.int (2 : Int32)), .unset, .unset]) rfl ?_
    show Steps p.tables e below (T84.setTop (mkF m 7 #[.val (.ref r0), .val (.ref b84), .val (.int (2 : Int32)), .unset, .unset] [])) _
    refine XS.iconst X84.here hx rfl (hb hby d3_7) ?_
    show Steps p.tables e below (T84.setTop (mkF m 8 #[.val (.ref r0), .val (.ref b84), .val (.int (2 : Int32)), .unset, .unset] [(.int (0 : Int32))])) _
    refine XS.istoreN X84.here hx rfl (hb hby d3_8) rfl (l' := #[.val (.ref r0), .val (.ref b84), .val (.int (2 : Int32)), .val (.int (0 : Int32)), .unset]) rfl ?_
    show Steps p.tables e below (T84.setTop (mkF m 9 #[.val (.ref r0), .val (.ref b84), .val (.int (2 : Int32)), .val (.int (0 : Int32)), .unset] [])) _
    refine XS.iloadN X84.here hx rfl (hb hby d3_9) rfl ?_
    show Steps p.tables e below (T84.setTop (mkF m 10 #[.val (.ref r0), .val (.ref b84), .val (.int (2 : Int32)), .val (.int (0 : Int32)), .unset] [(.int (0 : Int32))])) _
    refine XS.iloadN X84.here hx rfl (hb hby d3_10) rfl ?_
    show Steps p.tables e below (T84.setTop (mkF m 11 #[.val (.ref r0), .val (.ref b84), .val (.int (2 : Int32)), .val (.int (0 : Int32)), .unset] [(.int (2 : Int32)), (.int (0 : Int32))])) _
    refine XS.icmpNo X84.here hx rfl (hb hby d3_11) rfl (tlt (by decide : (0 : Int32) < (2 : Int32))).2.1 ?_
    show Steps p.tables e below (T84.setTop (mkF m 14 #[.val (.ref r0), .val (.ref b84), .val (.int (2 : Int32)), .val (.int (0 : Int32)), .unset] [])) _
    refine XS.aloadN X84.here hx rfl (hb hby d3_14) rfl rfl ?_
    show Steps p.tables e below (T84.setTop (mkF m 15 #[.val (.ref r0), .val (.ref b84), .val (.int (2 : Int32)), .val (.int (0 : Int32)), .unset] [(.ref b84)])) _
    refine XS.iloadN X84.here hx rfl (hb hby d3_15) rfl ?_
    show Steps p.tables e below (T84.setTop (mkF m 16 #[.val (.ref r0), .val (.ref b84), .val (.int (2 : Int32)), .val (.int (0 : Int32)), .unset] [(.int (0 : Int32)), (.ref b84)])) _
    refine X84.aaload hx (j := (0 : Int32)) (v := (.ref (u 0))) Ar92.1 (State.isArrayOf_alike hZ.alike Ar92.2.1) rfl Ar92.2.2 hin92 (H92.at hin92 rfl) (g := (mkF m 16 #[.val (.ref r0), .val (.ref b84), .val (.int (2 : Int32)), .val (.int (0 : Int32)), .unset] [(.int (0 : Int32)), (.ref b84)])) rfl rfl (hb hby d3_16) _ ?_
    show Steps p.tables e below (T84.setTop (mkF m 17 #[.val (.ref r0), .val (.ref b84), .val (.int (2 : Int32)), .val (.int (0 : Int32)), .unset] [(.ref (u 0))])) _
    refine XS.astore X84.here hx rfl (hb hby d3_17) rfl rfl (l' := #[.val (.ref r0), .val (.ref b84), .val (.int (2 : Int32)), .val (.int (0 : Int32)), .val (.ref (u 0))]) rfl ?_
    show Steps p.tables e below (T84.setTop (mkF m 19 #[.val (.ref r0), .val (.ref b84), .val (.int (2 : Int32)), .val (.int (0 : Int32)), .val (.ref (u 0))] [])) _
    refine XS.aload X84.here hx rfl (hb hby d3_19) rfl rfl ?_
    exact kt)
  obtain ⟨cq94, kq94, q94a, q94b, q94c⟩ := isOf hZ rfl (B.2.1.ext O84.2)
  obtain ⟨vr94, _, ⟨T94, L94, k94, n94⟩, -, X94, hs94, hG94, ⟨Lc94, hQ94, l94, y94, z94, Cx94⟩, st94⟩ := X84.virtualBackS hx (y := (⟨"com/example/resolvent/resolvent/cli/OutputFormat", "toString", "()Ljava/lang/String;"⟩ : MethodName)) (z := (⟨"com/example/resolvent/resolvent/cli/OutputFormat", "toString", "()Ljava/lang/String;"⟩ : MethodName)) hown (mvT hZ (hw _ (List.mem_of_getElem? (i := 42) rfl))) (mvT hZ (hw _ (List.mem_of_getElem? (i := 12) rfl))) (notFace_of_selects (args := #[]) (mvT hZ (hw _ (List.mem_of_getElem? (i := 14) rfl)))) (mvT hZ (hw _ (List.mem_of_getElem? (i := 14) rfl))) (mvT hZ (hw _ (List.mem_of_getElem? (i := 13) rfl))) (by decide) (backOfSH (s := s) (vm0 := s.vm) (W := 0) (rmST l Z a0 hw [] u  B T84.heap n0 O84 ) hZ (hw _ (List.mem_of_getElem? (i := 15) rfl)) (hw _ (List.mem_of_getElem? (i := 1) rfl)) (by decide) (by decide) hEL C84.1) q94a q94c (g := (mkF m 21 #[.val (.ref r0), .val (.ref b84), .val (.int (2 : Int32)), .val (.int (0 : Int32)), .val (.ref (u 0))] [(.ref (u 0))])) rfl (by rw [hml]; rfl) (Steps.refl _) (argsL := []) (rest := []) (lenOf own_pd2 rfl) rfl (by show 2 * 0 + _ ≤ _; exact Nat.le_of_eq rfl) (hb hby d3_21) (fun _ _ => ⟨rfl, rfl, (by decide : 1 + 2 ≤ _), (by decide : 2 + 20 ≤ _)⟩)
  dsimp only [Pt.U, Pt.locs, Pt.cells, Pt.slots] at X94 l94 y94 z94 st94 hQ94 hs94 hG94 Cx94
  subst l94 y94 z94
  have X94 : Stand p l e ({ frames := 2, cells := 3, slots := 22, locals := 28 } : Room) (s.setVm T94.vm) m #[(.ref r0)] below meth c T94 _ _ _ := X94
  have hZ : Z.Warmed39 (s.setVm T94.vm).vm := State.Warmed39.trans (t := s.setVm s.vm) hZ hs94.1
  have hown : (s.setVm T94.vm).vm.findClass "com/example/resolvent/resolvent/cli/OutputFormat" = some m.cls := by rw [show (s.setVm T94.vm).vm = T94.vm from rfl, hs94.1.alike.findClass]; exact hown
  have hS := foldS (s := s) (vm0 := s.vm) (T := T84) hS hk84 hs94 hG94
  have hk94 : T94.heap.size ≤ T94.heap.size := Nat.le_refl _
  have C94 := C84.trans Cx94
  obtain ⟨a94, b94, kb94, rfl, N94q, E94, G94, Fc94, Fv94, V94⟩ := hQ94
  have N94 := Fr.app N84 N94q
  have O94 := O84.ext E94
  have K94 := K84.ext E94
  have f95 := f87.ext E94
  have f96 := f88.ext E94
  have f97 := f89.ext E94
  have f98 := f90.ext E94
  have f99 := V_b84.ext E94
  obtain ⟨cq100, kq100, q100a, q100b, q100c⟩ := isOf hZ rfl G94
  obtain ⟨vr100, _, ⟨T100, L100, k100, n100⟩, -, X100, ⟨Lc100, hQ100, l100, y100, z100⟩, st100⟩ := X94.virtualBack hx (y := (⟨"java/lang/String", "equals", "(Ljava/lang/Object;)Z"⟩ : MethodName)) (z := (⟨"java/lang/String", "equals", "(Ljava/lang/Object;)Z"⟩ : MethodName)) hown (mvT hZ (hw _ (List.mem_of_getElem? (i := 43) rfl))) (mvT hZ (hw _ (List.mem_of_getElem? (i := 19) rfl))) (notFace_of_selects (args := #[]) (mvT hZ (hw _ (List.mem_of_getElem? (i := 21) rfl)))) (mvT hZ (hw _ (List.mem_of_getElem? (i := 21) rfl))) (mvT hZ (hw _ (List.mem_of_getElem? (i := 20) rfl))) (by decide) (backOf (W := 0) (rmETT l Z a0 hw [] u a94 r0 b94 kb94 b0 k0 B T94.heap n0 O94 G94 Fc94 Fv94 V94 f95 f96 f97 f98) hZ (hw _ (List.mem_of_getElem? (i := 22) rfl)) (hw _ (List.mem_of_getElem? (i := 4) rfl)) (by decide) (by decide)) q100a q100c (g := (mkF m 25 #[.val (.ref r0), .val (.ref b84), .val (.int (2 : Int32)), .val (.int (0 : Int32)), .val (.ref (u 0))] [(.ref r0), (.ref a94)])) rfl (by rw [hml]; rfl) (Steps.refl _) (argsL := [(.ref r0)]) (rest := []) (lenOf own_pd3 rfl) rfl (by show 2 * 0 + _ ≤ _; exact Nat.le_of_eq rfl) (hb hby d3_25) (fun _ _ => ⟨rfl, rfl, (by decide : 3 + 0 ≤ _), (by decide : 22 + 0 ≤ _)⟩)
  dsimp only [Pt.U, Pt.locs, Pt.cells, Pt.slots] at X100 l100 y100 z100 st100 hQ100
  subst l100 y100 z100
  obtain ⟨rfl, N100q, e100⟩ := hQ100
  have N100 := Fr.app N94 N100q
  obtain ⟨fs, hr, hrun, hended, hRW⟩ := Stand.leaveW (s := s) (vm₁ := T94.vm) X100 hS (by rw [e100]; exact hk94) (v := some (.ref (u 0))) (fun h => by rw [Bd.returns] at h; cases h)
  refine ⟨_, _, pre93 _ ?_, hrun, hended, _, _, rfl, ?_, ?_, ⟨hRW.1, hRW.2.1, hRW.2.2.1, hRW.2.2.2.mono (by decide) (by decide)⟩⟩
  · show Steps p.tables e below (T84.setTop (mkF m 21 #[.val (.ref r0), .val (.ref b84), .val (.int (2 : Int32)), .val (.int (0 : Int32)), .val (.ref (u 0))] [(.ref (u 0))])) _
    refine st94.trans ?_
    show Steps p.tables e below (T94.setTop (mkF m 24 #[.val (.ref r0), .val (.ref b84), .val (.int (2 : Int32)), .val (.int (0 : Int32)), .val (.ref (u 0))] [(.ref a94)])) _
    refine XS.aloadN X94.here hx rfl (hb hby d3_24) rfl rfl ?_
    show Steps p.tables e below (T94.setTop (mkF m 25 #[.val (.ref r0), .val (.ref b84), .val (.int (2 : Int32)), .val (.int (0 : Int32)), .val (.ref (u 0))] [(.ref r0), (.ref a94)])) _
    refine st100.trans ?_
    show Steps p.tables e below (T100.setTop (mkF m 28 #[.val (.ref r0), .val (.ref b84), .val (.int (2 : Int32)), .val (.int (0 : Int32)), .val (.ref (u 0))] [(.int (1 : Int32))])) _
    refine XS.ifNo X100.here hx rfl (hb hby d3_28) rfl ((if0 _ _).trans (feq (by decide : ¬ ((1 : Int32) = (0 : Int32)))).1) ?_
    show Steps p.tables e below (T100.setTop (mkF m 31 #[.val (.ref r0), .val (.ref b84), .val (.int (2 : Int32)), .val (.int (0 : Int32)), .val (.ref (u 0))] [])) _
    refine XS.aload X100.here hx rfl (hb hby d3_31) rfl rfl ?_
    show Steps p.tables e below (T100.setTop (mkF m 33 #[.val (.ref r0), .val (.ref b84), .val (.int (2 : Int32)), .val (.int (0 : Int32)), .val (.ref (u 0))] [(.ref (u 0))])) _
    exact retOut X100 hx Bd.returns (own_narref rfl rfl) (Or.inr (Or.inr (Or.inr (Or.inr ⟨rfl, rfl, rfl⟩)))) (hb hby d3_33) hr
  · show own_QPT Z u r0 b0 k0 h0 n0 _ T100.heap _
    rw [e100]
    exact ⟨rfl, N100, own_ext K94⟩
  · show CHr Z consts_1 s.vm s.heap T100.vm T100.heap
    rw [hh, e100]
    exact C94.trans (CHv.at (s := s) (vm0 := T94.vm) X100 hZ hEL C94.1)
theorem d3_34 : decode prog_2_method_4_code 34 = .ok (.iinc 3 1, 3) := by decide +kernel
theorem d3_37 : decode prog_2_method_4_code 37 = .ok (.goto (-28), 3) := by decide +kernel
theorem own_ef_PJ (m : MethodId) (x0 : Addr) : entryFrame m #[(.ref x0)] 5 = mkF m 0 #[.val (.ref x0), .unset, .unset, .unset, .unset] [] := by first | (simp [entryFrame, mkF, argsToLocals, Value.category]; done) | rfl
def own_QPJ (Z : State) (u : Nat → Addr) (r0 : Addr) (b0 : Addr) (k0 : ClassId) (h0 : Heap) (n0 : Nat) (v : Option Value) (h : Heap) (L : List Loc) : Prop := v = some (.ref (u 2)) ∧ Fr n0 L ∧ Ext h0 h
set_option maxRecDepth 65536 in
set_option maxHeartbeats 40000000 in
theorem rmPJ (l : Launch) (Z : State) (a0 : Array Value) (hw : ∀ d ∈ tables_1, d.before a0 Z = true) (ws : List Jvm.Cond) (u : Nat → Addr) (r0 : Addr) (b0 : Addr) (k0 : ClassId) (B : own_Base Z u) (h0 : Heap) (n0 : Nat) (O : Old Z n0 h0) (hX0 : Exa Z h0 r0 "java/lang/String") (hc0 : Fld Z h0 r0 "java/lang/String" "coder" "B" (.int (0 : Int32))) (hv0 : Fld Z h0 r0 "java/lang/String" "value" "[B" (.ref b0)) (hA0 : Arv Z h0 b0 k0 .byte (4 : Int32) [.int (106 : Int32), .int (115 : Int32), .int (111 : Int32), .int (110 : Int32)] (.int (0 : Int32))) :
    MetFree l (⟨"com/example/resolvent/resolvent/cli/OutputFormat", "parse", "(Ljava/lang/String;)Lcom/example/resolvent/resolvent/cli/OutputFormat;"⟩ : MethodName) (head1 (Jvm.Cond.code (⟨"com/example/resolvent/resolvent/cli/OutputFormat", "parse", "(Ljava/lang/String;)Lcom/example/resolvent/resolvent/cli/OutputFormat;"⟩ : MethodName) prog_2_method_4_code 5 (some (.object "com/example/resolvent/resolvent/cli/OutputFormat")) :: ws) ({ frames := 2, cells := 5, slots := 42, locals := 28 } : Room)) (fun a U => a = #[(.ref r0)] ∧ Z.Warmed39 U.vm ∧ U.heap = h0 ∧ CHv Z consts_1 U.vm h0) (fun _ _ _ _ _ => True) (fun _ U o U' => ∃ v L, o = .returned v ∧ own_QPJ Z u r0 b0 k0 h0 n0 v U'.heap L ∧ CHr Z consts_1 U.vm U.heap U'.vm U'.heap ∧ ReturnedEndW U o U' L ({ frames := 2, cells := 5, slots := 42, locals := 28 } : Room).cells ({ frames := 2, cells := 5, slots := 42, locals := 28 } : Room).slots) := by
  refine MetFree.of_bodySF (plainFor_of_name own_pn_3) hisR ?_
  intro p e s m args below meth c s₁ Bd hml0 hP hK
  obtain ⟨rfl, hZ, hh, hCH⟩ := hP
  have hx := Bd.exec
  have hby := Bd.bytes
  have hml : c.maxLocals = 5 := hml0
  have hown : s.vm.findClass "com/example/resolvent/resolvent/cli/OutputFormat" = some m.cls := findClass_of_methodNamed Bd.named
  have hnm := (name_of_methodNamed Bd.named Bd.method).1
  have X0 : Stand p l e ({ frames := 2, cells := 5, slots := 42, locals := 28 } : Room) s m #[(.ref r0)] below meth c s₁ [] 0 0 := Stand.of_body Bd
  have X0 : Stand p l e ({ frames := 2, cells := 5, slots := 42, locals := 28 } : Room) (s.setVm s.vm) m #[(.ref r0)] below meth c s₁ [] 0 0 := X0
  have hS := (State.WarmedH.refl s).since h0.size
  have hk0 : h0.size ≤ h0.size := Nat.le_refl _
  have C0 : CHr Z consts_1 s.vm h0 s.vm h0 := CHr.refl hCH
  have hEL := own_ew hw
  have hWS := own_wS hw
  have e0 : s₁.heap = h0 := by rw [← hh, Bd.state]; rfl
  have N0 := Fr.nil n0
  have K0 := Keep.refl h0 []
  have Z0 : n0 ≤ h0.size := O.1 ▸ O.2.1
  have pre0 : ∀ t, Steps p.tables e below (s₁.setTop (mkF m 0 #[.val (.ref r0), .unset, .unset, .unset, .unset] [])) t → Steps p.tables e below (s₁.setTop (entryFrame m #[(.ref r0)] 5)) t := fun t k => castTop (own_ef_PJ m r0) k
  obtain ⟨vr102, _, ⟨T102, L102, k102, n102⟩, -, X102, ⟨Lc102, hQ102, l102, y102, z102⟩, st102⟩ := Jvm.LawKit.callS X0 hx (y := (⟨"com/example/resolvent/resolvent/cli/OutputFormat", "values", "()[Lcom/example/resolvent/resolvent/cli/OutputFormat;"⟩ : MethodName)) hown (mvT hZ (hw _ (List.mem_of_getElem? (i := 26) rfl))) (mvT hZ (hw _ (List.mem_of_getElem? (i := 27) rfl))) (mvT hZ (hw _ (List.mem_of_getElem? (i := 1) rfl))) (mvT hZ (hw _ (List.mem_of_getElem? (i := 28) rfl))) (by decide) (backOf (W := 0) (rm4 l Z a0 hw [] u  B h0 n0 O ) hZ (hw _ (List.mem_of_getElem? (i := 28) rfl)) (hw _ (List.mem_of_getElem? (i := 1) rfl)) (by decide) (by decide)) (g := (mkF m 0 #[.val (.ref r0), .unset, .unset, .unset, .unset] [])) rfl (by rw [hml]; rfl) (argsL := []) (rest := []) (lenOf own_pd1 rfl) rfl (by show 2 * 0 + _ ≤ _; exact Nat.le_of_eq rfl) (hb hby d3_0) (fun _ _ => ⟨rfl, e0, (by decide : 0 + 1 ≤ _), (by decide : 0 + 2 ≤ _)⟩)
  dsimp only [Pt.U, Pt.locs, Pt.cells, Pt.slots] at X102 l102 y102 z102 st102 hQ102
  subst l102 y102 z102
  obtain ⟨b102, rfl, N102q, E102, gx_b102, zz102, k102v, V_b102⟩ := hQ102
  have N102 := Fr.app N0 N102q
  have sz_b102 : h0.size ≤ b102 := Nat.le_trans K0.1 zz102
  have ne103 : r0 ≠ b102 := Nat.ne_of_lt (Nat.lt_of_lt_of_le hX0.lt zz102)
  have ne104 : b0 ≠ b102 := Nat.ne_of_lt (Nat.lt_of_lt_of_le hA0.lt zz102)
  have O102 := O.ext E102
  have K102 := K0.ext E102
  have f105 := hX0.ext E102
  have f106 := hc0.ext E102
  have f107 := hv0.ext E102
  have f108 := hA0.ext E102
  have hk102 := Nat.le_trans hk0 E102.1
  have C102 := C0.trans (CHr.ext E102 C0.1)
  obtain ⟨cl109, Ar109, -, S109, N109, -, -⟩ := id V_b102
  obtain ⟨cl110, Ar110, -, S110, N110, H110, -⟩ := id V_b102
  have hin110 : ¬ ((0 : Int32) < 0 ∨ cl110.slots.size ≤ ((0 : Int32)).toNatClampNeg) := inb_of S110 ⟨by decide, by decide⟩
  have pre111 : ∀ t, Steps p.tables e below (T102.setTop (mkF m 21 #[.val (.ref r0), .val (.ref b102), .val (.int (2 : Int32)), .val (.int (0 : Int32)), .val (.ref (u 0))] [(.ref (u 0))])) t → Steps p.tables e below (s₁.setTop (entryFrame m #[(.ref r0)] 5)) t := fun t kt => pre0 t (by
    show Steps p.tables e below (s₁.setTop (mkF m 0 #[.val (.ref r0), .unset, .unset, .unset, .unset] [])) _
    refine st102 _ ?_
    show Steps p.tables e below (T102.setTop (mkF m 3 #[.val (.ref r0), .unset, .unset, .unset, .unset] [(.ref b102)])) _
    refine XS.astoreN X102.here hx rfl (hb hby d3_3) rfl rfl (l' := #[.val (.ref r0), .val (.ref b102), .unset, .unset, .unset]) rfl ?_
    show Steps p.tables e below (T102.setTop (mkF m 4 #[.val (.ref r0), .val (.ref b102), .unset, .unset, .unset] [])) _
    refine XS.aloadN X102.here hx rfl (hb hby d3_4) rfl rfl ?_
    show Steps p.tables e below (T102.setTop (mkF m 5 #[.val (.ref r0), .val (.ref b102), .unset, .unset, .unset] [(.ref b102)])) _
    refine X102.arraylength hx Ar109.1 (State.isArrayOf_alike hZ.alike Ar109.2.1) (g := (mkF m 5 #[.val (.ref r0), .val (.ref b102), .unset, .unset, .unset] [(.ref b102)])) rfl rfl (hb hby d3_5) _ ?_
    rw [len_of S109 N109]
    show Steps p.tables e below (T102.setTop (mkF m 6 #[.val (.ref r0), .val (.ref b102), .unset, .unset, .unset] [(.int (2 : Int32))])) _
    refine XS.istoreN X102.here hx rfl (hb hby d3_6) rfl (l' := #[.val (.ref r0), .val (.ref b102), .val (.int (2 : Int32)), .unset, .unset]) rfl ?_
    show Steps p.tables e below (T102.setTop (mkF m 7 #[.val (.ref r0), .val (.ref b102), .val (.int (2 : Int32)), .unset, .unset] [])) _
    refine XS.iconst X102.here hx rfl (hb hby d3_7) ?_
    show Steps p.tables e below (T102.setTop (mkF m 8 #[.val (.ref r0), .val (.ref b102), .val (.int (2 : Int32)), .unset, .unset] [(.int (0 : Int32))])) _
    refine XS.istoreN X102.here hx rfl (hb hby d3_8) rfl (l' := #[.val (.ref r0), .val (.ref b102), .val (.int (2 : Int32)), .val (.int (0 : Int32)), .unset]) rfl ?_
    show Steps p.tables e below (T102.setTop (mkF m 9 #[.val (.ref r0), .val (.ref b102), .val (.int (2 : Int32)), .val (.int (0 : Int32)), .unset] [])) _
    refine XS.iloadN X102.here hx rfl (hb hby d3_9) rfl ?_
    show Steps p.tables e below (T102.setTop (mkF m 10 #[.val (.ref r0), .val (.ref b102), .val (.int (2 : Int32)), .val (.int (0 : Int32)), .unset] [(.int (0 : Int32))])) _
    refine XS.iloadN X102.here hx rfl (hb hby d3_10) rfl ?_
    show Steps p.tables e below (T102.setTop (mkF m 11 #[.val (.ref r0), .val (.ref b102), .val (.int (2 : Int32)), .val (.int (0 : Int32)), .unset] [(.int (2 : Int32)), (.int (0 : Int32))])) _
    refine XS.icmpNo X102.here hx rfl (hb hby d3_11) rfl (tlt (by decide : (0 : Int32) < (2 : Int32))).2.1 ?_
    show Steps p.tables e below (T102.setTop (mkF m 14 #[.val (.ref r0), .val (.ref b102), .val (.int (2 : Int32)), .val (.int (0 : Int32)), .unset] [])) _
    refine XS.aloadN X102.here hx rfl (hb hby d3_14) rfl rfl ?_
    show Steps p.tables e below (T102.setTop (mkF m 15 #[.val (.ref r0), .val (.ref b102), .val (.int (2 : Int32)), .val (.int (0 : Int32)), .unset] [(.ref b102)])) _
    refine XS.iloadN X102.here hx rfl (hb hby d3_15) rfl ?_
    show Steps p.tables e below (T102.setTop (mkF m 16 #[.val (.ref r0), .val (.ref b102), .val (.int (2 : Int32)), .val (.int (0 : Int32)), .unset] [(.int (0 : Int32)), (.ref b102)])) _
    refine X102.aaload hx (j := (0 : Int32)) (v := (.ref (u 0))) Ar110.1 (State.isArrayOf_alike hZ.alike Ar110.2.1) rfl Ar110.2.2 hin110 (H110.at hin110 rfl) (g := (mkF m 16 #[.val (.ref r0), .val (.ref b102), .val (.int (2 : Int32)), .val (.int (0 : Int32)), .unset] [(.int (0 : Int32)), (.ref b102)])) rfl rfl (hb hby d3_16) _ ?_
    show Steps p.tables e below (T102.setTop (mkF m 17 #[.val (.ref r0), .val (.ref b102), .val (.int (2 : Int32)), .val (.int (0 : Int32)), .unset] [(.ref (u 0))])) _
    refine XS.astore X102.here hx rfl (hb hby d3_17) rfl rfl (l' := #[.val (.ref r0), .val (.ref b102), .val (.int (2 : Int32)), .val (.int (0 : Int32)), .val (.ref (u 0))]) rfl ?_
    show Steps p.tables e below (T102.setTop (mkF m 19 #[.val (.ref r0), .val (.ref b102), .val (.int (2 : Int32)), .val (.int (0 : Int32)), .val (.ref (u 0))] [])) _
    refine XS.aload X102.here hx rfl (hb hby d3_19) rfl rfl ?_
    exact kt)
  obtain ⟨cq112, kq112, q112a, q112b, q112c⟩ := isOf hZ rfl (B.2.1.ext O102.2)
  obtain ⟨vr112, _, ⟨T112, L112, k112, n112⟩, -, X112, hs112, hG112, ⟨Lc112, hQ112, l112, y112, z112, Cx112⟩, st112⟩ := X102.virtualBackS hx (y := (⟨"com/example/resolvent/resolvent/cli/OutputFormat", "toString", "()Ljava/lang/String;"⟩ : MethodName)) (z := (⟨"com/example/resolvent/resolvent/cli/OutputFormat", "toString", "()Ljava/lang/String;"⟩ : MethodName)) hown (mvT hZ (hw _ (List.mem_of_getElem? (i := 42) rfl))) (mvT hZ (hw _ (List.mem_of_getElem? (i := 12) rfl))) (notFace_of_selects (args := #[]) (mvT hZ (hw _ (List.mem_of_getElem? (i := 14) rfl)))) (mvT hZ (hw _ (List.mem_of_getElem? (i := 14) rfl))) (mvT hZ (hw _ (List.mem_of_getElem? (i := 13) rfl))) (by decide) (backOfSH (s := s) (vm0 := s.vm) (W := 0) (rmST l Z a0 hw [] u  B T102.heap n0 O102 ) hZ (hw _ (List.mem_of_getElem? (i := 15) rfl)) (hw _ (List.mem_of_getElem? (i := 1) rfl)) (by decide) (by decide) hEL C102.1) q112a q112c (g := (mkF m 21 #[.val (.ref r0), .val (.ref b102), .val (.int (2 : Int32)), .val (.int (0 : Int32)), .val (.ref (u 0))] [(.ref (u 0))])) rfl (by rw [hml]; rfl) (Steps.refl _) (argsL := []) (rest := []) (lenOf own_pd2 rfl) rfl (by show 2 * 0 + _ ≤ _; exact Nat.le_of_eq rfl) (hb hby d3_21) (fun _ _ => ⟨rfl, rfl, (by decide : 1 + 2 ≤ _), (by decide : 2 + 20 ≤ _)⟩)
  dsimp only [Pt.U, Pt.locs, Pt.cells, Pt.slots] at X112 l112 y112 z112 st112 hQ112 hs112 hG112 Cx112
  subst l112 y112 z112
  have X112 : Stand p l e ({ frames := 2, cells := 5, slots := 42, locals := 28 } : Room) (s.setVm T112.vm) m #[(.ref r0)] below meth c T112 _ _ _ := X112
  have hZ : Z.Warmed39 (s.setVm T112.vm).vm := State.Warmed39.trans (t := s.setVm s.vm) hZ hs112.1
  have hown : (s.setVm T112.vm).vm.findClass "com/example/resolvent/resolvent/cli/OutputFormat" = some m.cls := by rw [show (s.setVm T112.vm).vm = T112.vm from rfl, hs112.1.alike.findClass]; exact hown
  have hS := foldS (s := s) (vm0 := s.vm) (T := T102) hS hk102 hs112 hG112
  have hk112 : T112.heap.size ≤ T112.heap.size := Nat.le_refl _
  have C112 := C102.trans Cx112
  obtain ⟨a112, b112, kb112, rfl, N112q, E112, G112, Fc112, Fv112, V112⟩ := hQ112
  have N112 := Fr.app N102 N112q
  have O112 := O102.ext E112
  have K112 := K102.ext E112
  have f113 := f105.ext E112
  have f114 := f106.ext E112
  have f115 := f107.ext E112
  have f116 := f108.ext E112
  have f117 := V_b102.ext E112
  obtain ⟨cq118, kq118, q118a, q118b, q118c⟩ := isOf hZ rfl G112
  obtain ⟨vr118, _, ⟨T118, L118, k118, n118⟩, -, X118, ⟨Lc118, hQ118, l118, y118, z118⟩, st118⟩ := X112.virtualBack hx (y := (⟨"java/lang/String", "equals", "(Ljava/lang/Object;)Z"⟩ : MethodName)) (z := (⟨"java/lang/String", "equals", "(Ljava/lang/Object;)Z"⟩ : MethodName)) hown (mvT hZ (hw _ (List.mem_of_getElem? (i := 43) rfl))) (mvT hZ (hw _ (List.mem_of_getElem? (i := 19) rfl))) (notFace_of_selects (args := #[]) (mvT hZ (hw _ (List.mem_of_getElem? (i := 21) rfl)))) (mvT hZ (hw _ (List.mem_of_getElem? (i := 21) rfl))) (mvT hZ (hw _ (List.mem_of_getElem? (i := 20) rfl))) (by decide) (backOf (W := 0) (rmETJ l Z a0 hw [] u a112 r0 b112 kb112 b0 k0 B T112.heap n0 O112 G112 Fc112 Fv112 V112 f113 f114 f115 f116 (own_sne Fv112 V112 f115 f116)) hZ (hw _ (List.mem_of_getElem? (i := 22) rfl)) (hw _ (List.mem_of_getElem? (i := 4) rfl)) (by decide) (by decide)) q118a q118c (g := (mkF m 25 #[.val (.ref r0), .val (.ref b102), .val (.int (2 : Int32)), .val (.int (0 : Int32)), .val (.ref (u 0))] [(.ref r0), (.ref a112)])) rfl (by rw [hml]; rfl) (Steps.refl _) (argsL := [(.ref r0)]) (rest := []) (lenOf own_pd3 rfl) rfl (by show 2 * 0 + _ ≤ _; exact Nat.le_of_eq rfl) (hb hby d3_25) (fun _ _ => ⟨rfl, rfl, (by decide : 3 + 0 ≤ _), (by decide : 22 + 0 ≤ _)⟩)
  dsimp only [Pt.U, Pt.locs, Pt.cells, Pt.slots] at X118 l118 y118 z118 st118 hQ118
  subst l118 y118 z118
  obtain ⟨rfl, N118q, e118⟩ := hQ118
  have N118 := Fr.app N112 N118q
  obtain ⟨cl119, Ar119, -, S119, N119, H119, -⟩ := id f117
  have hin119 : ¬ ((1 : Int32) < 0 ∨ cl119.slots.size ≤ ((1 : Int32)).toNatClampNeg) := inb_of S119 ⟨by decide, by decide⟩
  have pre120 : ∀ t, Steps p.tables e below (T118.setTop (mkF m 21 #[.val (.ref r0), .val (.ref b102), .val (.int (2 : Int32)), .val (.int (1 : Int32)), .val (.ref (u 2))] [(.ref (u 2))])) t → Steps p.tables e below (s₁.setTop (entryFrame m #[(.ref r0)] 5)) t := fun t kt => pre111 t (by
    show Steps p.tables e below (T102.setTop (mkF m 21 #[.val (.ref r0), .val (.ref b102), .val (.int (2 : Int32)), .val (.int (0 : Int32)), .val (.ref (u 0))] [(.ref (u 0))])) _
    refine st112.trans ?_
    show Steps p.tables e below (T112.setTop (mkF m 24 #[.val (.ref r0), .val (.ref b102), .val (.int (2 : Int32)), .val (.int (0 : Int32)), .val (.ref (u 0))] [(.ref a112)])) _
    refine XS.aloadN X112.here hx rfl (hb hby d3_24) rfl rfl ?_
    show Steps p.tables e below (T112.setTop (mkF m 25 #[.val (.ref r0), .val (.ref b102), .val (.int (2 : Int32)), .val (.int (0 : Int32)), .val (.ref (u 0))] [(.ref r0), (.ref a112)])) _
    refine st118.trans ?_
    show Steps p.tables e below (T118.setTop (mkF m 28 #[.val (.ref r0), .val (.ref b102), .val (.int (2 : Int32)), .val (.int (0 : Int32)), .val (.ref (u 0))] [(.int (0 : Int32))])) _
    refine XS.ifYes X118.here hx rfl (pc0 := 28) (pc' := 34) rfl (hb hby d3_28) rfl ((if0 _ _).trans (teq (by decide : (0 : Int32) = (0 : Int32))).1) (by decide) (by decide) ?_
    show Steps p.tables e below (T118.setTop (mkF m 34 #[.val (.ref r0), .val (.ref b102), .val (.int (2 : Int32)), .val (.int (0 : Int32)), .val (.ref (u 0))] [])) _
    refine XS.iinc X118.here hx rfl (hb hby d3_34) rfl (l' := #[.val (.ref r0), .val (.ref b102), .val (.int (2 : Int32)), .val (.int (1 : Int32)), .val (.ref (u 0))]) rfl ?_
    show Steps p.tables e below (T118.setTop (mkF m 37 #[.val (.ref r0), .val (.ref b102), .val (.int (2 : Int32)), .val (.int (1 : Int32)), .val (.ref (u 0))] [])) _
    refine XS.goto X118.here hx rfl (pc0 := 37) (pc' := 9) rfl (hb hby d3_37) (by decide) (by decide) ?_
    show Steps p.tables e below (T118.setTop (mkF m 9 #[.val (.ref r0), .val (.ref b102), .val (.int (2 : Int32)), .val (.int (1 : Int32)), .val (.ref (u 0))] [])) _
    refine XS.iloadN X118.here hx rfl (hb hby d3_9) rfl ?_
    show Steps p.tables e below (T118.setTop (mkF m 10 #[.val (.ref r0), .val (.ref b102), .val (.int (2 : Int32)), .val (.int (1 : Int32)), .val (.ref (u 0))] [(.int (1 : Int32))])) _
    refine XS.iloadN X118.here hx rfl (hb hby d3_10) rfl ?_
    show Steps p.tables e below (T118.setTop (mkF m 11 #[.val (.ref r0), .val (.ref b102), .val (.int (2 : Int32)), .val (.int (1 : Int32)), .val (.ref (u 0))] [(.int (2 : Int32)), (.int (1 : Int32))])) _
    refine XS.icmpNo X118.here hx rfl (hb hby d3_11) rfl (tlt (by decide : (1 : Int32) < (2 : Int32))).2.1 ?_
    show Steps p.tables e below (T118.setTop (mkF m 14 #[.val (.ref r0), .val (.ref b102), .val (.int (2 : Int32)), .val (.int (1 : Int32)), .val (.ref (u 0))] [])) _
    refine XS.aloadN X118.here hx rfl (hb hby d3_14) rfl rfl ?_
    show Steps p.tables e below (T118.setTop (mkF m 15 #[.val (.ref r0), .val (.ref b102), .val (.int (2 : Int32)), .val (.int (1 : Int32)), .val (.ref (u 0))] [(.ref b102)])) _
    refine XS.iloadN X118.here hx rfl (hb hby d3_15) rfl ?_
    show Steps p.tables e below (T118.setTop (mkF m 16 #[.val (.ref r0), .val (.ref b102), .val (.int (2 : Int32)), .val (.int (1 : Int32)), .val (.ref (u 0))] [(.int (1 : Int32)), (.ref b102)])) _
    refine X118.aaload hx (j := (1 : Int32)) (v := (.ref (u 2))) (by rw [e118]; exact Ar119.1) (State.isArrayOf_alike hZ.alike Ar119.2.1) rfl Ar119.2.2 hin119 (H119.at hin119 rfl) (g := (mkF m 16 #[.val (.ref r0), .val (.ref b102), .val (.int (2 : Int32)), .val (.int (1 : Int32)), .val (.ref (u 0))] [(.int (1 : Int32)), (.ref b102)])) rfl rfl (hb hby d3_16) _ ?_
    show Steps p.tables e below (T118.setTop (mkF m 17 #[.val (.ref r0), .val (.ref b102), .val (.int (2 : Int32)), .val (.int (1 : Int32)), .val (.ref (u 0))] [(.ref (u 2))])) _
    refine XS.astore X118.here hx rfl (hb hby d3_17) rfl rfl (l' := #[.val (.ref r0), .val (.ref b102), .val (.int (2 : Int32)), .val (.int (1 : Int32)), .val (.ref (u 2))]) rfl ?_
    show Steps p.tables e below (T118.setTop (mkF m 19 #[.val (.ref r0), .val (.ref b102), .val (.int (2 : Int32)), .val (.int (1 : Int32)), .val (.ref (u 2))] [])) _
    refine XS.aload X118.here hx rfl (hb hby d3_19) rfl rfl ?_
    exact kt)
  obtain ⟨cq121, kq121, q121a, q121b, q121c⟩ := isOf hZ e118 (B.2.2.2.2.2.1.ext O112.2)
  obtain ⟨vr121, _, ⟨T121, L121, k121, n121⟩, -, X121, hs121, hG121, ⟨Lc121, hQ121, l121, y121, z121, Cx121⟩, st121⟩ := X118.virtualBackS hx (y := (⟨"com/example/resolvent/resolvent/cli/OutputFormat", "toString", "()Ljava/lang/String;"⟩ : MethodName)) (z := (⟨"com/example/resolvent/resolvent/cli/OutputFormat", "toString", "()Ljava/lang/String;"⟩ : MethodName)) hown (mvT hZ (hw _ (List.mem_of_getElem? (i := 42) rfl))) (mvT hZ (hw _ (List.mem_of_getElem? (i := 12) rfl))) (notFace_of_selects (args := #[]) (mvT hZ (hw _ (List.mem_of_getElem? (i := 14) rfl)))) (mvT hZ (hw _ (List.mem_of_getElem? (i := 14) rfl))) (mvT hZ (hw _ (List.mem_of_getElem? (i := 13) rfl))) (by decide) (backOfSH (s := s) (vm0 := T112.vm) (W := 0) (rmSJ l Z a0 hw [] u  B T112.heap n0 O112 ) hZ (hw _ (List.mem_of_getElem? (i := 15) rfl)) (hw _ (List.mem_of_getElem? (i := 1) rfl)) (by decide) (by decide) hEL C112.1) q121a q121c (g := (mkF m 21 #[.val (.ref r0), .val (.ref b102), .val (.int (2 : Int32)), .val (.int (1 : Int32)), .val (.ref (u 2))] [(.ref (u 2))])) rfl (by rw [hml]; rfl) (Steps.refl _) (argsL := []) (rest := []) (lenOf own_pd2 rfl) rfl (by show 2 * 0 + _ ≤ _; exact Nat.le_of_eq rfl) (hb hby d3_21) (fun _ _ => ⟨rfl, e118, (by decide : 3 + 2 ≤ _), (by decide : 22 + 20 ≤ _)⟩)
  dsimp only [Pt.U, Pt.locs, Pt.cells, Pt.slots] at X121 l121 y121 z121 st121 hQ121 hs121 hG121 Cx121
  subst l121 y121 z121
  have X121 : Stand p l e ({ frames := 2, cells := 5, slots := 42, locals := 28 } : Room) (s.setVm T121.vm) m #[(.ref r0)] below meth c T121 _ _ _ := X121
  have hZ : Z.Warmed39 (s.setVm T121.vm).vm := State.Warmed39.trans (t := s.setVm T112.vm) hZ hs121.1
  have hown : (s.setVm T121.vm).vm.findClass "com/example/resolvent/resolvent/cli/OutputFormat" = some m.cls := by rw [show (s.setVm T121.vm).vm = T121.vm from rfl, hs121.1.alike.findClass]; exact hown
  have hS := foldS (s := s) (vm0 := T112.vm) (T := T118) hS (by rw [e118]; exact hk112) hs121 hG121
  have hk121 : T121.heap.size ≤ T121.heap.size := Nat.le_refl _
  have C121 := C112.trans Cx121
  obtain ⟨a121, b121, kb121, rfl, N121q, E121, G121, Fc121, Fv121, V121⟩ := hQ121
  have N121 := Fr.app N118 N121q
  have O121 := O112.ext E121
  have K121 := K112.ext E121
  have f122 := f113.ext E121
  have f123 := f114.ext E121
  have f124 := f115.ext E121
  have f125 := f116.ext E121
  have f126 := f117.ext E121
  have f127 := G112.ext E121
  have f128 := Fc112.ext E121
  have f129 := Fv112.ext E121
  have f130 := V112.ext E121
  obtain ⟨cq131, kq131, q131a, q131b, q131c⟩ := isOf hZ rfl G121
  obtain ⟨vr131, _, ⟨T131, L131, k131, n131⟩, -, X131, ⟨Lc131, hQ131, l131, y131, z131⟩, st131⟩ := X121.virtualBack hx (y := (⟨"java/lang/String", "equals", "(Ljava/lang/Object;)Z"⟩ : MethodName)) (z := (⟨"java/lang/String", "equals", "(Ljava/lang/Object;)Z"⟩ : MethodName)) hown (mvT hZ (hw _ (List.mem_of_getElem? (i := 43) rfl))) (mvT hZ (hw _ (List.mem_of_getElem? (i := 19) rfl))) (notFace_of_selects (args := #[]) (mvT hZ (hw _ (List.mem_of_getElem? (i := 21) rfl)))) (mvT hZ (hw _ (List.mem_of_getElem? (i := 21) rfl))) (mvT hZ (hw _ (List.mem_of_getElem? (i := 20) rfl))) (by decide) (backOf (W := 0) (rmEJJ l Z a0 hw [] u a121 r0 b121 kb121 b0 k0 B T121.heap n0 O121 G121 Fc121 Fv121 V121 f122 f123 f124 f125) hZ (hw _ (List.mem_of_getElem? (i := 22) rfl)) (hw _ (List.mem_of_getElem? (i := 4) rfl)) (by decide) (by decide)) q131a q131c (g := (mkF m 25 #[.val (.ref r0), .val (.ref b102), .val (.int (2 : Int32)), .val (.int (1 : Int32)), .val (.ref (u 2))] [(.ref r0), (.ref a121)])) rfl (by rw [hml]; rfl) (Steps.refl _) (argsL := [(.ref r0)]) (rest := []) (lenOf own_pd3 rfl) rfl (by show 2 * 0 + _ ≤ _; exact Nat.le_of_eq rfl) (hb hby d3_25) (fun _ _ => ⟨rfl, rfl, (by decide : 5 + 0 ≤ _), (by decide : 42 + 0 ≤ _)⟩)
  dsimp only [Pt.U, Pt.locs, Pt.cells, Pt.slots] at X131 l131 y131 z131 st131 hQ131
  subst l131 y131 z131
  obtain ⟨rfl, N131q, e131⟩ := hQ131
  have N131 := Fr.app N121 N131q
  obtain ⟨fs, hr, hrun, hended, hRW⟩ := Stand.leaveW (s := s) (vm₁ := T121.vm) X131 hS (by rw [e131]; exact hk121) (v := some (.ref (u 2))) (fun h => by rw [Bd.returns] at h; cases h)
  refine ⟨_, _, pre120 _ ?_, hrun, hended, _, _, rfl, ?_, ?_, ⟨hRW.1, hRW.2.1, hRW.2.2.1, hRW.2.2.2.mono (by decide) (by decide)⟩⟩
  · show Steps p.tables e below (T118.setTop (mkF m 21 #[.val (.ref r0), .val (.ref b102), .val (.int (2 : Int32)), .val (.int (1 : Int32)), .val (.ref (u 2))] [(.ref (u 2))])) _
    refine st121.trans ?_
    show Steps p.tables e below (T121.setTop (mkF m 24 #[.val (.ref r0), .val (.ref b102), .val (.int (2 : Int32)), .val (.int (1 : Int32)), .val (.ref (u 2))] [(.ref a121)])) _
    refine XS.aloadN X121.here hx rfl (hb hby d3_24) rfl rfl ?_
    show Steps p.tables e below (T121.setTop (mkF m 25 #[.val (.ref r0), .val (.ref b102), .val (.int (2 : Int32)), .val (.int (1 : Int32)), .val (.ref (u 2))] [(.ref r0), (.ref a121)])) _
    refine st131.trans ?_
    show Steps p.tables e below (T131.setTop (mkF m 28 #[.val (.ref r0), .val (.ref b102), .val (.int (2 : Int32)), .val (.int (1 : Int32)), .val (.ref (u 2))] [(.int (1 : Int32))])) _
    refine XS.ifNo X131.here hx rfl (hb hby d3_28) rfl ((if0 _ _).trans (feq (by decide : ¬ ((1 : Int32) = (0 : Int32)))).1) ?_
    show Steps p.tables e below (T131.setTop (mkF m 31 #[.val (.ref r0), .val (.ref b102), .val (.int (2 : Int32)), .val (.int (1 : Int32)), .val (.ref (u 2))] [])) _
    refine XS.aload X131.here hx rfl (hb hby d3_31) rfl rfl ?_
    show Steps p.tables e below (T131.setTop (mkF m 33 #[.val (.ref r0), .val (.ref b102), .val (.int (2 : Int32)), .val (.int (1 : Int32)), .val (.ref (u 2))] [(.ref (u 2))])) _
    exact retOut X131 hx Bd.returns (own_narref rfl rfl) (Or.inr (Or.inr (Or.inr (Or.inr ⟨rfl, rfl, rfl⟩)))) (hb hby d3_33) hr
  · show own_QPJ Z u r0 b0 k0 h0 n0 _ T131.heap _
    rw [e131]
    exact ⟨rfl, N131, own_ext K121⟩
  · show CHr Z consts_1 s.vm s.heap T131.vm T131.heap
    rw [hh, e131]
    exact C121.trans (CHv.at (s := s) (vm0 := T121.vm) X131 hZ hEL C121.1)
theorem own_pn_0 : plainName "com/example/resolvent/resolvent/cli/OutputFormatToStringPinLaw" = true := by first | (simp [plainName, overriddenIn]; done) | decide +kernel
theorem own_ef_0 (m : MethodId) (x0 : Int32) : entryFrame m #[(.int x0)] maxLocals = mkF m 0 #[.val (.int x0), .unset, .unset, .unset, .unset] [] := by first | (simp [entryFrame, mkF, argsToLocals, Value.category, maxLocals]; done) | rfl
def own_Q0 (Z : State) (u : Nat → Addr) (p0 : Int32) (h0 : Heap) (n0 : Nat) (v : Option Value) (h : Heap) (L : List Loc) : Prop := v = some (.int (1 : Int32)) ∧ Fr n0 L ∧ True
set_option maxRecDepth 65536 in
set_option maxHeartbeats 40000000 in
theorem rm0 (l : Launch) (Z : State) (a0 : Array Value) (hw : ∀ d ∈ tables_1, d.before a0 Z = true) (ws : List Jvm.Cond) (u : Nat → Addr) (p0 : Int32) (B : own_Base Z u) (h0 : Heap) (n0 : Nat) (O : Old Z n0 h0) :
    MetFree l x (head1 (Jvm.Cond.code x code maxLocals ret :: ws) room_1) (fun a U => a = #[(.int p0)] ∧ Z.Warmed39 U.vm ∧ U.heap = h0 ∧ CHv Z consts_1 U.vm h0) (fun _ _ _ _ _ => True) (fun _ U o U' => ∃ v L, o = .returned v ∧ own_Q0 Z u p0 h0 n0 v U'.heap L ∧ CHr Z consts_1 U.vm U.heap U'.vm U'.heap ∧ ReturnedEndW U o U' L room_1.cells room_1.slots) := by
  refine MetFree.of_bodySF (plainFor_of_name own_pn_0) hisR ?_
  intro p e s m args below meth c s₁ Bd hml0 hP hK
  obtain ⟨rfl, hZ, hh, hCH⟩ := hP
  have hx := Bd.exec
  have hby := Bd.bytes
  have hml : c.maxLocals = 5 := hml0
  have hown : s.vm.findClass "com/example/resolvent/resolvent/cli/OutputFormatToStringPinLaw" = some m.cls := findClass_of_methodNamed Bd.named
  have hnm := (name_of_methodNamed Bd.named Bd.method).1
  have X0 : Stand p l e room_1 s m #[(.int p0)] below meth c s₁ [] 0 0 := Stand.of_body Bd
  have X0 : Stand p l e room_1 (s.setVm s.vm) m #[(.int p0)] below meth c s₁ [] 0 0 := X0
  have hS := (State.WarmedH.refl s).since h0.size
  have hk0 : h0.size ≤ h0.size := Nat.le_refl _
  have C0 : CHr Z consts_1 s.vm h0 s.vm h0 := CHr.refl hCH
  have hEL := own_ew hw
  have hWS := own_wS hw
  have e0 : s₁.heap = h0 := by rw [← hh, Bd.state]; rfl
  have N0 := Fr.nil n0
  have K0 := Keep.refl h0 []
  have Z0 : n0 ≤ h0.size := O.1 ▸ O.2.1
  have pre0 : ∀ t, Steps p.tables e below (s₁.setTop (mkF m 0 #[.val (.int p0), .unset, .unset, .unset, .unset] [])) t → Steps p.tables e below (s₁.setTop (entryFrame m #[(.int p0)] maxLocals)) t := fun t k => castTop (own_ef_0 m p0) k
  have pre133 : ∀ t, Steps p.tables e below (s₁.setTop (mkF m 3 #[.val (.int p0), .unset, .unset, .unset, .unset] [(.int (p0 &&& (1 : Int32)))])) t → Steps p.tables e below (s₁.setTop (entryFrame m #[(.int p0)] maxLocals)) t := fun t kt => pre0 t (by
    show Steps p.tables e below (s₁.setTop (mkF m 0 #[.val (.int p0), .unset, .unset, .unset, .unset] [])) _
    refine XS.iloadN X0.here hx rfl (hb hby at_0) rfl ?_
    show Steps p.tables e below (s₁.setTop (mkF m 1 #[.val (.int p0), .unset, .unset, .unset, .unset] [(.int p0)])) _
    refine XS.iconst X0.here hx rfl (hb hby at_1) ?_
    show Steps p.tables e below (s₁.setTop (mkF m 2 #[.val (.int p0), .unset, .unset, .unset, .unset] [(.int (1 : Int32)), (.int p0)])) _
    refine XS.iand X0.here hx rfl (hb hby at_2) rfl ?_
    exact kt)
  by_cases hc134 : (p0 &&& (1 : Int32)) = (0 : Int32)
  · --
    obtain ⟨T135, X135, e135, st135⟩ := getS2 X0 hx hZ hown (host := "") (Or.inl (hw _ (List.mem_of_getElem? (i := 0) rfl))) Via.refl e0 (B.1.ext O.2) (g := (mkF m 22 #[.val (.int p0), .val (.int (0 : Int32)), .unset, .unset, .unset] [])) rfl (hb hby at_22)
    have pre136 : ∀ t, Steps p.tables e below (T135.setTop (mkF m 35 #[.val (.int p0), .val (.int (0 : Int32)), .val (.ref (u 0)), .unset, .unset] [])) t → Steps p.tables e below (s₁.setTop (entryFrame m #[(.int p0)] maxLocals)) t := fun t kt => pre133 t (by
      show Steps p.tables e below (s₁.setTop (mkF m 3 #[.val (.int p0), .unset, .unset, .unset, .unset] [(.int (p0 &&& (1 : Int32)))])) _
      refine XS.ifYes X0.here hx rfl (pc0 := 3) (pc' := 10) rfl (hb hby at_3) rfl ((if0 _ _).trans (teq hc134).1) (by decide) (by decide) ?_
      show Steps p.tables e below (s₁.setTop (mkF m 10 #[.val (.int p0), .unset, .unset, .unset, .unset] [])) _
      refine XS.iconst X0.here hx rfl (hb hby at_10) ?_
      show Steps p.tables e below (s₁.setTop (mkF m 11 #[.val (.int p0), .unset, .unset, .unset, .unset] [(.int (0 : Int32))])) _
      refine XS.istoreN X0.here hx rfl (hb hby at_11) rfl (l' := #[.val (.int p0), .val (.int (0 : Int32)), .unset, .unset, .unset]) rfl ?_
      show Steps p.tables e below (s₁.setTop (mkF m 12 #[.val (.int p0), .val (.int (0 : Int32)), .unset, .unset, .unset] [])) _
      refine XS.iloadN X0.here hx rfl (hb hby at_12) rfl ?_
      show Steps p.tables e below (s₁.setTop (mkF m 13 #[.val (.int p0), .val (.int (0 : Int32)), .unset, .unset, .unset] [(.int (0 : Int32))])) _
      refine XS.ifYes X0.here hx rfl (pc0 := 13) (pc' := 22) rfl (hb hby at_13) rfl ((if0 _ _).trans (teq (by decide : (0 : Int32) = (0 : Int32))).1) (by decide) (by decide) ?_
      show Steps p.tables e below (s₁.setTop (mkF m 22 #[.val (.int p0), .val (.int (0 : Int32)), .unset, .unset, .unset] [])) _
      refine st135 _ ?_
      show Steps p.tables e below (T135.setTop (mkF m 25 #[.val (.int p0), .val (.int (0 : Int32)), .unset, .unset, .unset] [(.ref (u 0))])) _
      refine XS.astoreN X135.here hx rfl (hb hby at_25) rfl rfl (l' := #[.val (.int p0), .val (.int (0 : Int32)), .val (.ref (u 0)), .unset, .unset]) rfl ?_
      show Steps p.tables e below (T135.setTop (mkF m 26 #[.val (.int p0), .val (.int (0 : Int32)), .val (.ref (u 0)), .unset, .unset] [])) _
      refine XS.iloadN X135.here hx rfl (hb hby at_26) rfl ?_
      show Steps p.tables e below (T135.setTop (mkF m 27 #[.val (.int p0), .val (.int (0 : Int32)), .val (.ref (u 0)), .unset, .unset] [(.int (0 : Int32))])) _
      refine XS.ifYes X135.here hx rfl (pc0 := 27) (pc' := 35) rfl (hb hby at_27) rfl ((if0 _ _).trans (teq (by decide : (0 : Int32) = (0 : Int32))).1) (by decide) (by decide) ?_
      exact kt)
    obtain ⟨a137, T137, h137, kk137, b137, kb137, X137, e137, E137, hS, hk137, hZ, hown, G137, Fc137, Fv137, V137, -, -, Cx137, -, -, st137⟩ := ldcCH (s := s) (vm0 := s.vm) X135 hx hZ hown (hw _ (List.mem_of_getElem? (i := 3) rfl)) hWS e135 hS hk0 hEL (List.mem_of_getElem? (i := 3) rfl) C0.1 (vs := [.int (116 : Int32), .int (101 : Int32), .int (120 : Int32), .int (116 : Int32)]) (z := (4 : Int32)) (by decide +kernel) (by decide) (by decide) (g := (mkF m 35 #[.val (.int p0), .val (.int (0 : Int32)), .val (.ref (u 0)), .unset, .unset] [])) rfl (hb hby at_35) (n := 16) (by decide +kernel) (by decide) (by decide) (by decide)
    have C137 := C0.trans Cx137
    have O137 := O.ext E137
    have K137 := K0.ext E137
    have pre138 : ∀ t, Steps p.tables e below (T137.setTop (mkF m 39 #[.val (.int p0), .val (.int (0 : Int32)), .val (.ref (u 0)), .val (.ref a137), .unset] [(.ref (u 0))])) t → Steps p.tables e below (s₁.setTop (entryFrame m #[(.int p0)] maxLocals)) t := fun t kt => pre136 t (by
      show Steps p.tables e below (T135.setTop (mkF m 35 #[.val (.int p0), .val (.int (0 : Int32)), .val (.ref (u 0)), .unset, .unset] [])) _
      refine st137 _ ?_
      show Steps p.tables e below (T137.setTop (mkF m 37 #[.val (.int p0), .val (.int (0 : Int32)), .val (.ref (u 0)), .unset, .unset] [(.ref a137)])) _
      refine XS.astoreN X137.here hx rfl (hb hby at_37) rfl rfl (l' := #[.val (.int p0), .val (.int (0 : Int32)), .val (.ref (u 0)), .val (.ref a137), .unset]) rfl ?_
      show Steps p.tables e below (T137.setTop (mkF m 38 #[.val (.int p0), .val (.int (0 : Int32)), .val (.ref (u 0)), .val (.ref a137), .unset] [])) _
      refine XS.aloadN X137.here hx rfl (hb hby at_38) rfl rfl ?_
      exact kt)
    obtain ⟨cq139, kq139, q139a, q139b, q139c⟩ := isOf hZ e137 (B.2.1.ext O137.2)
    obtain ⟨vr139, _, ⟨T139, L139, k139, n139⟩, -, X139, hs139, hG139, ⟨Lc139, hQ139, l139, y139, z139, Cx139⟩, st139⟩ := X137.virtualBackS hx (y := (⟨"com/example/resolvent/resolvent/cli/OutputFormat", "toString", "()Ljava/lang/String;"⟩ : MethodName)) (z := (⟨"com/example/resolvent/resolvent/cli/OutputFormat", "toString", "()Ljava/lang/String;"⟩ : MethodName)) hown (mvT hZ (hw _ (List.mem_of_getElem? (i := 11) rfl))) (mvT hZ (hw _ (List.mem_of_getElem? (i := 12) rfl))) (notFace_of_selects (args := #[]) (mvT hZ (hw _ (List.mem_of_getElem? (i := 14) rfl)))) (mvT hZ (hw _ (List.mem_of_getElem? (i := 14) rfl))) (mvT hZ (hw _ (List.mem_of_getElem? (i := 13) rfl))) (by decide) (backOfSH (s := s) (vm0 := T137.vm) (W := 0) (rmST l Z a0 hw [] u  B h137 n0 O137 ) hZ (hw _ (List.mem_of_getElem? (i := 15) rfl)) (hw _ (List.mem_of_getElem? (i := 1) rfl)) (by decide) (by decide) hEL C137.1) q139a q139c (g := (mkF m 39 #[.val (.int p0), .val (.int (0 : Int32)), .val (.ref (u 0)), .val (.ref a137), .unset] [(.ref (u 0))])) rfl (by rw [hml]; rfl) (Steps.refl _) (argsL := []) (rest := []) (lenOf own_pd2 rfl) rfl (by show 2 * 0 + _ ≤ _; exact Nat.le_of_eq rfl) (hb hby at_39) (fun _ _ => ⟨rfl, e137, (by decide : 2 + 2 ≤ _), (by decide : 20 + 20 ≤ _)⟩)
    dsimp only [Pt.U, Pt.locs, Pt.cells, Pt.slots] at X139 l139 y139 z139 st139 hQ139 hs139 hG139 Cx139
    subst l139 y139 z139
    have X139 : Stand p l e room_1 (s.setVm T139.vm) m #[(.int p0)] below meth c T139 _ _ _ := X139
    have hZ : Z.Warmed39 (s.setVm T139.vm).vm := State.Warmed39.trans (t := s.setVm T137.vm) hZ hs139.1
    have hown : (s.setVm T139.vm).vm.findClass "com/example/resolvent/resolvent/cli/OutputFormatToStringPinLaw" = some m.cls := by rw [show (s.setVm T139.vm).vm = T139.vm from rfl, hs139.1.alike.findClass]; exact hown
    have hS := foldS (s := s) (vm0 := T137.vm) (T := T137) hS (by rw [e137]; exact hk137) hs139 hG139
    have hk139 : T139.heap.size ≤ T139.heap.size := Nat.le_refl _
    have C139 := C137.trans Cx139
    obtain ⟨a139, b139, kb139, rfl, N139q, E139, G139, Fc139, Fv139, V139⟩ := hQ139
    have N139 := Fr.app N0 N139q
    have O139 := O137.ext E139
    have K139 := K137.ext E139
    have f140 := G137.ext E139
    have f141 := Fc137.ext E139
    have f142 := Fv137.ext E139
    have f143 := V137.ext E139
    obtain ⟨cq144, kq144, q144a, q144b, q144c⟩ := isOf hZ rfl G139
    obtain ⟨vr144, _, ⟨T144, L144, k144, n144⟩, -, X144, ⟨Lc144, hQ144, l144, y144, z144⟩, st144⟩ := X139.virtualBack hx (y := (⟨"java/lang/String", "equals", "(Ljava/lang/Object;)Z"⟩ : MethodName)) (z := (⟨"java/lang/String", "equals", "(Ljava/lang/Object;)Z"⟩ : MethodName)) hown (mvT hZ (hw _ (List.mem_of_getElem? (i := 18) rfl))) (mvT hZ (hw _ (List.mem_of_getElem? (i := 19) rfl))) (notFace_of_selects (args := #[]) (mvT hZ (hw _ (List.mem_of_getElem? (i := 21) rfl)))) (mvT hZ (hw _ (List.mem_of_getElem? (i := 21) rfl))) (mvT hZ (hw _ (List.mem_of_getElem? (i := 20) rfl))) (by decide) (backOf (W := 0) (rmETT l Z a0 hw [] u a139 a137 b139 kb139 b137 kb137 B T139.heap n0 O139 G139 Fc139 Fv139 V139 f140 f141 f142 f143) hZ (hw _ (List.mem_of_getElem? (i := 22) rfl)) (hw _ (List.mem_of_getElem? (i := 4) rfl)) (by decide) (by decide)) q144a q144c (g := (mkF m 47 #[.val (.int p0), .val (.int (0 : Int32)), .val (.ref (u 0)), .val (.ref a137), .val (.ref a139)] [(.ref a137), (.ref a139)])) rfl (by rw [hml]; rfl) (Steps.refl _) (argsL := [(.ref a137)]) (rest := []) (lenOf own_pd3 rfl) rfl (by show 2 * 0 + _ ≤ _; exact Nat.le_of_eq rfl) (hb hby at_47) (fun _ _ => ⟨rfl, rfl, (by decide : 4 + 0 ≤ _), (by decide : 40 + 0 ≤ _)⟩)
    dsimp only [Pt.U, Pt.locs, Pt.cells, Pt.slots] at X144 l144 y144 z144 st144 hQ144
    subst l144 y144 z144
    obtain ⟨rfl, N144q, e144⟩ := hQ144
    have N144 := Fr.app N139 N144q
    have pre145 : ∀ t, Steps p.tables e below (T144.setTop (mkF m 57 #[.val (.int p0), .val (.int (0 : Int32)), .val (.ref (u 0)), .val (.ref a137), .val (.ref a139)] [(.ref a139)])) t → Steps p.tables e below (s₁.setTop (entryFrame m #[(.int p0)] maxLocals)) t := fun t kt => pre138 t (by
      show Steps p.tables e below (T137.setTop (mkF m 39 #[.val (.int p0), .val (.int (0 : Int32)), .val (.ref (u 0)), .val (.ref a137), .unset] [(.ref (u 0))])) _
      refine st139.trans ?_
      show Steps p.tables e below (T139.setTop (mkF m 42 #[.val (.int p0), .val (.int (0 : Int32)), .val (.ref (u 0)), .val (.ref a137), .unset] [(.ref a139)])) _
      refine XS.astore X139.here hx rfl (hb hby at_42) rfl rfl (l' := #[.val (.int p0), .val (.int (0 : Int32)), .val (.ref (u 0)), .val (.ref a137), .val (.ref a139)]) rfl ?_
      show Steps p.tables e below (T139.setTop (mkF m 44 #[.val (.int p0), .val (.int (0 : Int32)), .val (.ref (u 0)), .val (.ref a137), .val (.ref a139)] [])) _
      refine XS.aload X139.here hx rfl (hb hby at_44) rfl rfl ?_
      show Steps p.tables e below (T139.setTop (mkF m 46 #[.val (.int p0), .val (.int (0 : Int32)), .val (.ref (u 0)), .val (.ref a137), .val (.ref a139)] [(.ref a139)])) _
      refine XS.aloadN X139.here hx rfl (hb hby at_46) rfl rfl ?_
      show Steps p.tables e below (T139.setTop (mkF m 47 #[.val (.int p0), .val (.int (0 : Int32)), .val (.ref (u 0)), .val (.ref a137), .val (.ref a139)] [(.ref a137), (.ref a139)])) _
      refine st144.trans ?_
      show Steps p.tables e below (T144.setTop (mkF m 50 #[.val (.int p0), .val (.int (0 : Int32)), .val (.ref (u 0)), .val (.ref a137), .val (.ref a139)] [(.int (1 : Int32))])) _
      refine XS.ifYes X144.here hx rfl (pc0 := 50) (pc' := 55) rfl (hb hby at_50) rfl ((if0 _ _).trans (feq (by decide : ¬ ((1 : Int32) = (0 : Int32)))).2) (by decide) (by decide) ?_
      show Steps p.tables e below (T144.setTop (mkF m 55 #[.val (.int p0), .val (.int (0 : Int32)), .val (.ref (u 0)), .val (.ref a137), .val (.ref a139)] [])) _
      refine XS.aload X144.here hx rfl (hb hby at_55) rfl rfl ?_
      exact kt)
    obtain ⟨vr146, _, ⟨T146, L146, k146, n146⟩, -, X146, hs146, hG146, ⟨Lc146, hQ146, l146, y146, z146, Cx146⟩, st146⟩ := callSS X144 hx (y := (⟨"com/example/resolvent/resolvent/cli/OutputFormat", "parse", "(Ljava/lang/String;)Lcom/example/resolvent/resolvent/cli/OutputFormat;"⟩ : MethodName)) hown (mvT hZ (hw _ (List.mem_of_getElem? (i := 23) rfl))) (mvT hZ (hw _ (List.mem_of_getElem? (i := 24) rfl))) (mvT hZ (hw _ (List.mem_of_getElem? (i := 1) rfl))) (mvT hZ (hw _ (List.mem_of_getElem? (i := 25) rfl))) (by decide) (backOfSH (s := s) (vm0 := T139.vm) (W := 0) (rmPT l Z a0 hw [] u a139 b139 kb139 B T139.heap n0 O139 G139 Fc139 Fv139 V139) hZ (hw _ (List.mem_of_getElem? (i := 25) rfl)) (hw _ (List.mem_of_getElem? (i := 1) rfl)) (by decide) (by decide) hEL C139.1) (g := (mkF m 57 #[.val (.int p0), .val (.int (0 : Int32)), .val (.ref (u 0)), .val (.ref a137), .val (.ref a139)] [(.ref a139)])) rfl (by rw [hml]; rfl) (argsL := [(.ref a139)]) (rest := []) (lenOf own_pd4 rfl) rfl (by show 2 * 0 + _ ≤ _; exact Nat.le_of_eq rfl) (hb hby at_57) (fun _ _ => ⟨rfl, e144, (by decide : 4 + 3 ≤ _), (by decide : 40 + 22 ≤ _)⟩)
    dsimp only [Pt.U, Pt.locs, Pt.cells, Pt.slots] at X146 l146 y146 z146 st146 hQ146 hs146 hG146 Cx146
    subst l146 y146 z146
    have X146 : Stand p l e room_1 (s.setVm T146.vm) m #[(.int p0)] below meth c T146 _ _ _ := X146
    have hZ : Z.Warmed39 (s.setVm T146.vm).vm := State.Warmed39.trans (t := s.setVm T139.vm) hZ hs146.1
    have hown : (s.setVm T146.vm).vm.findClass "com/example/resolvent/resolvent/cli/OutputFormatToStringPinLaw" = some m.cls := by rw [show (s.setVm T146.vm).vm = T146.vm from rfl, hs146.1.alike.findClass]; exact hown
    have hS := foldS (s := s) (vm0 := T139.vm) (T := T144) hS (by rw [e144]; exact hk139) hs146 hG146
    have hk146 : T146.heap.size ≤ T146.heap.size := Nat.le_refl _
    have C146 := C139.trans Cx146
    obtain ⟨rfl, N146q, E146⟩ := hQ146
    have N146 := Fr.app N144 N146q
    have O146 := O139.ext E146
    have K146 := K139.ext E146
    have f147 := f140.ext E146
    have f148 := f141.ext E146
    have f149 := f142.ext E146
    have f150 := f143.ext E146
    have f151 := G139.ext E146
    have f152 := Fc139.ext E146
    have f153 := Fv139.ext E146
    have f154 := V139.ext E146
    obtain ⟨fs, hr, hrun, hended, hRW⟩ := Stand.leaveW (s := s) (vm₁ := T146.vm) X146 hS hk146 (v := some (.int (1 : Int32))) (fun h => by rw [Bd.returns] at h; cases h)
    refine ⟨_, _, pre145 _ ?_, hrun, hended, _, _, rfl, ?_, ?_, ⟨hRW.1, hRW.2.1, hRW.2.2.1, hRW.2.2.2.mono (by decide) (by decide)⟩⟩
    · show Steps p.tables e below (T144.setTop (mkF m 57 #[.val (.int p0), .val (.int (0 : Int32)), .val (.ref (u 0)), .val (.ref a137), .val (.ref a139)] [(.ref a139)])) _
      refine st146.trans ?_
      show Steps p.tables e below (T146.setTop (mkF m 60 #[.val (.int p0), .val (.int (0 : Int32)), .val (.ref (u 0)), .val (.ref a137), .val (.ref a139)] [(.ref (u 0))])) _
      refine XS.aloadN X146.here hx rfl (hb hby at_60) rfl rfl ?_
      show Steps p.tables e below (T146.setTop (mkF m 61 #[.val (.int p0), .val (.int (0 : Int32)), .val (.ref (u 0)), .val (.ref a137), .val (.ref a139)] [(.ref (u 0)), (.ref (u 0))])) _
      refine Jvm.RoadKit.acmp (g := (mkF m 61 #[.val (.int p0), .val (.int (0 : Int32)), .val (.ref (u 0)), .val (.ref a137), .val (.ref a139)] [(.ref (u 0)), (.ref (u 0))])) X146 hx rfl rfl rfl (pc0 := 61) (pc' := 64) (same := true) rfl (hb hby at_61) rfl (decide_eq_true rfl) (by decide) (by decide) ?_
      show Steps p.tables e below (T146.setTop (mkF m 64 #[.val (.int p0), .val (.int (0 : Int32)), .val (.ref (u 0)), .val (.ref a137), .val (.ref a139)] [])) _
      refine XS.iconst X146.here hx rfl (hb hby at_64) ?_
      show Steps p.tables e below (T146.setTop (mkF m 65 #[.val (.int p0), .val (.int (0 : Int32)), .val (.ref (u 0)), .val (.ref a137), .val (.ref a139)] [(.int (1 : Int32))])) _
      refine XS.goto X146.here hx rfl (pc0 := 65) (pc' := 69) rfl (hb hby at_65) (by decide) (by decide) ?_
      show Steps p.tables e below (T146.setTop (mkF m 69 #[.val (.int p0), .val (.int (0 : Int32)), .val (.ref (u 0)), .val (.ref a137), .val (.ref a139)] [(.int (1 : Int32))])) _
      exact retN X146 hx (t := .boolean) Bd.returns (by simp) (hb hby at_69) hr
    · show own_Q0 Z u p0 h0 n0 _ T146.heap _
      exact ⟨rfl, N146, trivial⟩
    · show CHr Z consts_1 s.vm s.heap T146.vm T146.heap
      rw [hh]
      exact C146.trans (CHv.at (s := s) (vm0 := T146.vm) X146 hZ hEL C146.1)
  · --
    obtain ⟨T156, X156, e156, st156⟩ := getS2 X0 hx hZ hown (host := "") (Or.inl (hw _ (List.mem_of_getElem? (i := 44) rfl))) Via.refl e0 (B.2.2.2.2.1.ext O.2) (g := (mkF m 16 #[.val (.int p0), .val (.int (1 : Int32)), .unset, .unset, .unset] [])) rfl (hb hby at_16)
    have pre157 : ∀ t, Steps p.tables e below (T156.setTop (mkF m 30 #[.val (.int p0), .val (.int (1 : Int32)), .val (.ref (u 2)), .unset, .unset] [])) t → Steps p.tables e below (s₁.setTop (entryFrame m #[(.int p0)] maxLocals)) t := fun t kt => pre133 t (by
      show Steps p.tables e below (s₁.setTop (mkF m 3 #[.val (.int p0), .unset, .unset, .unset, .unset] [(.int (p0 &&& (1 : Int32)))])) _
      refine XS.ifNo X0.here hx rfl (hb hby at_3) rfl ((if0 _ _).trans (feq hc134).1) ?_
      show Steps p.tables e below (s₁.setTop (mkF m 6 #[.val (.int p0), .unset, .unset, .unset, .unset] [])) _
      refine XS.iconst X0.here hx rfl (hb hby at_6) ?_
      show Steps p.tables e below (s₁.setTop (mkF m 7 #[.val (.int p0), .unset, .unset, .unset, .unset] [(.int (1 : Int32))])) _
      refine XS.goto X0.here hx rfl (pc0 := 7) (pc' := 11) rfl (hb hby at_7) (by decide) (by decide) ?_
      show Steps p.tables e below (s₁.setTop (mkF m 11 #[.val (.int p0), .unset, .unset, .unset, .unset] [(.int (1 : Int32))])) _
      refine XS.istoreN X0.here hx rfl (hb hby at_11) rfl (l' := #[.val (.int p0), .val (.int (1 : Int32)), .unset, .unset, .unset]) rfl ?_
      show Steps p.tables e below (s₁.setTop (mkF m 12 #[.val (.int p0), .val (.int (1 : Int32)), .unset, .unset, .unset] [])) _
      refine XS.iloadN X0.here hx rfl (hb hby at_12) rfl ?_
      show Steps p.tables e below (s₁.setTop (mkF m 13 #[.val (.int p0), .val (.int (1 : Int32)), .unset, .unset, .unset] [(.int (1 : Int32))])) _
      refine XS.ifNo X0.here hx rfl (hb hby at_13) rfl ((if0 _ _).trans (feq (by decide : ¬ ((1 : Int32) = (0 : Int32)))).1) ?_
      show Steps p.tables e below (s₁.setTop (mkF m 16 #[.val (.int p0), .val (.int (1 : Int32)), .unset, .unset, .unset] [])) _
      refine st156 _ ?_
      show Steps p.tables e below (T156.setTop (mkF m 19 #[.val (.int p0), .val (.int (1 : Int32)), .unset, .unset, .unset] [(.ref (u 2))])) _
      refine XS.goto X156.here hx rfl (pc0 := 19) (pc' := 25) rfl (hb hby at_19) (by decide) (by decide) ?_
      show Steps p.tables e below (T156.setTop (mkF m 25 #[.val (.int p0), .val (.int (1 : Int32)), .unset, .unset, .unset] [(.ref (u 2))])) _
      refine XS.astoreN X156.here hx rfl (hb hby at_25) rfl rfl (l' := #[.val (.int p0), .val (.int (1 : Int32)), .val (.ref (u 2)), .unset, .unset]) rfl ?_
      show Steps p.tables e below (T156.setTop (mkF m 26 #[.val (.int p0), .val (.int (1 : Int32)), .val (.ref (u 2)), .unset, .unset] [])) _
      refine XS.iloadN X156.here hx rfl (hb hby at_26) rfl ?_
      show Steps p.tables e below (T156.setTop (mkF m 27 #[.val (.int p0), .val (.int (1 : Int32)), .val (.ref (u 2)), .unset, .unset] [(.int (1 : Int32))])) _
      refine XS.ifNo X156.here hx rfl (hb hby at_27) rfl ((if0 _ _).trans (feq (by decide : ¬ ((1 : Int32) = (0 : Int32)))).1) ?_
      exact kt)
    obtain ⟨a158, T158, h158, kk158, b158, kb158, X158, e158, E158, hS, hk158, hZ, hown, G158, Fc158, Fv158, V158, -, -, Cx158, -, -, st158⟩ := ldcCH (s := s) (vm0 := s.vm) X156 hx hZ hown (hw _ (List.mem_of_getElem? (i := 45) rfl)) hWS e156 hS hk0 hEL (List.mem_of_getElem? (i := 2) rfl) C0.1 (vs := [.int (106 : Int32), .int (115 : Int32), .int (111 : Int32), .int (110 : Int32)]) (z := (4 : Int32)) (by decide +kernel) (by decide) (by decide) (g := (mkF m 30 #[.val (.int p0), .val (.int (1 : Int32)), .val (.ref (u 2)), .unset, .unset] [])) rfl (hb hby at_30) (n := 16) (by decide +kernel) (by decide) (by decide) (by decide)
    have C158 := C0.trans Cx158
    have O158 := O.ext E158
    have K158 := K0.ext E158
    have pre159 : ∀ t, Steps p.tables e below (T158.setTop (mkF m 39 #[.val (.int p0), .val (.int (1 : Int32)), .val (.ref (u 2)), .val (.ref a158), .unset] [(.ref (u 2))])) t → Steps p.tables e below (s₁.setTop (entryFrame m #[(.int p0)] maxLocals)) t := fun t kt => pre157 t (by
      show Steps p.tables e below (T156.setTop (mkF m 30 #[.val (.int p0), .val (.int (1 : Int32)), .val (.ref (u 2)), .unset, .unset] [])) _
      refine st158 _ ?_
      show Steps p.tables e below (T158.setTop (mkF m 32 #[.val (.int p0), .val (.int (1 : Int32)), .val (.ref (u 2)), .unset, .unset] [(.ref a158)])) _
      refine XS.goto X158.here hx rfl (pc0 := 32) (pc' := 37) rfl (hb hby at_32) (by decide) (by decide) ?_
      show Steps p.tables e below (T158.setTop (mkF m 37 #[.val (.int p0), .val (.int (1 : Int32)), .val (.ref (u 2)), .unset, .unset] [(.ref a158)])) _
      refine XS.astoreN X158.here hx rfl (hb hby at_37) rfl rfl (l' := #[.val (.int p0), .val (.int (1 : Int32)), .val (.ref (u 2)), .val (.ref a158), .unset]) rfl ?_
      show Steps p.tables e below (T158.setTop (mkF m 38 #[.val (.int p0), .val (.int (1 : Int32)), .val (.ref (u 2)), .val (.ref a158), .unset] [])) _
      refine XS.aloadN X158.here hx rfl (hb hby at_38) rfl rfl ?_
      exact kt)
    obtain ⟨cq160, kq160, q160a, q160b, q160c⟩ := isOf hZ e158 (B.2.2.2.2.2.1.ext O158.2)
    obtain ⟨vr160, _, ⟨T160, L160, k160, n160⟩, -, X160, hs160, hG160, ⟨Lc160, hQ160, l160, y160, z160, Cx160⟩, st160⟩ := X158.virtualBackS hx (y := (⟨"com/example/resolvent/resolvent/cli/OutputFormat", "toString", "()Ljava/lang/String;"⟩ : MethodName)) (z := (⟨"com/example/resolvent/resolvent/cli/OutputFormat", "toString", "()Ljava/lang/String;"⟩ : MethodName)) hown (mvT hZ (hw _ (List.mem_of_getElem? (i := 11) rfl))) (mvT hZ (hw _ (List.mem_of_getElem? (i := 12) rfl))) (notFace_of_selects (args := #[]) (mvT hZ (hw _ (List.mem_of_getElem? (i := 14) rfl)))) (mvT hZ (hw _ (List.mem_of_getElem? (i := 14) rfl))) (mvT hZ (hw _ (List.mem_of_getElem? (i := 13) rfl))) (by decide) (backOfSH (s := s) (vm0 := T158.vm) (W := 0) (rmSJ l Z a0 hw [] u  B h158 n0 O158 ) hZ (hw _ (List.mem_of_getElem? (i := 15) rfl)) (hw _ (List.mem_of_getElem? (i := 1) rfl)) (by decide) (by decide) hEL C158.1) q160a q160c (g := (mkF m 39 #[.val (.int p0), .val (.int (1 : Int32)), .val (.ref (u 2)), .val (.ref a158), .unset] [(.ref (u 2))])) rfl (by rw [hml]; rfl) (Steps.refl _) (argsL := []) (rest := []) (lenOf own_pd2 rfl) rfl (by show 2 * 0 + _ ≤ _; exact Nat.le_of_eq rfl) (hb hby at_39) (fun _ _ => ⟨rfl, e158, (by decide : 2 + 2 ≤ _), (by decide : 20 + 20 ≤ _)⟩)
    dsimp only [Pt.U, Pt.locs, Pt.cells, Pt.slots] at X160 l160 y160 z160 st160 hQ160 hs160 hG160 Cx160
    subst l160 y160 z160
    have X160 : Stand p l e room_1 (s.setVm T160.vm) m #[(.int p0)] below meth c T160 _ _ _ := X160
    have hZ : Z.Warmed39 (s.setVm T160.vm).vm := State.Warmed39.trans (t := s.setVm T158.vm) hZ hs160.1
    have hown : (s.setVm T160.vm).vm.findClass "com/example/resolvent/resolvent/cli/OutputFormatToStringPinLaw" = some m.cls := by rw [show (s.setVm T160.vm).vm = T160.vm from rfl, hs160.1.alike.findClass]; exact hown
    have hS := foldS (s := s) (vm0 := T158.vm) (T := T158) hS (by rw [e158]; exact hk158) hs160 hG160
    have hk160 : T160.heap.size ≤ T160.heap.size := Nat.le_refl _
    have C160 := C158.trans Cx160
    obtain ⟨a160, b160, kb160, rfl, N160q, E160, G160, Fc160, Fv160, V160⟩ := hQ160
    have N160 := Fr.app N0 N160q
    have O160 := O158.ext E160
    have K160 := K158.ext E160
    have f161 := G158.ext E160
    have f162 := Fc158.ext E160
    have f163 := Fv158.ext E160
    have f164 := V158.ext E160
    obtain ⟨cq165, kq165, q165a, q165b, q165c⟩ := isOf hZ rfl G160
    obtain ⟨vr165, _, ⟨T165, L165, k165, n165⟩, -, X165, ⟨Lc165, hQ165, l165, y165, z165⟩, st165⟩ := X160.virtualBack hx (y := (⟨"java/lang/String", "equals", "(Ljava/lang/Object;)Z"⟩ : MethodName)) (z := (⟨"java/lang/String", "equals", "(Ljava/lang/Object;)Z"⟩ : MethodName)) hown (mvT hZ (hw _ (List.mem_of_getElem? (i := 18) rfl))) (mvT hZ (hw _ (List.mem_of_getElem? (i := 19) rfl))) (notFace_of_selects (args := #[]) (mvT hZ (hw _ (List.mem_of_getElem? (i := 21) rfl)))) (mvT hZ (hw _ (List.mem_of_getElem? (i := 21) rfl))) (mvT hZ (hw _ (List.mem_of_getElem? (i := 20) rfl))) (by decide) (backOf (W := 0) (rmEJJ l Z a0 hw [] u a160 a158 b160 kb160 b158 kb158 B T160.heap n0 O160 G160 Fc160 Fv160 V160 f161 f162 f163 f164) hZ (hw _ (List.mem_of_getElem? (i := 22) rfl)) (hw _ (List.mem_of_getElem? (i := 4) rfl)) (by decide) (by decide)) q165a q165c (g := (mkF m 47 #[.val (.int p0), .val (.int (1 : Int32)), .val (.ref (u 2)), .val (.ref a158), .val (.ref a160)] [(.ref a158), (.ref a160)])) rfl (by rw [hml]; rfl) (Steps.refl _) (argsL := [(.ref a158)]) (rest := []) (lenOf own_pd3 rfl) rfl (by show 2 * 0 + _ ≤ _; exact Nat.le_of_eq rfl) (hb hby at_47) (fun _ _ => ⟨rfl, rfl, (by decide : 4 + 0 ≤ _), (by decide : 40 + 0 ≤ _)⟩)
    dsimp only [Pt.U, Pt.locs, Pt.cells, Pt.slots] at X165 l165 y165 z165 st165 hQ165
    subst l165 y165 z165
    obtain ⟨rfl, N165q, e165⟩ := hQ165
    have N165 := Fr.app N160 N165q
    have pre166 : ∀ t, Steps p.tables e below (T165.setTop (mkF m 57 #[.val (.int p0), .val (.int (1 : Int32)), .val (.ref (u 2)), .val (.ref a158), .val (.ref a160)] [(.ref a160)])) t → Steps p.tables e below (s₁.setTop (entryFrame m #[(.int p0)] maxLocals)) t := fun t kt => pre159 t (by
      show Steps p.tables e below (T158.setTop (mkF m 39 #[.val (.int p0), .val (.int (1 : Int32)), .val (.ref (u 2)), .val (.ref a158), .unset] [(.ref (u 2))])) _
      refine st160.trans ?_
      show Steps p.tables e below (T160.setTop (mkF m 42 #[.val (.int p0), .val (.int (1 : Int32)), .val (.ref (u 2)), .val (.ref a158), .unset] [(.ref a160)])) _
      refine XS.astore X160.here hx rfl (hb hby at_42) rfl rfl (l' := #[.val (.int p0), .val (.int (1 : Int32)), .val (.ref (u 2)), .val (.ref a158), .val (.ref a160)]) rfl ?_
      show Steps p.tables e below (T160.setTop (mkF m 44 #[.val (.int p0), .val (.int (1 : Int32)), .val (.ref (u 2)), .val (.ref a158), .val (.ref a160)] [])) _
      refine XS.aload X160.here hx rfl (hb hby at_44) rfl rfl ?_
      show Steps p.tables e below (T160.setTop (mkF m 46 #[.val (.int p0), .val (.int (1 : Int32)), .val (.ref (u 2)), .val (.ref a158), .val (.ref a160)] [(.ref a160)])) _
      refine XS.aloadN X160.here hx rfl (hb hby at_46) rfl rfl ?_
      show Steps p.tables e below (T160.setTop (mkF m 47 #[.val (.int p0), .val (.int (1 : Int32)), .val (.ref (u 2)), .val (.ref a158), .val (.ref a160)] [(.ref a158), (.ref a160)])) _
      refine st165.trans ?_
      show Steps p.tables e below (T165.setTop (mkF m 50 #[.val (.int p0), .val (.int (1 : Int32)), .val (.ref (u 2)), .val (.ref a158), .val (.ref a160)] [(.int (1 : Int32))])) _
      refine XS.ifYes X165.here hx rfl (pc0 := 50) (pc' := 55) rfl (hb hby at_50) rfl ((if0 _ _).trans (feq (by decide : ¬ ((1 : Int32) = (0 : Int32)))).2) (by decide) (by decide) ?_
      show Steps p.tables e below (T165.setTop (mkF m 55 #[.val (.int p0), .val (.int (1 : Int32)), .val (.ref (u 2)), .val (.ref a158), .val (.ref a160)] [])) _
      refine XS.aload X165.here hx rfl (hb hby at_55) rfl rfl ?_
      exact kt)
    obtain ⟨vr167, _, ⟨T167, L167, k167, n167⟩, -, X167, hs167, hG167, ⟨Lc167, hQ167, l167, y167, z167, Cx167⟩, st167⟩ := callSS X165 hx (y := (⟨"com/example/resolvent/resolvent/cli/OutputFormat", "parse", "(Ljava/lang/String;)Lcom/example/resolvent/resolvent/cli/OutputFormat;"⟩ : MethodName)) hown (mvT hZ (hw _ (List.mem_of_getElem? (i := 23) rfl))) (mvT hZ (hw _ (List.mem_of_getElem? (i := 24) rfl))) (mvT hZ (hw _ (List.mem_of_getElem? (i := 1) rfl))) (mvT hZ (hw _ (List.mem_of_getElem? (i := 25) rfl))) (by decide) (backOfSH (s := s) (vm0 := T160.vm) (W := 0) (rmPJ l Z a0 hw [] u a160 b160 kb160 B T160.heap n0 O160 G160 Fc160 Fv160 V160) hZ (hw _ (List.mem_of_getElem? (i := 25) rfl)) (hw _ (List.mem_of_getElem? (i := 1) rfl)) (by decide) (by decide) hEL C160.1) (g := (mkF m 57 #[.val (.int p0), .val (.int (1 : Int32)), .val (.ref (u 2)), .val (.ref a158), .val (.ref a160)] [(.ref a160)])) rfl (by rw [hml]; rfl) (argsL := [(.ref a160)]) (rest := []) (lenOf own_pd4 rfl) rfl (by show 2 * 0 + _ ≤ _; exact Nat.le_of_eq rfl) (hb hby at_57) (fun _ _ => ⟨rfl, e165, (by decide : 4 + 5 ≤ _), (by decide : 40 + 42 ≤ _)⟩)
    dsimp only [Pt.U, Pt.locs, Pt.cells, Pt.slots] at X167 l167 y167 z167 st167 hQ167 hs167 hG167 Cx167
    subst l167 y167 z167
    have X167 : Stand p l e room_1 (s.setVm T167.vm) m #[(.int p0)] below meth c T167 _ _ _ := X167
    have hZ : Z.Warmed39 (s.setVm T167.vm).vm := State.Warmed39.trans (t := s.setVm T160.vm) hZ hs167.1
    have hown : (s.setVm T167.vm).vm.findClass "com/example/resolvent/resolvent/cli/OutputFormatToStringPinLaw" = some m.cls := by rw [show (s.setVm T167.vm).vm = T167.vm from rfl, hs167.1.alike.findClass]; exact hown
    have hS := foldS (s := s) (vm0 := T160.vm) (T := T165) hS (by rw [e165]; exact hk160) hs167 hG167
    have hk167 : T167.heap.size ≤ T167.heap.size := Nat.le_refl _
    have C167 := C160.trans Cx167
    obtain ⟨rfl, N167q, E167⟩ := hQ167
    have N167 := Fr.app N165 N167q
    have O167 := O160.ext E167
    have K167 := K160.ext E167
    have f168 := f161.ext E167
    have f169 := f162.ext E167
    have f170 := f163.ext E167
    have f171 := f164.ext E167
    have f172 := G160.ext E167
    have f173 := Fc160.ext E167
    have f174 := Fv160.ext E167
    have f175 := V160.ext E167
    obtain ⟨fs, hr, hrun, hended, hRW⟩ := Stand.leaveW (s := s) (vm₁ := T167.vm) X167 hS hk167 (v := some (.int (1 : Int32))) (fun h => by rw [Bd.returns] at h; cases h)
    refine ⟨_, _, pre166 _ ?_, hrun, hended, _, _, rfl, ?_, ?_, ⟨hRW.1, hRW.2.1, hRW.2.2.1, hRW.2.2.2.mono (by decide) (by decide)⟩⟩
    · show Steps p.tables e below (T165.setTop (mkF m 57 #[.val (.int p0), .val (.int (1 : Int32)), .val (.ref (u 2)), .val (.ref a158), .val (.ref a160)] [(.ref a160)])) _
      refine st167.trans ?_
      show Steps p.tables e below (T167.setTop (mkF m 60 #[.val (.int p0), .val (.int (1 : Int32)), .val (.ref (u 2)), .val (.ref a158), .val (.ref a160)] [(.ref (u 2))])) _
      refine XS.aloadN X167.here hx rfl (hb hby at_60) rfl rfl ?_
      show Steps p.tables e below (T167.setTop (mkF m 61 #[.val (.int p0), .val (.int (1 : Int32)), .val (.ref (u 2)), .val (.ref a158), .val (.ref a160)] [(.ref (u 2)), (.ref (u 2))])) _
      refine Jvm.RoadKit.acmp (g := (mkF m 61 #[.val (.int p0), .val (.int (1 : Int32)), .val (.ref (u 2)), .val (.ref a158), .val (.ref a160)] [(.ref (u 2)), (.ref (u 2))])) X167 hx rfl rfl rfl (pc0 := 61) (pc' := 64) (same := true) rfl (hb hby at_61) rfl (decide_eq_true rfl) (by decide) (by decide) ?_
      show Steps p.tables e below (T167.setTop (mkF m 64 #[.val (.int p0), .val (.int (1 : Int32)), .val (.ref (u 2)), .val (.ref a158), .val (.ref a160)] [])) _
      refine XS.iconst X167.here hx rfl (hb hby at_64) ?_
      show Steps p.tables e below (T167.setTop (mkF m 65 #[.val (.int p0), .val (.int (1 : Int32)), .val (.ref (u 2)), .val (.ref a158), .val (.ref a160)] [(.int (1 : Int32))])) _
      refine XS.goto X167.here hx rfl (pc0 := 65) (pc' := 69) rfl (hb hby at_65) (by decide) (by decide) ?_
      show Steps p.tables e below (T167.setTop (mkF m 69 #[.val (.int p0), .val (.int (1 : Int32)), .val (.ref (u 2)), .val (.ref a158), .val (.ref a160)] [(.int (1 : Int32))])) _
      exact retN X167 hx (t := .boolean) Bd.returns (by simp) (hb hby at_69) hr
    · show own_Q0 Z u p0 h0 n0 _ T167.heap _
      exact ⟨rfl, N167, trivial⟩
    · show CHr Z consts_1 s.vm s.heap T167.vm T167.heap
      rw [hh]
      exact C167.trans (CHv.at (s := s) (vm0 := T167.vm) X167 hZ hEL C167.1)
set_option maxRecDepth 65536 in
set_option maxHeartbeats 40000000 in
theorem comes_1 {Post : Tables → Env → Array Value → State → Outcome → State → Prop} (hpost : ∀ tb e args s v u, (limb_1_1.after args s (.returned v) u = true ∧ limb_1_2.after args s (.returned v) u = true ∧ True) → ReturnedEndW s (.returned v) u (Jvm.fieldLocs frame_1_writes args s ++ Jvm.arrayLocs frame_1_arrays args s ++ Jvm.staticLocs frame_1_statics s) 24 4224 → Post tb e args s (.returned v) u) :
    ArmFor flags0 classFile x code maxLocals ret World_1 tables_1 room_1 Calls_1 rest_1 Pre_1 Post := by
  intro l hfl _ _ p e ha hc hk s m args below hf hA hF happ hP
  obtain ⟨hcalls, hrest, hpre⟩ := hP
  obtain ⟨-, -, -, hnamed, -, -, -, hat⟩ := (Spec.applies_iff hf).mp happ
  obtain ⟨hg, hn⟩ := and_e (Cond.before_iff.mp (show (Jvm.Cond.and given_1 narrow_1).before args s = true from hpre))
  obtain ⟨g0, gr0⟩ := and_e hg
  have g1 := gr0
  obtain ⟨w0, rfl⟩ : ∃ w0 : Value, args = #[w0] := by
    have hs : args.size = 1 := by simpa [Cond.value, given_1] using g0
    obtain ⟨L⟩ := args
    match L, hs with
    | [w0], _ => exact ⟨w0, rfl⟩
  have hw := fun d (hd : d ∈ tables_1) => atoms_spec (ws := Jvm.Cond.code x code maxLocals ret :: tables_1) hat d (List.mem_cons_of_mem _ hd)
  have hfit : Fit s := fun {y c} hc i hi => by
    obtain ⟨ha, rfl⟩ := Array.getElem?_eq_some_iff.mp hc
    have q := List.all_eq_true.mp ((Array.all_eq_true_iff_forall_mem.mp hF) _ (Array.getElem_mem ha)) i (List.mem_range.mpr hi)
    simpa [Array.getElem?_eq_getElem hi] using q
  obtain ⟨hsets, hown0⟩ := atoms_of _ (rest_1_c_eq ▸ (show rest_1_c.before _ s = true from hrest))
  obtain ⟨i0, ei0⟩ := is_v g1
  obtain rfl : w0 = (.int i0) := Option.some.inj ei0
  obtain ⟨b0, hn0⟩ := and_e hn
  obtain ⟨b1, hn1⟩ := and_e hn0
  obtain ⟨b2, hn2⟩ := and_e hn1
  obtain ⟨b3, hn3⟩ := and_e hn2
  obtain ⟨b4, hn4⟩ := and_e hn3
  obtain ⟨b5, hn5⟩ := and_e hn4
  obtain ⟨b6, hn6⟩ := and_e hn5
  obtain ⟨b7, hn7⟩ := and_e hn6
  have b8 := hn7
  obtain ⟨x0, v0⟩ := exa_v b0
  obtain ⟨x1, v1⟩ := exa_v b2
  obtain ⟨x2, v2⟩ := exa_v b5
  obtain ⟨c1, A1⟩ := Arr.start v1 b1
  obtain ⟨l1, m1⟩ := own_len v1 A1.1 b3
  obtain ⟨wC, vC⟩ := is_v (Cond.before_iff.mp (hsets _ (List.mem_of_getElem? (i := 1) rfl)))
  have B : own_Base s (fun i => ([x0, x1, x2] : List Addr).getD i 0) := ⟨Sta.start v0 (Or.inr ⟨(hw _ (List.mem_of_getElem? (i := 1) rfl)), (hw _ (List.mem_of_getElem? (i := 2) rfl))⟩),
    Exa.start v0 b0,
    Sta.start v1 (Or.inr ⟨(hw _ (List.mem_of_getElem? (i := 1) rfl)), (hw _ (List.mem_of_getElem? (i := 30) rfl))⟩),
    Exa.start v1 b2,
    Sta.start v2 (Or.inr ⟨(hw _ (List.mem_of_getElem? (i := 1) rfl)), (hw _ (List.mem_of_getElem? (i := 38) rfl))⟩),
    Exa.start v2 b5,
    own_fld v0 b8 rfl,
    ⟨_, Arv.start hfit A1 l1 m1 (by decide) rfl ⟨own_elem v1 A1.1 b4 v0, own_elem v1 A1.1 b6 v2, trivial⟩⟩,
    own_fld v2 b7 rfl,
    ⟨wC, own_compact vC (Cond.before_iff.mp (hsets _ (List.mem_of_getElem? (i := 2) rfl))), Sta.start vC (Or.inl (hsets _ (List.mem_of_getElem? (i := 0) rfl)))⟩⟩
  have hCH : CHv s consts_1 s.vm s.heap := CHv.start (own_ew hw) (fun p hp => hcalls.1 p hp) (hsets _ (List.mem_of_getElem? (i := 2) rfl)) (hw _ (List.mem_of_getElem? (i := 6) rfl)) (hw _ (List.mem_of_getElem? (i := 5) rfl))
  obtain ⟨n, o, h1, h2, h3, _, L, rfl, ⟨rfl, N, -⟩, -, hq⟩ := rm0 l s _ hw tables_1 (fun i => ([x0, x1, x2] : List Addr).getD i 0) i0 B s.heap s.heap.size (Old.start s)  p e ha hc hk s m _ below hf ((Spec.applies_iff_loose hf).mp happ).1 ⟨rfl, State.Warmed39.refl s, rfl, hCH⟩ trivial
  refine ⟨n, _, h1, h2, h3, hpost _ _ _ _ _ _ ⟨Cond.after_iff.mpr rfl, Cond.after_iff.mpr (eq_i res_at (Term.int_eval (1)) rfl), trivial⟩ ⟨hq.1, hq.2.1, hq.2.2.1, (hq.2.2.2.sift fun y hy => Or.inr (N y hy)).mono (by decide) (by decide)⟩⟩
theorem main_1_1 : Claimed_1_1 := comes_1 fun _ _ _ _ _ _ h hF => ⟨h.1, hF⟩
theorem main_1_2 : Claimed_1_2 := comes_1 fun _ _ _ _ _ _ h hF => ⟨h.2.1, hF⟩
end Jvm.Pilot.@@N@@
namespace Jvm.Pilot.@@N@@
open Jvm Jvm.ClassFile Sem Op Lib Jvm.Free Jvm.Stand Jvm.Pilot.@@N@@.Jvm.D
/-! MADE BY PROGRAM (witnessworld.py) out of the Statement's table words and the real class files: 19 classes; the members and pool entries that the words name. The judged class is class 1, her method 1. -/
namespace start1
open Jvm.ClassFile
def u (s : String) : CpInfo := .utf8 (stringToUtf16 s)
/-- a pool by its gaps: so many unusable entries, then the entry; so many at the end -/
def gap : Nat → List CpInfo → List CpInfo
  | 0, r => r
  | n + 1, r => .unusable :: gap n r
def poolList (es : List (Nat × CpInfo)) (last : Nat) : List CpInfo := es.foldr (fun e r => gap e.1 (e.2 :: r)) (gap last [])
def pool (es : List (Nat × CpInfo)) (last : Nat) : Array CpInfo := ⟨poolList es last⟩
def fileOf (pool : Array CpInfo) (this : Nat) (attrs : Array Attribute := #[]) (ms : Array MethodInfo := #[]) (fl : Nat := 33) (sup : Nat := 0) (ifs : Array Nat := #[]) (fds : Array FieldInfo := #[]) : ClassFile where
  minorVersion := 0
  majorVersion := 65
  constantPool := pool
  accessFlags := fl
  thisClass := this
  superClass := sup
  interfaces := ifs
  fields := fds
  methods := ms
  attributes := attrs
def plain (name : String) (sup : Option ClassId) : Class where
  name := name
  kind := .ordinary
  loader := none
  accessFlags := 33
  super := sup
  interfaces := #[]
  cf := none
  fields := #[]
  methods := #[]
  instanceTypes := #[]
  staticTypes := #[]
  resolved := #[]
  callSites := []
  init := .initialized
  statics := none
  mirror := none

def pool0 : Array CpInfo := pool [(5, u "<init>"), (0, u "()V"), (1, .class_ 10), (1, u "java/lang/Object"), (85, u "clone"), (0, u "()Ljava/lang/Object;")] 26

def k0m0 : Method := { name := "<init>", desc := "()V", sig := { parameters := [], returnType := none }, accessFlags := 1, code := none }
def k0m1 : Method := { name := "clone", desc := "()Ljava/lang/Object;", sig := { parameters := [], returnType := some (.object "java/lang/Object") }, accessFlags := 260, code := none }
/-- java/lang/Object -/
def k0 : Class := { plain "java/lang/Object" none with
  accessFlags := 33
  interfaces := #[]
  cf := some (fileOf pool0 8 #[] #[{ accessFlags := 1, nameIndex := 5, descriptorIndex := 6, attributes := #[] }, { accessFlags := 260, nameIndex := 96, descriptorIndex := 97, attributes := #[] }] 33 0 #[] #[])
  fields := #[]
  methods := #[k0m0, k0m1]
  instanceTypes := #[]
  staticTypes := #[]
  resolved := Array.replicate 124 none
  statics := none }

def pool1 : Array CpInfo := pool [(2, .class_ 4), (1, u "java/lang/Object"), (0, u "<init>"), (0, u "()V"), (0, .fieldref 8 9), (0, .class_ 10), (0, .nameAndType 11 12), (0, u "com/example/resolvent/resolvent/cli/OutputFormat"), (0, u "JSON"), (0, u "Lcom/example/resolvent/resolvent/cli/OutputFormat;"), (0, .fieldref 8 14), (0, .nameAndType 15 12), (0, u "TEXT"), (0, .string 17), (0, u "json"), (0, .string 19), (0, u "text"), (0, .methodref 8 21), (0, .nameAndType 22 23), (0, u "toString"), (0, u "()Ljava/lang/String;"), (0, .methodref 25 26), (0, .class_ 27), (0, .nameAndType 28 29), (0, u "java/lang/String"), (0, u "equals"), (0, u "(Ljava/lang/Object;)Z"), (0, .methodref 8 31), (0, .nameAndType 32 33), (0, u "parse"), (0, u "(Ljava/lang/String;)Lcom/example/resolvent/resolvent/cli/OutputFormat;"), (0, .class_ 35), (0, u "com/example/resolvent/resolvent/cli/OutputFormatToStringPinLaw"), (2, u "law"), (0, u "(I)Z")] 3

def k1m0 : Method := { name := "<init>", desc := "()V", sig := { parameters := [], returnType := none }, accessFlags := 2, code := none }
def k1c1 : Code := { maxStack := 2, maxLocals := 5, code := code, exceptionTable := #[], attributes := #[] }
def k1m1 : Method := { name := "law", desc := "(I)Z", sig := { parameters := [.int], returnType := some .boolean }, accessFlags := 9, code := some k1c1 }
/-- com/example/resolvent/resolvent/cli/OutputFormatToStringPinLaw -/
def k1 : Class := { plain "com/example/resolvent/resolvent/cli/OutputFormatToStringPinLaw" (some 0) with
  accessFlags := 49
  interfaces := #[]
  cf := some (fileOf pool1 34 #[] #[{ accessFlags := 2, nameIndex := 5, descriptorIndex := 6, attributes := #[] }, { accessFlags := 9, nameIndex := 38, descriptorIndex := 39, attributes := #[] }] 49 2 #[] #[])
  fields := #[]
  methods := #[k1m0, k1m1]
  instanceTypes := #[]
  staticTypes := #[]
  resolved := Array.replicate 43 none
  statics := none }

def pool2 : Array CpInfo := pool [(1, .class_ 2), (0, u "java/lang/constant/Constable"), (0, .class_ 4), (0, u "java/lang/Object")] 6

/-- java/lang/constant/Constable -/
def k2 : Class := { plain "java/lang/constant/Constable" (some 0) with
  accessFlags := 1537
  interfaces := #[]
  cf := some (fileOf pool2 1 #[] #[] 1537 3 #[] #[])
  fields := #[]
  methods := #[]
  instanceTypes := #[]
  staticTypes := #[]
  resolved := Array.replicate 11 none
  statics := none }

def pool3 : Array CpInfo := pool [(1, .class_ 2), (0, u "java/lang/Comparable"), (0, .class_ 4), (0, u "java/lang/Object")] 7

/-- java/lang/Comparable -/
def k3 : Class := { plain "java/lang/Comparable" (some 0) with
  accessFlags := 1537
  interfaces := #[]
  cf := some (fileOf pool3 1 #[] #[] 1537 3 #[] #[])
  fields := #[]
  methods := #[]
  instanceTypes := #[]
  staticTypes := #[]
  resolved := Array.replicate 12 none
  statics := none }

def pool4 : Array CpInfo := pool [(1, .class_ 2), (0, u "java/io/Serializable"), (0, .class_ 4), (0, u "java/lang/Object")] 2

/-- java/io/Serializable -/
def k4 : Class := { plain "java/io/Serializable" (some 0) with
  accessFlags := 1537
  interfaces := #[]
  cf := some (fileOf pool4 1 #[] #[] 1537 3 #[] #[])
  fields := #[]
  methods := #[]
  instanceTypes := #[]
  staticTypes := #[]
  resolved := Array.replicate 7 none
  statics := none }

def pool5 : Array CpInfo := pool [(2, .class_ 4), (1, u "java/lang/Enum"), (0, u "name"), (0, u "Ljava/lang/String;"), (2, u "ordinal"), (0, u "I"), (1, .class_ 14), (1, u "java/lang/Object"), (4, u "hash"), (86, .class_ 108), (1, u "java/lang/Enum$EnumDesc"), (2, .class_ 112), (0, u "java/lang/constant/Constable"), (0, .class_ 114), (0, u "java/lang/Comparable"), (0, .class_ 116), (0, u "java/io/Serializable")] 87

/-- java/lang/Enum -/
def k5 : Class := { plain "java/lang/Enum" (some 0) with
  accessFlags := 1057
  interfaces := #[2, 3, 4]
  cf := some (fileOf pool5 2 #[.nestMembers #[106]] #[] 1057 12 #[111, 113, 115] #[{ accessFlags := 18, nameIndex := 5, descriptorIndex := 6, attributes := #[] }, { accessFlags := 18, nameIndex := 9, descriptorIndex := 10, attributes := #[] }, { accessFlags := 2, nameIndex := 19, descriptorIndex := 10, attributes := #[] }])
  fields := #[{ name := "name", type := (.object "java/lang/String"), accessFlags := 18, slot := 0, constantValue := 0 }, { name := "ordinal", type := .int, accessFlags := 18, slot := 1, constantValue := 0 }, { name := "hash", type := .int, accessFlags := 2, slot := 2, constantValue := 0 }]
  methods := #[]
  instanceTypes := #[(.object "java/lang/String"), .int, .int]
  staticTypes := #[]
  resolved := Array.replicate 204 none
  statics := none }

def pool6 : Array CpInfo := pool [(1, .class_ 2), (0, u "com/example/resolvent/resolvent/cli/OutputFormat"), (0, .fieldref 1 4), (0, .nameAndType 5 6), (0, u "TEXT"), (0, u "Lcom/example/resolvent/resolvent/cli/OutputFormat;"), (2, u "JSON"), (0, .fieldref 1 11), (0, .nameAndType 12 13), (0, u "$VALUES"), (0, u "[Lcom/example/resolvent/resolvent/cli/OutputFormat;"), (0, .methodref 15 16), (0, .class_ 13), (0, .nameAndType 17 18), (0, u "clone"), (0, u "()Ljava/lang/Object;"), (1, .class_ 22), (1, u "java/lang/Enum"), (6, .methodref 1 30), (0, .nameAndType 31 32), (0, u "values"), (0, u "()[Lcom/example/resolvent/resolvent/cli/OutputFormat;"), (0, .methodref 1 34), (0, .nameAndType 35 36), (0, u "toString"), (0, u "()Ljava/lang/String;"), (0, .methodref 38 39), (0, .class_ 40), (0, .nameAndType 41 42), (0, u "java/lang/String"), (0, u "equals"), (0, u "(Ljava/lang/Object;)Z"), (14, .string 58), (0, u "text"), (0, .string 60), (0, u "json"), (8, u "(Ljava/lang/String;)Lcom/example/resolvent/resolvent/cli/OutputFormat;"), (3, u "parse")] 20

def k6c0 : Code := { maxStack := 1, maxLocals := 0, code := prog_2_method_1_code, exceptionTable := #[], attributes := #[] }
def k6m0 : Method := { name := "values", desc := "()[Lcom/example/resolvent/resolvent/cli/OutputFormat;", sig := { parameters := [], returnType := some (.array (.object "com/example/resolvent/resolvent/cli/OutputFormat")) }, accessFlags := 9, code := some k6c0 }
def k6c1 : Code := { maxStack := 3, maxLocals := 5, code := prog_2_method_4_code, exceptionTable := #[], attributes := #[] }
def k6m1 : Method := { name := "parse", desc := "(Ljava/lang/String;)Lcom/example/resolvent/resolvent/cli/OutputFormat;", sig := { parameters := [(.object "java/lang/String")], returnType := some (.object "com/example/resolvent/resolvent/cli/OutputFormat") }, accessFlags := 8, code := some k6c1 }
def k6c2 : Code := { maxStack := 2, maxLocals := 1, code := prog_2_method_5_code, exceptionTable := #[], attributes := #[] }
def k6m2 : Method := { name := "toString", desc := "()Ljava/lang/String;", sig := { parameters := [], returnType := some (.object "java/lang/String") }, accessFlags := 1, code := some k6c2 }
/-- com/example/resolvent/resolvent/cli/OutputFormat -/
def k6 : Class := { plain "com/example/resolvent/resolvent/cli/OutputFormat" (some 5) with
  accessFlags := 16432
  interfaces := #[]
  cf := some (fileOf pool6 1 #[] #[{ accessFlags := 9, nameIndex := 31, descriptorIndex := 32, attributes := #[] }, { accessFlags := 8, nameIndex := 73, descriptorIndex := 69, attributes := #[] }, { accessFlags := 1, nameIndex := 35, descriptorIndex := 36, attributes := #[] }] 16432 20 #[] #[{ accessFlags := 16409, nameIndex := 5, descriptorIndex := 6, attributes := #[] }, { accessFlags := 16409, nameIndex := 9, descriptorIndex := 6, attributes := #[] }, { accessFlags := 4122, nameIndex := 12, descriptorIndex := 13, attributes := #[] }])
  fields := #[{ name := "TEXT", type := (.object "com/example/resolvent/resolvent/cli/OutputFormat"), accessFlags := 16409, slot := 0, constantValue := 0 }, { name := "JSON", type := (.object "com/example/resolvent/resolvent/cli/OutputFormat"), accessFlags := 16409, slot := 1, constantValue := 0 }, { name := "$VALUES", type := (.array (.object "com/example/resolvent/resolvent/cli/OutputFormat")), accessFlags := 4122, slot := 2, constantValue := 0 }]
  methods := #[k6m0, k6m1, k6m2]
  instanceTypes := #[(.object "java/lang/String"), .int, .int]
  staticTypes := #[(.object "com/example/resolvent/resolvent/cli/OutputFormat"), (.object "com/example/resolvent/resolvent/cli/OutputFormat"), (.array (.object "com/example/resolvent/resolvent/cli/OutputFormat"))]
  resolved := Array.replicate 94 none
  statics := some 0 }

def pool7 : Array CpInfo := pool [(2, .class_ 4), (1, u "java/lang/CharSequence"), (42, .class_ 48), (0, u "java/lang/CharSequence$1CodePointIterator"), (10, .class_ 60), (0, u "java/lang/CharSequence$1CharIterator"), (5, .class_ 67), (0, u "java/lang/Object")] 63

/-- java/lang/CharSequence -/
def k7 : Class := { plain "java/lang/CharSequence" (some 0) with
  accessFlags := 1537
  interfaces := #[]
  cf := some (fileOf pool7 2 #[.nestMembers #[47, 59]] #[] 1537 66 #[] #[])
  fields := #[]
  methods := #[]
  instanceTypes := #[]
  staticTypes := #[]
  resolved := Array.replicate 131 none
  statics := none }

def pool8 : Array CpInfo := pool [(1, .class_ 2), (0, u "java/lang/constant/ConstantDesc"), (0, .class_ 4), (0, u "java/lang/Object")] 32

/-- java/lang/constant/ConstantDesc -/
def k8 : Class := { plain "java/lang/constant/ConstantDesc" (some 0) with
  accessFlags := 1537
  interfaces := #[]
  cf := some (fileOf pool8 1 #[] #[] 1537 3 #[] #[])
  fields := #[]
  methods := #[]
  instanceTypes := #[]
  staticTypes := #[]
  resolved := Array.replicate 37 none
  statics := none }

def pool9 : Array CpInfo := pool [(2, .class_ 4), (1, u "java/lang/Object"), (0, u "<init>"), (0, u "()V"), (2, .fieldref 10 11), (0, .class_ 12), (0, .nameAndType 13 14), (0, u "java/lang/String"), (0, u "value"), (0, u "[B"), (0, .fieldref 10 16), (0, .nameAndType 17 18), (0, u "coder"), (0, u "B"), (2, u "hash"), (0, u "I"), (2, u "hashIsZero"), (0, u "Z"), (11, .fieldref 10 39), (0, .nameAndType 40 26), (0, u "COMPACT_STRINGS"), (66, .class_ 109), (1, u "java/lang/StringLatin1"), (431, .methodref 107 542), (0, .nameAndType 543 544), (0, u "equals"), (0, u "([B[B)Z"), (28, u "(Ljava/lang/Object;)Z"), (1, .class_ 576), (0, u "java/lang/CharSequence"), (22, u "CASE_INSENSITIVE_ORDER"), (0, u "Ljava/util/Comparator;"), (500, u "serialPersistentFields"), (0, u "[Ljava/io/ObjectStreamField;"), (0, .class_ 1104), (0, u "java/lang/String$CaseInsensitiveComparator"), (1, .class_ 1107), (0, u "java/io/Serializable"), (0, .class_ 1109), (0, u "java/lang/Comparable"), (0, .class_ 1111), (0, u "java/lang/constant/Constable"), (0, .class_ 1113), (0, u "java/lang/constant/ConstantDesc"), (2, u "serialVersionUID"), (0, u "J"), (3, u "REPL"), (0, u "C"), (2, u "LATIN1"), (1, u "UTF16")] 323

def k9m0 : Method := { name := "<init>", desc := "()V", sig := { parameters := [], returnType := none }, accessFlags := 1, code := none }
def k9c1 : Code := { maxStack := 2, maxLocals := 3, code := jdk_42_method_66_code, exceptionTable := #[], attributes := #[] }
def k9m1 : Method := { name := "equals", desc := "(Ljava/lang/Object;)Z", sig := { parameters := [(.object "java/lang/Object")], returnType := some .boolean }, accessFlags := 1, code := some k9c1 }
/-- java/lang/String -/
def k9 : Class := { plain "java/lang/String" (some 0) with
  accessFlags := 49
  interfaces := #[4, 3, 7, 2, 8]
  cf := some (fileOf pool9 10 #[.nestMembers #[1103]] #[{ accessFlags := 1, nameIndex := 5, descriptorIndex := 6, attributes := #[] }, { accessFlags := 1, nameIndex := 543, descriptorIndex := 573, attributes := #[] }] 49 2 #[1106, 1108, 575, 1110, 1112] #[{ accessFlags := 18, nameIndex := 13, descriptorIndex := 14, attributes := #[] }, { accessFlags := 18, nameIndex := 17, descriptorIndex := 18, attributes := #[] }, { accessFlags := 2, nameIndex := 21, descriptorIndex := 22, attributes := #[] }, { accessFlags := 2, nameIndex := 25, descriptorIndex := 26, attributes := #[] }, { accessFlags := 26, nameIndex := 1116, descriptorIndex := 1117, attributes := #[] }, { accessFlags := 24, nameIndex := 40, descriptorIndex := 26, attributes := #[] }, { accessFlags := 26, nameIndex := 1101, descriptorIndex := 1102, attributes := #[] }, { accessFlags := 26, nameIndex := 1121, descriptorIndex := 1122, attributes := #[] }, { accessFlags := 25, nameIndex := 599, descriptorIndex := 600, attributes := #[] }, { accessFlags := 24, nameIndex := 1125, descriptorIndex := 18, attributes := #[] }, { accessFlags := 24, nameIndex := 1127, descriptorIndex := 18, attributes := #[] }])
  fields := #[{ name := "value", type := (.array .byte), accessFlags := 18, slot := 0, constantValue := 0 }, { name := "coder", type := .byte, accessFlags := 18, slot := 1, constantValue := 0 }, { name := "hash", type := .int, accessFlags := 2, slot := 2, constantValue := 0 }, { name := "hashIsZero", type := .boolean, accessFlags := 2, slot := 3, constantValue := 0 }, { name := "serialVersionUID", type := .long, accessFlags := 26, slot := 0, constantValue := 0 }, { name := "COMPACT_STRINGS", type := .boolean, accessFlags := 24, slot := 1, constantValue := 0 }, { name := "serialPersistentFields", type := (.array (.object "java/io/ObjectStreamField")), accessFlags := 26, slot := 2, constantValue := 0 }, { name := "REPL", type := .char, accessFlags := 26, slot := 3, constantValue := 0 }, { name := "CASE_INSENSITIVE_ORDER", type := (.object "java/util/Comparator"), accessFlags := 25, slot := 4, constantValue := 0 }, { name := "LATIN1", type := .byte, accessFlags := 24, slot := 5, constantValue := 0 }, { name := "UTF16", type := .byte, accessFlags := 24, slot := 6, constantValue := 0 }]
  methods := #[k9m0, k9m1]
  instanceTypes := #[(.array .byte), .byte, .int, .boolean]
  staticTypes := #[.long, .boolean, (.array (.object "java/io/ObjectStreamField")), .char, (.object "java/util/Comparator"), .byte, .byte]
  resolved := Array.replicate 1451 none
  statics := some 1 }

def pool10 : Array CpInfo := pool [(1, .class_ 2), (0, u "java/lang/Cloneable"), (0, .class_ 4), (0, u "java/lang/Object")] 2

/-- java/lang/Cloneable -/
def k10 : Class := { plain "java/lang/Cloneable" (some 0) with
  accessFlags := 1537
  interfaces := #[]
  cf := some (fileOf pool10 1 #[] #[] 1537 3 #[] #[])
  fields := #[]
  methods := #[]
  instanceTypes := #[]
  staticTypes := #[]
  resolved := Array.replicate 7 none
  statics := none }

def pool11 : Array CpInfo := pool [(4, .class_ 6), (1, u "java/lang/Object"), (0, u "<init>"), (0, u "()V"), (5, .class_ 16), (1, u "java/lang/StringLatin1"), (104, u "$assertionsDisabled"), (0, u "Z"), (98, .class_ 223), (1, u "java/lang/StringLatin1$LinesSpliterator"), (57, u "equals"), (0, u "([B[B)Z"), (107, .class_ 391), (0, u "java/lang/StringLatin1$CharsSpliterator")] 3

def k11m0 : Method := { name := "<init>", desc := "()V", sig := { parameters := [], returnType := none }, accessFlags := 0, code := none }
def k11c1 : Code := { maxStack := 3, maxLocals := 3, code := jdk_43_method_13_code, exceptionTable := #[], attributes := #[] }
def k11m1 : Method := { name := "equals", desc := "([B[B)Z", sig := { parameters := [(.array .byte), (.array .byte)], returnType := some .boolean }, accessFlags := 9, code := some k11c1 }
/-- java/lang/StringLatin1 -/
def k11 : Class := { plain "java/lang/StringLatin1" (some 0) with
  accessFlags := 48
  interfaces := #[]
  cf := some (fileOf pool11 14 #[.nestMembers #[390, 221]] #[{ accessFlags := 0, nameIndex := 7, descriptorIndex := 8, attributes := #[] }, { accessFlags := 9, nameIndex := 281, descriptorIndex := 282, attributes := #[] }] 48 4 #[] #[{ accessFlags := 4120, nameIndex := 121, descriptorIndex := 122, attributes := #[] }])
  fields := #[{ name := "$assertionsDisabled", type := .boolean, accessFlags := 4120, slot := 0, constantValue := 0 }]
  methods := #[k11m0, k11m1]
  instanceTypes := #[]
  staticTypes := #[.boolean]
  resolved := Array.replicate 395 none
  statics := none }

def pool12 : Array CpInfo := pool [(2, .class_ 4), (1, u "java/lang/Object"), (0, u "<init>"), (0, u "()V"), (17, .class_ 26), (1, u "jdk/internal/util/Preconditions"), (28, .class_ 56), (0, u "jdk/internal/util/Preconditions$4"), (57, .class_ 115), (0, u "jdk/internal/util/Preconditions$1"), (7, u "SIOOBE_FORMATTER"), (0, u "Ljava/util/function/BiFunction;"), (0, .class_ 126), (0, u "jdk/internal/util/Preconditions$2"), (3, u "AIOOBE_FORMATTER"), (0, .class_ 132), (0, u "jdk/internal/util/Preconditions$3"), (3, u "IOOBE_FORMATTER")] 57

def k12m0 : Method := { name := "<init>", desc := "()V", sig := { parameters := [], returnType := none }, accessFlags := 1, code := none }
/-- jdk/internal/util/Preconditions -/
def k12 : Class := { plain "jdk/internal/util/Preconditions" (some 0) with
  accessFlags := 33
  interfaces := #[]
  cf := some (fileOf pool12 24 #[.nestMembers #[55, 131, 125, 114]] #[{ accessFlags := 1, nameIndex := 5, descriptorIndex := 6, attributes := #[] }] 33 2 #[] #[{ accessFlags := 25, nameIndex := 123, descriptorIndex := 124, attributes := #[] }, { accessFlags := 25, nameIndex := 130, descriptorIndex := 124, attributes := #[] }, { accessFlags := 25, nameIndex := 136, descriptorIndex := 124, attributes := #[] }])
  fields := #[{ name := "SIOOBE_FORMATTER", type := (.object "java/util/function/BiFunction"), accessFlags := 25, slot := 0, constantValue := 0 }, { name := "AIOOBE_FORMATTER", type := (.object "java/util/function/BiFunction"), accessFlags := 25, slot := 1, constantValue := 0 }, { name := "IOOBE_FORMATTER", type := (.object "java/util/function/BiFunction"), accessFlags := 25, slot := 2, constantValue := 0 }]
  methods := #[k12m0]
  instanceTypes := #[]
  staticTypes := #[(.object "java/util/function/BiFunction"), (.object "java/util/function/BiFunction"), (.object "java/util/function/BiFunction")]
  resolved := Array.replicate 194 none
  statics := some 2 }

def pool13 : Array CpInfo := pool [(9, u "<init>"), (6, .class_ 18), (1, u "java/lang/Object"), (0, u "()V"), (1, .class_ 23), (1, u "jdk/internal/util/ArraysSupport"), (0, u "LOG2_ARRAY_LONG_INDEX_SCALE"), (0, u "I"), (2, u "U"), (0, u "Ljdk/internal/misc/Unsafe;"), (8, u "BIG_ENDIAN"), (0, u "Z"), (8, u "LOG2_BYTE_BIT_SIZE"), (4, u "LOG2_ARRAY_INT_INDEX_SCALE"), (54, u "JLA"), (0, u "Ljdk/internal/access/JavaLangAccess;"), (11, u "LOG2_ARRAY_BOOLEAN_INDEX_SCALE"), (9, u "LOG2_ARRAY_BYTE_INDEX_SCALE"), (5, u "LOG2_ARRAY_CHAR_INDEX_SCALE"), (5, u "LOG2_ARRAY_SHORT_INDEX_SCALE"), (18, u "LOG2_ARRAY_FLOAT_INDEX_SCALE"), (24, u "LOG2_ARRAY_DOUBLE_INDEX_SCALE"), (89, u "T_BOOLEAN"), (2, u "T_CHAR"), (1, u "T_FLOAT"), (1, u "T_DOUBLE"), (1, u "T_BYTE"), (1, u "T_SHORT"), (1, u "T_INT"), (1, u "T_LONG"), (1, u "SOFT_MAX_ARRAY_LENGTH")] 83

def k13m0 : Method := { name := "<init>", desc := "()V", sig := { parameters := [], returnType := none }, accessFlags := 2, code := none }
/-- jdk/internal/util/ArraysSupport -/
def k13 : Class := { plain "jdk/internal/util/ArraysSupport" (some 0) with
  accessFlags := 33
  interfaces := #[]
  cf := some (fileOf pool13 21 #[] #[{ accessFlags := 2, nameIndex := 9, descriptorIndex := 19, attributes := #[] }] 33 16 #[] #[{ accessFlags := 24, nameIndex := 28, descriptorIndex := 29, attributes := #[] }, { accessFlags := 26, nameIndex := 38, descriptorIndex := 39, attributes := #[] }, { accessFlags := 25, nameIndex := 121, descriptorIndex := 25, attributes := #[] }, { accessFlags := 25, nameIndex := 131, descriptorIndex := 25, attributes := #[] }, { accessFlags := 25, nameIndex := 137, descriptorIndex := 25, attributes := #[] }, { accessFlags := 25, nameIndex := 143, descriptorIndex := 25, attributes := #[] }, { accessFlags := 25, nameIndex := 53, descriptorIndex := 25, attributes := #[] }, { accessFlags := 25, nameIndex := 24, descriptorIndex := 25, attributes := #[] }, { accessFlags := 25, nameIndex := 162, descriptorIndex := 25, attributes := #[] }, { accessFlags := 25, nameIndex := 187, descriptorIndex := 25, attributes := #[] }, { accessFlags := 26, nameIndex := 48, descriptorIndex := 25, attributes := #[] }, { accessFlags := 25, nameIndex := 277, descriptorIndex := 25, attributes := #[] }, { accessFlags := 25, nameIndex := 280, descriptorIndex := 25, attributes := #[] }, { accessFlags := 25, nameIndex := 282, descriptorIndex := 25, attributes := #[] }, { accessFlags := 25, nameIndex := 284, descriptorIndex := 25, attributes := #[] }, { accessFlags := 25, nameIndex := 286, descriptorIndex := 25, attributes := #[] }, { accessFlags := 25, nameIndex := 288, descriptorIndex := 25, attributes := #[] }, { accessFlags := 25, nameIndex := 290, descriptorIndex := 25, attributes := #[] }, { accessFlags := 25, nameIndex := 292, descriptorIndex := 25, attributes := #[] }, { accessFlags := 26, nameIndex := 108, descriptorIndex := 109, attributes := #[] }, { accessFlags := 25, nameIndex := 294, descriptorIndex := 25, attributes := #[] }])
  fields := #[{ name := "U", type := (.object "jdk/internal/misc/Unsafe"), accessFlags := 24, slot := 0, constantValue := 0 }, { name := "BIG_ENDIAN", type := .boolean, accessFlags := 26, slot := 1, constantValue := 0 }, { name := "LOG2_ARRAY_BOOLEAN_INDEX_SCALE", type := .int, accessFlags := 25, slot := 2, constantValue := 0 }, { name := "LOG2_ARRAY_BYTE_INDEX_SCALE", type := .int, accessFlags := 25, slot := 3, constantValue := 0 }, { name := "LOG2_ARRAY_CHAR_INDEX_SCALE", type := .int, accessFlags := 25, slot := 4, constantValue := 0 }, { name := "LOG2_ARRAY_SHORT_INDEX_SCALE", type := .int, accessFlags := 25, slot := 5, constantValue := 0 }, { name := "LOG2_ARRAY_INT_INDEX_SCALE", type := .int, accessFlags := 25, slot := 6, constantValue := 0 }, { name := "LOG2_ARRAY_LONG_INDEX_SCALE", type := .int, accessFlags := 25, slot := 7, constantValue := 0 }, { name := "LOG2_ARRAY_FLOAT_INDEX_SCALE", type := .int, accessFlags := 25, slot := 8, constantValue := 0 }, { name := "LOG2_ARRAY_DOUBLE_INDEX_SCALE", type := .int, accessFlags := 25, slot := 9, constantValue := 0 }, { name := "LOG2_BYTE_BIT_SIZE", type := .int, accessFlags := 26, slot := 10, constantValue := 0 }, { name := "T_BOOLEAN", type := .int, accessFlags := 25, slot := 11, constantValue := 0 }, { name := "T_CHAR", type := .int, accessFlags := 25, slot := 12, constantValue := 0 }, { name := "T_FLOAT", type := .int, accessFlags := 25, slot := 13, constantValue := 0 }, { name := "T_DOUBLE", type := .int, accessFlags := 25, slot := 14, constantValue := 0 }, { name := "T_BYTE", type := .int, accessFlags := 25, slot := 15, constantValue := 0 }, { name := "T_SHORT", type := .int, accessFlags := 25, slot := 16, constantValue := 0 }, { name := "T_INT", type := .int, accessFlags := 25, slot := 17, constantValue := 0 }, { name := "T_LONG", type := .int, accessFlags := 25, slot := 18, constantValue := 0 }, { name := "JLA", type := (.object "jdk/internal/access/JavaLangAccess"), accessFlags := 26, slot := 19, constantValue := 0 }, { name := "SOFT_MAX_ARRAY_LENGTH", type := .int, accessFlags := 25, slot := 20, constantValue := 0 }]
  methods := #[k13m0]
  instanceTypes := #[]
  staticTypes := #[(.object "jdk/internal/misc/Unsafe"), .boolean, .int, .int, .int, .int, .int, .int, .int, .int, .int, .int, .int, .int, .int, .int, .int, .int, .int, (.object "jdk/internal/access/JavaLangAccess"), .int]
  resolved := Array.replicate 378 none
  statics := none }

/-- the primitive byte -/
def k14 : Class := { plain "byte" none with kind := .primitive 'B', accessFlags := 0x411 }
/-- [B -/
def k15 : Class := { plain "[B" (some 0) with kind := .array 14 .byte, interfaces := #[10, 4], accessFlags := 1041 }

/-- the primitive int -/
def k16 : Class := { plain "int" none with kind := .primitive 'I', accessFlags := 0x411 }
/-- [I -/
def k17 : Class := { plain "[I" (some 0) with kind := .array 16 .int, interfaces := #[10, 4], accessFlags := 1041 }

/-- [Lcom/example/resolvent/resolvent/cli/OutputFormat; -/
def k18 : Class := { plain "[Lcom/example/resolvent/resolvent/cli/OutputFormat;" (some 0) with kind := .array 6 (.object "com/example/resolvent/resolvent/cli/OutputFormat"), interfaces := #[10, 4], accessFlags := 1041 }

def heap : Heap := #[{ cls := 6, slots := #[.ref 4, .ref 5, .ref 3], vm := .statics 6 },
  { cls := 9, slots := #[.long 0, .int 1, .null, .int 0, .null, .int 0, .int 0], vm := .statics 9 },
  { cls := 12, slots := #[.null, .null, .null], vm := .statics 12 },
  { cls := 18, slots := #[.ref 4, .ref 5], vm := .none },
  { cls := 6, slots := #[.null, .int (0), .int 0], vm := .none },
  { cls := 6, slots := #[.null, .int (1), .int 0], vm := .none }]
def classes : Array Class := #[k0, k1, k2, k3, k4, k5, k6, k7, k8, k9, k10, k11, k12, k13, k14, k15, k16, k17, k18]
def interned : List (Array UInt16 × Addr) := []
def slotsUsed : Nat := 21
def theMethod : MethodId := ⟨1, 1⟩
def args0 : Array Value := #[.int 5]
def aboutOver (below : List Frame) : State where
  vm := { classes := classes, interned := interned.toArray }
  heap := heap
  slotsUsed := slotsUsed
  threads := #[{ frames := .invoking theMethod args0 :: below }]
def below0 : List Frame := [.native { method := ⟨0, 0⟩, args := #[] }]
def about1 : State := aboutOver below0
def p0 : Program := .bare "" "" ""
def e0 : Env := launch0.env 0 0 0
theorem w_frames : about1.frames = Frame.invoking theMethod args0 :: below0 := rfl
set_option maxRecDepth 65536 in
theorem w_args : argsFit about1.vm theMethod args0 = true := by decide +kernel
set_option maxRecDepth 65536 in
theorem w_heap : heapFits about1 = true := by decide +kernel
set_option maxRecDepth 65536 in
theorem w_runnable : about1.curStatus? = some .runnable := by decide +kernel
set_option maxRecDepth 65536 in
theorem w_alone : about1.alone = true := by decide +kernel
set_option maxRecDepth 65536 in
theorem w_named : about1.methodNamed? x = some theMethod := by decide +kernel
set_option maxRecDepth 65536 in
theorem w_hears : about1.hears theMethod below0 = true := by decide +kernel
set_option maxRecDepth 65536 in
theorem w_ripe : about1.ripe theMethod args0 below0 = true := by decide +kernel
theorem w_running : about1.status = .running := rfl
set_option maxRecDepth 65536 in
theorem w_room : about1.hasRoom e0.platform room_1 = true :=
  launch0.hasRoom_least _ room_1 (by decide +kernel) (by decide +kernel) (by decide +kernel) (by decide +kernel) (by decide +kernel) (by decide +kernel)
theorem allAtoms_all (ts : List Jvm.Cond) (a : Array Jvm.Value) (st : Jvm.State) : (allAtoms ts).before a st = ts.all (fun c => c.before a st) := by
  induction ts with
  | nil => rfl
  | cons c t ih =>
    show (Jvm.Cond.and c (allAtoms t)).before a st = _
    rw [Jvm.Cond.before_and, ih, List.all_cons]
def words1 : List Jvm.Cond := Jvm.Cond.code x code maxLocals ret :: tables_1
/-- a 'code' word, met by the world's own term for the bytes: nothing is compared byte by byte -/
theorem code_word {y : MethodName} {bytes : ByteArray} {mx : Nat} {rt : Option FieldType} {a : Array Value} {s : State} {m : MethodId} {meth : Method} {c : Code} (h1 : s.methodNamed? y = some m) (h2 : s.vm.method? m = some meth) (h3 : meth.code = some c) (h4 : c.code = bytes)
    (h5 : (c.maxLocals == mx && c.exceptionTable.isEmpty && decide (c.maxStack ≤ mostOperands) && decide (meth.sig.returnType = rt) && !meth.locks && decide (parseMethodDescriptor y.desc = some meth.sig)) = true) : (Jvm.Cond.code y bytes mx rt).before a s = true := by
  simp only [Bool.and_eq_true, beq_iff_eq, Bool.not_eq_true', decide_eq_true_eq] at h5
  obtain ⟨⟨⟨⟨⟨g1, g2⟩, g3⟩, g4⟩, g5⟩, g6⟩ := h5
  simp [Cond.before, Cond.holds, Cond.value, h1, h2, h3, h4, g1, g2, g3, g4, g5, g6]
def isCode : Jvm.Cond → Bool
  | .code _ _ _ _ => true
  | _ => false
theorem all_split {L : List Jvm.Cond} {P : Jvm.Cond → Bool} (h1 : L.all (fun c => isCode c || P c) = true) (h2 : ∀ c ∈ L.filter isCode, P c = true) : L.all P = true := by
  refine List.all_eq_true.mpr fun c hc => ?_
  have h := List.all_eq_true.mp h1 c hc
  rcases Bool.eq_false_or_eq_true (isCode c) with hi | hi
  · exact h2 c (List.mem_filter.mpr ⟨hc, hi⟩)
  · simpa [hi] using h
set_option maxRecDepth 65536 in
theorem w_c0 : (Jvm.Cond.code x code maxLocals ret).before args0 about1 = true := code_word (m := ⟨1, 1⟩) (meth := k1m1) (c := k1c1) (by decide +kernel) rfl rfl rfl (by decide +kernel)
set_option maxRecDepth 65536 in
theorem w_c1 : (Jvm.Cond.code ({ cls := "com/example/resolvent/resolvent/cli/OutputFormat", name := "toString", desc := "()Ljava/lang/String;" } : Jvm.MethodName) prog_2_method_5_code (1 : Nat) (Option.some (Jvm.ClassFile.FieldType.object "java/lang/String"))).before args0 about1 = true := code_word (m := ⟨6, 2⟩) (meth := k6m2) (c := k6c2) (by decide +kernel) rfl rfl rfl (by decide +kernel)
set_option maxRecDepth 65536 in
theorem w_c2 : (Jvm.Cond.code ({ cls := "java/lang/String", name := "equals", desc := "(Ljava/lang/Object;)Z" } : Jvm.MethodName) jdk_42_method_66_code (3 : Nat) (Option.some Jvm.ClassFile.FieldType.boolean)).before args0 about1 = true := code_word (m := ⟨9, 1⟩) (meth := k9m1) (c := k9c1) (by decide +kernel) rfl rfl rfl (by decide +kernel)
set_option maxRecDepth 65536 in
theorem w_c3 : (Jvm.Cond.code ({ cls := "com/example/resolvent/resolvent/cli/OutputFormat", name := "parse", desc := "(Ljava/lang/String;)Lcom/example/resolvent/resolvent/cli/OutputFormat;" } : Jvm.MethodName) prog_2_method_4_code (5 : Nat) (Option.some (Jvm.ClassFile.FieldType.object "com/example/resolvent/resolvent/cli/OutputFormat"))).before args0 about1 = true := code_word (m := ⟨6, 1⟩) (meth := k6m1) (c := k6c1) (by decide +kernel) rfl rfl rfl (by decide +kernel)
set_option maxRecDepth 65536 in
theorem w_c4 : (Jvm.Cond.code ({ cls := "com/example/resolvent/resolvent/cli/OutputFormat", name := "values", desc := "()[Lcom/example/resolvent/resolvent/cli/OutputFormat;" } : Jvm.MethodName) prog_2_method_1_code (0 : Nat) (Option.some (Jvm.ClassFile.FieldType.array (Jvm.ClassFile.FieldType.object "com/example/resolvent/resolvent/cli/OutputFormat")))).before args0 about1 = true := code_word (m := ⟨6, 0⟩) (meth := k6m0) (c := k6c0) (by decide +kernel) rfl rfl rfl (by decide +kernel)
set_option maxRecDepth 65536 in
theorem w_c5 : (Jvm.Cond.code ({ cls := "java/lang/StringLatin1", name := "equals", desc := "([B[B)Z" } : Jvm.MethodName) jdk_43_method_13_code (3 : Nat) (Option.some Jvm.ClassFile.FieldType.boolean)).before args0 about1 = true := code_word (m := ⟨11, 1⟩) (meth := k11m1) (c := k11c1) (by decide +kernel) rfl rfl rfl (by decide +kernel)
def codes1 : List Jvm.Cond := [Jvm.Cond.code x code maxLocals ret, Jvm.Cond.code ({ cls := "com/example/resolvent/resolvent/cli/OutputFormat", name := "toString", desc := "()Ljava/lang/String;" } : Jvm.MethodName) prog_2_method_5_code (1 : Nat) (Option.some (Jvm.ClassFile.FieldType.object "java/lang/String")), Jvm.Cond.code ({ cls := "java/lang/String", name := "equals", desc := "(Ljava/lang/Object;)Z" } : Jvm.MethodName) jdk_42_method_66_code (3 : Nat) (Option.some Jvm.ClassFile.FieldType.boolean), Jvm.Cond.code ({ cls := "com/example/resolvent/resolvent/cli/OutputFormat", name := "parse", desc := "(Ljava/lang/String;)Lcom/example/resolvent/resolvent/cli/OutputFormat;" } : Jvm.MethodName) prog_2_method_4_code (5 : Nat) (Option.some (Jvm.ClassFile.FieldType.object "com/example/resolvent/resolvent/cli/OutputFormat")), Jvm.Cond.code ({ cls := "com/example/resolvent/resolvent/cli/OutputFormat", name := "values", desc := "()[Lcom/example/resolvent/resolvent/cli/OutputFormat;" } : Jvm.MethodName) prog_2_method_1_code (0 : Nat) (Option.some (Jvm.ClassFile.FieldType.array (Jvm.ClassFile.FieldType.object "com/example/resolvent/resolvent/cli/OutputFormat"))), Jvm.Cond.code ({ cls := "java/lang/StringLatin1", name := "equals", desc := "([B[B)Z" } : Jvm.MethodName) jdk_43_method_13_code (3 : Nat) (Option.some Jvm.ClassFile.FieldType.boolean)]
set_option maxRecDepth 65536 in
theorem codes_eq : words1.filter isCode = codes1 := rfl
theorem w_codes : ∀ c ∈ words1.filter isCode, c.before args0 about1 = true := by
  rw [codes_eq]
  intro c hc
  simp only [codes1, List.mem_cons, List.not_mem_nil, or_false] at hc
  rcases hc with rfl | rfl | rfl | rfl | rfl | rfl
  · exact w_c0
  · exact w_c1
  · exact w_c2
  · exact w_c3
  · exact w_c4
  · exact w_c5
set_option maxRecDepth 65536 in
theorem w_t1 : (words1.take 24).all (fun c => isCode c || c.before args0 about1) = true := by decide +kernel
set_option maxRecDepth 65536 in
theorem w_t2 : ((words1.drop 24).take 24).all (fun c => isCode c || c.before args0 about1) = true := by decide +kernel
set_option maxRecDepth 65536 in
theorem w_t3 : ((words1.drop 24).drop 24).all (fun c => isCode c || c.before args0 about1) = true := by decide +kernel
theorem w_tables : (allAtoms (Jvm.Cond.code x code maxLocals ret :: tables_1)).before args0 about1 = true := by
  rw [allAtoms_all]
  show words1.all (fun c => c.before args0 about1) = true
  refine all_split ?_ w_codes
  rw [← List.take_append_drop 24 words1, List.all_append, w_t1, ← List.take_append_drop 24 (words1.drop 24), List.all_append, w_t2, w_t3]
  rfl
set_option maxRecDepth 65536 in
theorem w_rest : rest_1_c.before args0 about1 = true := by decide +kernel
set_option maxRecDepth 65536 in
theorem w_case : (Jvm.Cond.and given_1 narrow_1).before args0 about1 = true := by decide +kernel
set_option maxRecDepth 65536 in
theorem w_consts : constsHeld consts_1 about1 := Jvm.Lit.constsHeldB_iff.mp (by decide +kernel)
theorem w_applies : (headSpec (Jvm.Cond.code x code maxLocals ret :: tables_1) room_1).applies x e0.platform about1 = true :=
  (Spec.applies_iff w_frames).mpr ⟨w_running, w_runnable, w_alone, w_named, w_hears, w_ripe, w_room, w_tables⟩
theorem atStart : AtStart classFile x code maxLocals ret World_1 tables_1 room_1 Calls_1 rest_1 Pre_1 launch0 p0 e0 about1 theMethod args0 below0 :=
  ⟨lists_1, trivial, launch0.admits_env _ _ _, launch0.least_env, fairChoices_fair.cas, fairChoices_fair.clock, w_frames, w_args, w_heap, w_applies, ⟨w_consts, trivial⟩, w_rest, w_case⟩
end start1
theorem witness_1 : WitnessClaimed_1 := ⟨start1.p0, start1.e0, start1.about1, start1.theMethod, start1.args0, start1.below0, start1.atStart⟩
end Jvm.Pilot.@@N@@
