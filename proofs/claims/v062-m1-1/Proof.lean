import JvmDerived
import JvmDerived.Pilot.@@N@@Statement
import JvmDerived.Pilot.@@N@@Code
set_option linter.unusedVariables false
set_option linter.unusedSimpArgs false
namespace Jvm.Pilot.@@N@@
open Jvm Jvm.ClassFile Sem Op Lib Jvm.Free Jvm.Stand Jvm.LawKit Jvm.RoadKit Bundle Jvm.Pilot.@@N@@.Jvm.D
theorem own_notin {x y : Addr} (h : x ≠ y) : x ∉ [y] := fun q => h (List.mem_singleton.mp q)
theorem own_allge {n b : Nat} (h : n ≤ b) : ∀ x ∈ [b], x ∈ ([] : List Addr) ∨ n ≤ x := fun x hx => Or.inr (by rw [List.mem_singleton.mp hx]; exact h)
def own_pA (q1 : Int64) (p5 : Int32) : Int64 := if (p5 &&& (64 : Int32)) = (0 : Int32) then q1 else ((((p5 >>> ((7 : Int32) &&& 31)) &&& (3 : Int32)).toInt64) - (1 : Int64))
def own_pB (q2 : Int64) (p5 : Int32) : Int64 := if (p5 &&& (512 : Int32)) = (0 : Int32) then q2 else ((((p5 >>> ((10 : Int32) &&& 31)) &&& (3 : Int32)).toInt64) - (1 : Int64))
def own_pC (q1 q3 : Int64) (p5 : Int32) : Int64 := if (p5 &&& (1 : Int32)) = (0 : Int32) then q3 else (((own_pA q1 p5) + (((p5 >>> ((1 : Int32) &&& 31)) &&& (3 : Int32)).toInt64)) - (1 : Int64))
def own_pD (q2 q4 : Int64) (p5 : Int32) : Int64 := if (p5 &&& (8 : Int32)) = (0 : Int32) then q4 else (((own_pB q2 p5) + (((p5 >>> ((4 : Int32) &&& 31)) &&& (3 : Int32)).toInt64)) - (1 : Int64))
def QC (Z : State) (a1 a2 : Addr) (h0 : Heap) (n0 : Nat) (v : Option Value) (h : Heap) (L : List Loc) : Prop := v = none ∧ Fr n0 L ∧ Keep h0 h [a1] ∧ Exa Z h a1 "com/example/slotwise/slotwise/engine/Resources" ∧ Fld Z h a1 "com/example/slotwise/slotwise/engine/Resources" "amounts" "[J" (.ref a2)
theorem d1_0 : decode prog_57_method_1_code 0 = .ok (.aload_n 0, 1) := by decide +kernel
theorem d1_1 : decode prog_57_method_1_code 1 = .ok (.invokespecial 1, 3) := by decide +kernel
theorem d1_4 : decode prog_57_method_1_code 4 = .ok (.aload_n 0, 1) := by decide +kernel
theorem d1_5 : decode prog_57_method_1_code 5 = .ok (.aload_n 1, 1) := by decide +kernel
theorem d1_6 : decode prog_57_method_1_code 6 = .ok (.putfield 7, 3) := by decide +kernel
theorem d1_9 : decode prog_57_method_1_code 9 = .ok (.iconst 1, 1) := by decide +kernel
theorem d1_10 : decode prog_57_method_1_code 10 = .ok (.istore_n 2, 1) := by decide +kernel
theorem d1_11 : decode prog_57_method_1_code 11 = .ok (.iconst 0, 1) := by decide +kernel
theorem d1_12 : decode prog_57_method_1_code 12 = .ok (.istore_n 3, 1) := by decide +kernel
theorem d1_13 : decode prog_57_method_1_code 13 = .ok (.iload_n 3, 1) := by decide +kernel
theorem d1_14 : decode prog_57_method_1_code 14 = .ok (.aload_n 1, 1) := by decide +kernel
theorem d1_15 : decode prog_57_method_1_code 15 = .ok (.arraylength, 1) := by decide +kernel
theorem d1_16 : decode prog_57_method_1_code 16 = .ok (.if_icmp .ge 32, 3) := by decide +kernel
theorem d1_19 : decode prog_57_method_1_code 19 = .ok (.iload_n 2, 1) := by decide +kernel
theorem d1_20 : decode prog_57_method_1_code 20 = .ok (.iload_n 3, 1) := by decide +kernel
theorem d1_21 : decode prog_57_method_1_code 21 = .ok (.getstatic 13, 3) := by decide +kernel
theorem d1_24 : decode prog_57_method_1_code 24 = .ok (.if_icmp .eq 11, 3) := by decide +kernel
theorem d1_27 : decode prog_57_method_1_code 27 = .ok (.aload_n 1, 1) := by decide +kernel
theorem d1_28 : decode prog_57_method_1_code 28 = .ok (.iload_n 3, 1) := by decide +kernel
theorem d1_29 : decode prog_57_method_1_code 29 = .ok (.laload, 1) := by decide +kernel
theorem d1_30 : decode prog_57_method_1_code 30 = .ok (.lconst 0, 1) := by decide +kernel
theorem d1_31 : decode prog_57_method_1_code 31 = .ok (.lcmp, 1) := by decide +kernel
theorem d1_32 : decode prog_57_method_1_code 32 = .ok (.ifCond .ne 7, 3) := by decide +kernel
theorem d1_35 : decode prog_57_method_1_code 35 = .ok (.iconst 1, 1) := by decide +kernel
theorem d1_36 : decode prog_57_method_1_code 36 = .ok (.goto 4, 3) := by decide +kernel
theorem d1_39 : decode prog_57_method_1_code 39 = .ok (.iconst 0, 1) := by decide +kernel
theorem d1_40 : decode prog_57_method_1_code 40 = .ok (.iand, 1) := by decide +kernel
theorem d1_41 : decode prog_57_method_1_code 41 = .ok (.istore_n 2, 1) := by decide +kernel
theorem d1_42 : decode prog_57_method_1_code 42 = .ok (.iinc 3 1, 3) := by decide +kernel
theorem d1_45 : decode prog_57_method_1_code 45 = .ok (.goto (-32), 3) := by decide +kernel
theorem d1_48 : decode prog_57_method_1_code 48 = .ok (.aload_n 0, 1) := by decide +kernel
theorem d1_49 : decode prog_57_method_1_code 49 = .ok (.iload_n 2, 1) := by decide +kernel
theorem d1_50 : decode prog_57_method_1_code 50 = .ok (.putfield 17, 3) := by decide +kernel
theorem d1_53 : decode prog_57_method_1_code 53 = .ok (.return_, 1) := by decide +kernel
theorem pn_1 : plainName "com/example/slotwise/slotwise/engine/Resources" = true := by first | (simp [plainName, overriddenIn]; done) | decide +kernel
theorem ef_1 (m : MethodId) (x0 : Addr) (x1 : Addr) : entryFrame m #[(.ref x0), (.ref x1)] 4 = mkF m 0 #[.val (.ref x0), .val (.ref x1), .unset, .unset] [] := by first | (simp [entryFrame, mkF, argsToLocals, Value.category]; done) | rfl
set_option maxRecDepth 65536 in
set_option maxHeartbeats 40000000 in
theorem rm1n (l : Launch) (Z : State) (a0 : Array Value) (hw : ∀ d ∈ tables_1, d.before a0 Z = true) (ws : List Jvm.Cond) (a1 : Addr) (a2 : Addr) (u_amounts_a1 : Value) (cl_a2 : Cell) (z_a2 : Int32) (w5 : Int32) (w8 : Int64) (u_processorsAlone_a1 : Value) (h0 : Heap) (n0 : Nat) (Z0 : n0 ≤ h0.size) (E_a1 : Exa Z h0 a1 "com/example/slotwise/slotwise/engine/Resources") (F_amounts_a1 : Fld Z h0 a1 "com/example/slotwise/slotwise/engine/Resources" "amounts" "[J" u_amounts_a1) (g_a1 : n0 ≤ a1) (Ar_a2 : Arr Z h0 a2 cl_a2 .long) (S_a2 : cl_a2.slots.size = z_a2.toNatClampNeg) (N_a2 : ¬ z_a2 < 0) (S_PROCESSORS : Sta Z h0 "com/example/slotwise/slotwise/engine/Resources" "PROCESSORS" "I" (.int w5)) (hin29 : ¬ (((0 : Int32) + (1 : Int32)) < 0 ∨ cl_a2.slots.size ≤ (((0 : Int32) + (1 : Int32))).toNatClampNeg)) (hat29 : cl_a2.slots[(((0 : Int32) + (1 : Int32))).toNatClampNeg]? = some (.long w8)) (F_processorsAlone_a1 : Fld Z h0 a1 "com/example/slotwise/slotwise/engine/Resources" "processorsAlone" "Z" u_processorsAlone_a1) (hc16 : (0 : Int32) < z_a2) (hc24 : (0 : Int32) = w5) (hc16_2 : ((0 : Int32) + (1 : Int32)) < z_a2) (hc24_2 : ¬ (((0 : Int32) + (1 : Int32)) = w5)) (hc32 : ¬ ((lcmpW w8 (0 : Int64)) = (0 : Int32))) (hc16_3 : ¬ ((((0 : Int32) + (1 : Int32)) + (1 : Int32)) < z_a2)) (hne : a2 ≠ a1) :
    MetFree l (⟨"com/example/slotwise/slotwise/engine/Resources", "<init>", "([J)V"⟩ : MethodName) (head1 (Jvm.Cond.code (⟨"com/example/slotwise/slotwise/engine/Resources", "<init>", "([J)V"⟩ : MethodName) prog_57_method_1_code 4 none :: ws) ({ frames := 1, cells := 0, slots := 0, locals := 12 } : Room)) (fun a U => a = #[(.ref a1), (.ref a2)] ∧ Z.Warmed39 U.vm ∧ U.heap = h0) (fun _ _ _ _ _ => True) (fun _ U o U' => ∃ v L, o = .returned v ∧ QC Z a1 a2 h0 n0 v U'.heap L ∧ FrameEnd U o U' L ({ frames := 1, cells := 0, slots := 0, locals := 12 } : Room).cells ({ frames := 1, cells := 0, slots := 0, locals := 12 } : Room).slots) := by
  refine MetFree.of_bodySF (plainFor_of_name pn_1) hisR ?_
  intro p e s m args below meth c s₁ Bd hml0 hP hK
  obtain ⟨rfl, hZ, hh⟩ := hP
  have hx := Bd.exec
  have hby := Bd.bytes
  have hml : c.maxLocals = 4 := hml0
  have hown : s.vm.findClass "com/example/slotwise/slotwise/engine/Resources" = some m.cls := findClass_of_methodNamed Bd.named
  have hnm := (name_of_methodNamed Bd.named Bd.method).1
  have X0 : Stand p l e ({ frames := 1, cells := 0, slots := 0, locals := 12 } : Room) s m #[(.ref a1), (.ref a2)] below meth c s₁ [] 0 0 := Stand.of_body Bd
  have e0 : s₁.heap = h0 := by rw [← hh, Bd.state]; rfl
  have N0 := Fr.nil n0
  have pre0 : ∀ t, Steps p.tables e below (s₁.setTop (mkF m 0 #[.val (.ref a1), .val (.ref a2), .unset, .unset] [])) t → Steps p.tables e below (s₁.setTop (entryFrame m #[(.ref a1), (.ref a2)] 4)) t := fun t k => castTop (ef_1 m a1 a2) k
  obtain ⟨T3, X3, e3, st3⟩ := initO X0 hx hZ hown (hw _ (List.mem_of_getElem? (i := 7) rfl)) (hw _ (List.mem_of_getElem? (i := 8) rfl)) (hw _ (List.mem_of_getElem? (i := 9) rfl)) e0 (g := (mkF m 1 #[.val (.ref a1), .val (.ref a2), .unset, .unset] [(.ref a1)])) rfl (by rw [hml]; rfl) rfl (hb hby d1_1) (by decide) (W := 0) (by show 2 * 0 + _ ≤ _; exact Nat.le_of_eq rfl) (by decide)
  obtain ⟨T4, h4, X4, e4, W4, st4⟩ := putF X3 hx hZ hown (host := "") (Or.inl (hw _ (List.mem_of_getElem? (i := 10) rfl))) Via.refl e3 F_amounts_a1 E_a1 (Or.inr ⟨(hw _ (List.mem_of_getElem? (i := 11) rfl)), rfl, hnm⟩) (hw _ (List.mem_of_getElem? (i := 2) rfl)) (ty := (.array .long)) (by decide) rfl rfl (g := (mkF m 6 #[.val (.ref a1), .val (.ref a2), .unset, .unset] [(.ref a2), (.ref a1)])) rfl rfl (hb hby d1_6)
  have Fw4 := F_amounts_a1.same W4
  have K4 : Keep h0 h4 [a1] := (Keep.refl h0 [a1]).wr W4 (Or.inl (List.mem_of_getElem? (i := 0) rfl))
  have N4 := Fr.snoc X4 N0 g_a1
  replace Ar_a2 := Ar_a2.other W4 hne
  replace S_PROCESSORS := S_PROCESSORS.wr W4
  obtain ⟨T6, X6, e6, st6⟩ := getS2 X4 hx hZ hown (host := "") (Or.inl (hw _ (List.mem_of_getElem? (i := 12) rfl))) Via.refl e4 S_PROCESSORS (g := (mkF m 21 #[.val (.ref a1), .val (.ref a2), .val (.int (1 : Int32)), .val (.int (0 : Int32))] [(.int (0 : Int32)), (.int (1 : Int32))])) rfl (hb hby d1_21)
  obtain ⟨T7, X7, e7, st7⟩ := getS2 X6 hx hZ hown (host := "") (Or.inl (hw _ (List.mem_of_getElem? (i := 12) rfl))) Via.refl e6 S_PROCESSORS (g := (mkF m 21 #[.val (.ref a1), .val (.ref a2), .val (.int ((1 : Int32) &&& (1 : Int32))), .val (.int ((0 : Int32) + (1 : Int32)))] [(.int ((0 : Int32) + (1 : Int32))), (.int ((1 : Int32) &&& (1 : Int32)))])) rfl (hb hby d1_21)
  obtain ⟨T9, h9, X9, e9, W9, st9⟩ := putFN X7 hx hZ hown (hw _ (List.mem_of_getElem? (i := 14) rfl)) Via.refl e7 (F_processorsAlone_a1.other W4 (Or.inr (slot_ne (Or.inr (hw _ (List.mem_of_getElem? (i := 15) rfl))) (Or.inr (hw _ (List.mem_of_getElem? (i := 11) rfl))) (by decide) (t := .boolean) (t' := (.array .long)) (by decide) (by decide)))) (E_a1.wr W4) (Or.inr ⟨(hw _ (List.mem_of_getElem? (i := 15) rfl)), rfl, hnm⟩) (hw _ (List.mem_of_getElem? (i := 2) rfl)) (ty := .boolean) (v' := (.int (nar .boolean (((1 : Int32) &&& (1 : Int32)) &&& (0 : Int32))))) (by decide) rfl (fits_nar_bool _) (g := (mkF m 50 #[.val (.ref a1), .val (.ref a2), .val (.int (((1 : Int32) &&& (1 : Int32)) &&& (0 : Int32))), .val (.int (((0 : Int32) + (1 : Int32)) + (1 : Int32)))] [(.int (((1 : Int32) &&& (1 : Int32)) &&& (0 : Int32))), (.ref a1)])) rfl rfl (hb hby d1_50)
  have Fw9 := (F_processorsAlone_a1.other W4 (Or.inr (slot_ne (Or.inr (hw _ (List.mem_of_getElem? (i := 15) rfl))) (Or.inr (hw _ (List.mem_of_getElem? (i := 11) rfl))) (by decide) (t := .boolean) (t' := (.array .long)) (by decide) (by decide)))).same W9
  have K9 : Keep h0 h9 [a1] := K4.wr W9 (Or.inl (List.mem_of_getElem? (i := 0) rfl))
  have N9 := Fr.snoc X9 N4 g_a1
  obtain ⟨fs, hr, hrun, hended, hW, hsame⟩ := X9.leave (v := none) (fun _ => rfl)
  refine ⟨_, _, pre0 _ ?_, hrun, hended, _, _, rfl, ?_, ⟨_, rfl⟩, hW, hsame.mono (by decide) (by decide)⟩
  · show Steps p.tables e below (s₁.setTop (mkF m 0 #[.val (.ref a1), .val (.ref a2), .unset, .unset] [])) _
    refine XS.aloadN X0.here hx rfl (hb hby d1_0) rfl rfl ?_
    show Steps p.tables e below (s₁.setTop (mkF m 1 #[.val (.ref a1), .val (.ref a2), .unset, .unset] [(.ref a1)])) _
    refine st3 _ ?_
    show Steps p.tables e below (T3.setTop (mkF m 4 #[.val (.ref a1), .val (.ref a2), .unset, .unset] [])) _
    refine XS.aloadN X3.here hx rfl (hb hby d1_4) rfl rfl ?_
    show Steps p.tables e below (T3.setTop (mkF m 5 #[.val (.ref a1), .val (.ref a2), .unset, .unset] [(.ref a1)])) _
    refine XS.aloadN X3.here hx rfl (hb hby d1_5) rfl rfl ?_
    show Steps p.tables e below (T3.setTop (mkF m 6 #[.val (.ref a1), .val (.ref a2), .unset, .unset] [(.ref a2), (.ref a1)])) _
    refine st4 _ ?_
    show Steps p.tables e below (T4.setTop (mkF m 9 #[.val (.ref a1), .val (.ref a2), .unset, .unset] [])) _
    refine XS.iconst X4.here hx rfl (hb hby d1_9) ?_
    show Steps p.tables e below (T4.setTop (mkF m 10 #[.val (.ref a1), .val (.ref a2), .unset, .unset] [(.int (1 : Int32))])) _
    refine XS.istoreN X4.here hx rfl (hb hby d1_10) rfl (l' := #[.val (.ref a1), .val (.ref a2), .val (.int (1 : Int32)), .unset]) rfl ?_
    show Steps p.tables e below (T4.setTop (mkF m 11 #[.val (.ref a1), .val (.ref a2), .val (.int (1 : Int32)), .unset] [])) _
    refine XS.iconst X4.here hx rfl (hb hby d1_11) ?_
    show Steps p.tables e below (T4.setTop (mkF m 12 #[.val (.ref a1), .val (.ref a2), .val (.int (1 : Int32)), .unset] [(.int (0 : Int32))])) _
    refine XS.istoreN X4.here hx rfl (hb hby d1_12) rfl (l' := #[.val (.ref a1), .val (.ref a2), .val (.int (1 : Int32)), .val (.int (0 : Int32))]) rfl ?_
    show Steps p.tables e below (T4.setTop (mkF m 13 #[.val (.ref a1), .val (.ref a2), .val (.int (1 : Int32)), .val (.int (0 : Int32))] [])) _
    refine XS.iloadN X4.here hx rfl (hb hby d1_13) rfl ?_
    show Steps p.tables e below (T4.setTop (mkF m 14 #[.val (.ref a1), .val (.ref a2), .val (.int (1 : Int32)), .val (.int (0 : Int32))] [(.int (0 : Int32))])) _
    refine XS.aloadN X4.here hx rfl (hb hby d1_14) rfl rfl ?_
    show Steps p.tables e below (T4.setTop (mkF m 15 #[.val (.ref a1), .val (.ref a2), .val (.int (1 : Int32)), .val (.int (0 : Int32))] [(.ref a2), (.int (0 : Int32))])) _
    refine X4.arraylength hx (by rw [e4]; exact Ar_a2.1) (State.isArrayOf_alike hZ.alike Ar_a2.2.1) (g := (mkF m 15 #[.val (.ref a1), .val (.ref a2), .val (.int (1 : Int32)), .val (.int (0 : Int32))] [(.ref a2), (.int (0 : Int32))])) rfl rfl (hb hby d1_15) _ ?_
    rw [len_of S_a2 N_a2]
    show Steps p.tables e below (T4.setTop (mkF m 16 #[.val (.ref a1), .val (.ref a2), .val (.int (1 : Int32)), .val (.int (0 : Int32))] [(.int z_a2), (.int (0 : Int32))])) _
    refine XS.icmpNo X4.here hx rfl (hb hby d1_16) rfl (tlt hc16).2.1 ?_
    show Steps p.tables e below (T4.setTop (mkF m 19 #[.val (.ref a1), .val (.ref a2), .val (.int (1 : Int32)), .val (.int (0 : Int32))] [])) _
    refine XS.iloadN X4.here hx rfl (hb hby d1_19) rfl ?_
    show Steps p.tables e below (T4.setTop (mkF m 20 #[.val (.ref a1), .val (.ref a2), .val (.int (1 : Int32)), .val (.int (0 : Int32))] [(.int (1 : Int32))])) _
    refine XS.iloadN X4.here hx rfl (hb hby d1_20) rfl ?_
    show Steps p.tables e below (T4.setTop (mkF m 21 #[.val (.ref a1), .val (.ref a2), .val (.int (1 : Int32)), .val (.int (0 : Int32))] [(.int (0 : Int32)), (.int (1 : Int32))])) _
    refine st6 _ ?_
    show Steps p.tables e below (T6.setTop (mkF m 24 #[.val (.ref a1), .val (.ref a2), .val (.int (1 : Int32)), .val (.int (0 : Int32))] [(.int w5), (.int (0 : Int32)), (.int (1 : Int32))])) _
    refine XS.icmpYes X6.here hx rfl (pc0 := 24) (pc' := 35) rfl (hb hby d1_24) rfl (teq hc24).1 (by decide) (by decide) ?_
    show Steps p.tables e below (T6.setTop (mkF m 35 #[.val (.ref a1), .val (.ref a2), .val (.int (1 : Int32)), .val (.int (0 : Int32))] [(.int (1 : Int32))])) _
    refine XS.iconst X6.here hx rfl (hb hby d1_35) ?_
    show Steps p.tables e below (T6.setTop (mkF m 36 #[.val (.ref a1), .val (.ref a2), .val (.int (1 : Int32)), .val (.int (0 : Int32))] [(.int (1 : Int32)), (.int (1 : Int32))])) _
    refine XS.goto X6.here hx rfl (pc0 := 36) (pc' := 40) rfl (hb hby d1_36) (by decide) (by decide) ?_
    show Steps p.tables e below (T6.setTop (mkF m 40 #[.val (.ref a1), .val (.ref a2), .val (.int (1 : Int32)), .val (.int (0 : Int32))] [(.int (1 : Int32)), (.int (1 : Int32))])) _
    refine XS.iand X6.here hx rfl (hb hby d1_40) rfl ?_
    show Steps p.tables e below (T6.setTop (mkF m 41 #[.val (.ref a1), .val (.ref a2), .val (.int (1 : Int32)), .val (.int (0 : Int32))] [(.int ((1 : Int32) &&& (1 : Int32)))])) _
    refine XS.istoreN X6.here hx rfl (hb hby d1_41) rfl (l' := #[.val (.ref a1), .val (.ref a2), .val (.int ((1 : Int32) &&& (1 : Int32))), .val (.int (0 : Int32))]) rfl ?_
    show Steps p.tables e below (T6.setTop (mkF m 42 #[.val (.ref a1), .val (.ref a2), .val (.int ((1 : Int32) &&& (1 : Int32))), .val (.int (0 : Int32))] [])) _
    refine XS.iinc X6.here hx rfl (hb hby d1_42) rfl (l' := #[.val (.ref a1), .val (.ref a2), .val (.int ((1 : Int32) &&& (1 : Int32))), .val (.int ((0 : Int32) + (1 : Int32)))]) rfl ?_
    show Steps p.tables e below (T6.setTop (mkF m 45 #[.val (.ref a1), .val (.ref a2), .val (.int ((1 : Int32) &&& (1 : Int32))), .val (.int ((0 : Int32) + (1 : Int32)))] [])) _
    refine XS.goto X6.here hx rfl (pc0 := 45) (pc' := 13) rfl (hb hby d1_45) (by decide) (by decide) ?_
    show Steps p.tables e below (T6.setTop (mkF m 13 #[.val (.ref a1), .val (.ref a2), .val (.int ((1 : Int32) &&& (1 : Int32))), .val (.int ((0 : Int32) + (1 : Int32)))] [])) _
    refine XS.iloadN X6.here hx rfl (hb hby d1_13) rfl ?_
    show Steps p.tables e below (T6.setTop (mkF m 14 #[.val (.ref a1), .val (.ref a2), .val (.int ((1 : Int32) &&& (1 : Int32))), .val (.int ((0 : Int32) + (1 : Int32)))] [(.int ((0 : Int32) + (1 : Int32)))])) _
    refine XS.aloadN X6.here hx rfl (hb hby d1_14) rfl rfl ?_
    show Steps p.tables e below (T6.setTop (mkF m 15 #[.val (.ref a1), .val (.ref a2), .val (.int ((1 : Int32) &&& (1 : Int32))), .val (.int ((0 : Int32) + (1 : Int32)))] [(.ref a2), (.int ((0 : Int32) + (1 : Int32)))])) _
    refine X6.arraylength hx (by rw [e6]; exact Ar_a2.1) (State.isArrayOf_alike hZ.alike Ar_a2.2.1) (g := (mkF m 15 #[.val (.ref a1), .val (.ref a2), .val (.int ((1 : Int32) &&& (1 : Int32))), .val (.int ((0 : Int32) + (1 : Int32)))] [(.ref a2), (.int ((0 : Int32) + (1 : Int32)))])) rfl rfl (hb hby d1_15) _ ?_
    rw [len_of S_a2 N_a2]
    show Steps p.tables e below (T6.setTop (mkF m 16 #[.val (.ref a1), .val (.ref a2), .val (.int ((1 : Int32) &&& (1 : Int32))), .val (.int ((0 : Int32) + (1 : Int32)))] [(.int z_a2), (.int ((0 : Int32) + (1 : Int32)))])) _
    refine XS.icmpNo X6.here hx rfl (hb hby d1_16) rfl (tlt hc16_2).2.1 ?_
    show Steps p.tables e below (T6.setTop (mkF m 19 #[.val (.ref a1), .val (.ref a2), .val (.int ((1 : Int32) &&& (1 : Int32))), .val (.int ((0 : Int32) + (1 : Int32)))] [])) _
    refine XS.iloadN X6.here hx rfl (hb hby d1_19) rfl ?_
    show Steps p.tables e below (T6.setTop (mkF m 20 #[.val (.ref a1), .val (.ref a2), .val (.int ((1 : Int32) &&& (1 : Int32))), .val (.int ((0 : Int32) + (1 : Int32)))] [(.int ((1 : Int32) &&& (1 : Int32)))])) _
    refine XS.iloadN X6.here hx rfl (hb hby d1_20) rfl ?_
    show Steps p.tables e below (T6.setTop (mkF m 21 #[.val (.ref a1), .val (.ref a2), .val (.int ((1 : Int32) &&& (1 : Int32))), .val (.int ((0 : Int32) + (1 : Int32)))] [(.int ((0 : Int32) + (1 : Int32))), (.int ((1 : Int32) &&& (1 : Int32)))])) _
    refine st7 _ ?_
    show Steps p.tables e below (T7.setTop (mkF m 24 #[.val (.ref a1), .val (.ref a2), .val (.int ((1 : Int32) &&& (1 : Int32))), .val (.int ((0 : Int32) + (1 : Int32)))] [(.int w5), (.int ((0 : Int32) + (1 : Int32))), (.int ((1 : Int32) &&& (1 : Int32)))])) _
    refine XS.icmpNo X7.here hx rfl (hb hby d1_24) rfl (feq hc24_2).1 ?_
    show Steps p.tables e below (T7.setTop (mkF m 27 #[.val (.ref a1), .val (.ref a2), .val (.int ((1 : Int32) &&& (1 : Int32))), .val (.int ((0 : Int32) + (1 : Int32)))] [(.int ((1 : Int32) &&& (1 : Int32)))])) _
    refine XS.aloadN X7.here hx rfl (hb hby d1_27) rfl rfl ?_
    show Steps p.tables e below (T7.setTop (mkF m 28 #[.val (.ref a1), .val (.ref a2), .val (.int ((1 : Int32) &&& (1 : Int32))), .val (.int ((0 : Int32) + (1 : Int32)))] [(.ref a2), (.int ((1 : Int32) &&& (1 : Int32)))])) _
    refine XS.iloadN X7.here hx rfl (hb hby d1_28) rfl ?_
    show Steps p.tables e below (T7.setTop (mkF m 29 #[.val (.ref a1), .val (.ref a2), .val (.int ((1 : Int32) &&& (1 : Int32))), .val (.int ((0 : Int32) + (1 : Int32)))] [(.int ((0 : Int32) + (1 : Int32))), (.ref a2), (.int ((1 : Int32) &&& (1 : Int32)))])) _
    refine X7.laload hx (j := ((0 : Int32) + (1 : Int32))) (v := (.long w8)) (by rw [e7]; exact Ar_a2.1) (State.isArrayOf_alike hZ.alike Ar_a2.2.1) Ar_a2.2.2 hin29 hat29 (g := (mkF m 29 #[.val (.ref a1), .val (.ref a2), .val (.int ((1 : Int32) &&& (1 : Int32))), .val (.int ((0 : Int32) + (1 : Int32)))] [(.int ((0 : Int32) + (1 : Int32))), (.ref a2), (.int ((1 : Int32) &&& (1 : Int32)))])) rfl rfl (hb hby d1_29) _ ?_
    show Steps p.tables e below (T7.setTop (mkF m 30 #[.val (.ref a1), .val (.ref a2), .val (.int ((1 : Int32) &&& (1 : Int32))), .val (.int ((0 : Int32) + (1 : Int32)))] [(.long w8), (.int ((1 : Int32) &&& (1 : Int32)))])) _
    refine XS.lconst X7.here hx rfl (hb hby d1_30) ?_
    show Steps p.tables e below (T7.setTop (mkF m 31 #[.val (.ref a1), .val (.ref a2), .val (.int ((1 : Int32) &&& (1 : Int32))), .val (.int ((0 : Int32) + (1 : Int32)))] [(.long (0 : Int64)), (.long w8), (.int ((1 : Int32) &&& (1 : Int32)))])) _
    refine XS.lcmp X7.here hx rfl (hb hby d1_31) rfl ?_
    show Steps p.tables e below (T7.setTop (mkF m 32 #[.val (.ref a1), .val (.ref a2), .val (.int ((1 : Int32) &&& (1 : Int32))), .val (.int ((0 : Int32) + (1 : Int32)))] [(.int (lcmpW w8 (0 : Int64))), (.int ((1 : Int32) &&& (1 : Int32)))])) _
    refine XS.ifYes X7.here hx rfl (pc0 := 32) (pc' := 39) rfl (hb hby d1_32) rfl ((if0 _ _).trans (feq hc32).2) (by decide) (by decide) ?_
    show Steps p.tables e below (T7.setTop (mkF m 39 #[.val (.ref a1), .val (.ref a2), .val (.int ((1 : Int32) &&& (1 : Int32))), .val (.int ((0 : Int32) + (1 : Int32)))] [(.int ((1 : Int32) &&& (1 : Int32)))])) _
    refine XS.iconst X7.here hx rfl (hb hby d1_39) ?_
    show Steps p.tables e below (T7.setTop (mkF m 40 #[.val (.ref a1), .val (.ref a2), .val (.int ((1 : Int32) &&& (1 : Int32))), .val (.int ((0 : Int32) + (1 : Int32)))] [(.int (0 : Int32)), (.int ((1 : Int32) &&& (1 : Int32)))])) _
    refine XS.iand X7.here hx rfl (hb hby d1_40) rfl ?_
    show Steps p.tables e below (T7.setTop (mkF m 41 #[.val (.ref a1), .val (.ref a2), .val (.int ((1 : Int32) &&& (1 : Int32))), .val (.int ((0 : Int32) + (1 : Int32)))] [(.int (((1 : Int32) &&& (1 : Int32)) &&& (0 : Int32)))])) _
    refine XS.istoreN X7.here hx rfl (hb hby d1_41) rfl (l' := #[.val (.ref a1), .val (.ref a2), .val (.int (((1 : Int32) &&& (1 : Int32)) &&& (0 : Int32))), .val (.int ((0 : Int32) + (1 : Int32)))]) rfl ?_
    show Steps p.tables e below (T7.setTop (mkF m 42 #[.val (.ref a1), .val (.ref a2), .val (.int (((1 : Int32) &&& (1 : Int32)) &&& (0 : Int32))), .val (.int ((0 : Int32) + (1 : Int32)))] [])) _
    refine XS.iinc X7.here hx rfl (hb hby d1_42) rfl (l' := #[.val (.ref a1), .val (.ref a2), .val (.int (((1 : Int32) &&& (1 : Int32)) &&& (0 : Int32))), .val (.int (((0 : Int32) + (1 : Int32)) + (1 : Int32)))]) rfl ?_
    show Steps p.tables e below (T7.setTop (mkF m 45 #[.val (.ref a1), .val (.ref a2), .val (.int (((1 : Int32) &&& (1 : Int32)) &&& (0 : Int32))), .val (.int (((0 : Int32) + (1 : Int32)) + (1 : Int32)))] [])) _
    refine XS.goto X7.here hx rfl (pc0 := 45) (pc' := 13) rfl (hb hby d1_45) (by decide) (by decide) ?_
    show Steps p.tables e below (T7.setTop (mkF m 13 #[.val (.ref a1), .val (.ref a2), .val (.int (((1 : Int32) &&& (1 : Int32)) &&& (0 : Int32))), .val (.int (((0 : Int32) + (1 : Int32)) + (1 : Int32)))] [])) _
    refine XS.iloadN X7.here hx rfl (hb hby d1_13) rfl ?_
    show Steps p.tables e below (T7.setTop (mkF m 14 #[.val (.ref a1), .val (.ref a2), .val (.int (((1 : Int32) &&& (1 : Int32)) &&& (0 : Int32))), .val (.int (((0 : Int32) + (1 : Int32)) + (1 : Int32)))] [(.int (((0 : Int32) + (1 : Int32)) + (1 : Int32)))])) _
    refine XS.aloadN X7.here hx rfl (hb hby d1_14) rfl rfl ?_
    show Steps p.tables e below (T7.setTop (mkF m 15 #[.val (.ref a1), .val (.ref a2), .val (.int (((1 : Int32) &&& (1 : Int32)) &&& (0 : Int32))), .val (.int (((0 : Int32) + (1 : Int32)) + (1 : Int32)))] [(.ref a2), (.int (((0 : Int32) + (1 : Int32)) + (1 : Int32)))])) _
    refine X7.arraylength hx (by rw [e7]; exact Ar_a2.1) (State.isArrayOf_alike hZ.alike Ar_a2.2.1) (g := (mkF m 15 #[.val (.ref a1), .val (.ref a2), .val (.int (((1 : Int32) &&& (1 : Int32)) &&& (0 : Int32))), .val (.int (((0 : Int32) + (1 : Int32)) + (1 : Int32)))] [(.ref a2), (.int (((0 : Int32) + (1 : Int32)) + (1 : Int32)))])) rfl rfl (hb hby d1_15) _ ?_
    rw [len_of S_a2 N_a2]
    show Steps p.tables e below (T7.setTop (mkF m 16 #[.val (.ref a1), .val (.ref a2), .val (.int (((1 : Int32) &&& (1 : Int32)) &&& (0 : Int32))), .val (.int (((0 : Int32) + (1 : Int32)) + (1 : Int32)))] [(.int z_a2), (.int (((0 : Int32) + (1 : Int32)) + (1 : Int32)))])) _
    refine XS.icmpYes X7.here hx rfl (pc0 := 16) (pc' := 48) rfl (hb hby d1_16) rfl (flt hc16_3).2.1 (by decide) (by decide) ?_
    show Steps p.tables e below (T7.setTop (mkF m 48 #[.val (.ref a1), .val (.ref a2), .val (.int (((1 : Int32) &&& (1 : Int32)) &&& (0 : Int32))), .val (.int (((0 : Int32) + (1 : Int32)) + (1 : Int32)))] [])) _
    refine XS.aloadN X7.here hx rfl (hb hby d1_48) rfl rfl ?_
    show Steps p.tables e below (T7.setTop (mkF m 49 #[.val (.ref a1), .val (.ref a2), .val (.int (((1 : Int32) &&& (1 : Int32)) &&& (0 : Int32))), .val (.int (((0 : Int32) + (1 : Int32)) + (1 : Int32)))] [(.ref a1)])) _
    refine XS.iloadN X7.here hx rfl (hb hby d1_49) rfl ?_
    show Steps p.tables e below (T7.setTop (mkF m 50 #[.val (.ref a1), .val (.ref a2), .val (.int (((1 : Int32) &&& (1 : Int32)) &&& (0 : Int32))), .val (.int (((0 : Int32) + (1 : Int32)) + (1 : Int32)))] [(.int (((1 : Int32) &&& (1 : Int32)) &&& (0 : Int32))), (.ref a1)])) _
    refine st9 _ ?_
    show Steps p.tables e below (T9.setTop (mkF m 53 #[.val (.ref a1), .val (.ref a2), .val (.int (((1 : Int32) &&& (1 : Int32)) &&& (0 : Int32))), .val (.int (((0 : Int32) + (1 : Int32)) + (1 : Int32)))] [])) _
    exact X9.returnOut hx Bd.returns (hb hby d1_53) hr
  · show QC Z a1 a2 h0 n0 _ T9.heap _
    rw [e9]
    exact ⟨rfl, N9, K9, ((E_a1.wr W4).wr W9), (Fw4.other W9 (Or.inr (slot_ne (Or.inr (hw _ (List.mem_of_getElem? (i := 11) rfl))) (Or.inr (hw _ (List.mem_of_getElem? (i := 15) rfl))) (by decide) (t := (.array .long)) (t' := .boolean) (by decide) (by decide))))⟩
set_option maxRecDepth 65536 in
set_option maxHeartbeats 40000000 in
theorem rm1z (l : Launch) (Z : State) (a0 : Array Value) (hw : ∀ d ∈ tables_1, d.before a0 Z = true) (ws : List Jvm.Cond) (a1 : Addr) (a2 : Addr) (u_amounts_a1 : Value) (cl_a2 : Cell) (z_a2 : Int32) (w5 : Int32) (w8 : Int64) (u_processorsAlone_a1 : Value) (h0 : Heap) (n0 : Nat) (Z0 : n0 ≤ h0.size) (E_a1 : Exa Z h0 a1 "com/example/slotwise/slotwise/engine/Resources") (F_amounts_a1 : Fld Z h0 a1 "com/example/slotwise/slotwise/engine/Resources" "amounts" "[J" u_amounts_a1) (g_a1 : n0 ≤ a1) (Ar_a2 : Arr Z h0 a2 cl_a2 .long) (S_a2 : cl_a2.slots.size = z_a2.toNatClampNeg) (N_a2 : ¬ z_a2 < 0) (S_PROCESSORS : Sta Z h0 "com/example/slotwise/slotwise/engine/Resources" "PROCESSORS" "I" (.int w5)) (hin29 : ¬ (((0 : Int32) + (1 : Int32)) < 0 ∨ cl_a2.slots.size ≤ (((0 : Int32) + (1 : Int32))).toNatClampNeg)) (hat29 : cl_a2.slots[(((0 : Int32) + (1 : Int32))).toNatClampNeg]? = some (.long w8)) (F_processorsAlone_a1 : Fld Z h0 a1 "com/example/slotwise/slotwise/engine/Resources" "processorsAlone" "Z" u_processorsAlone_a1) (hc16 : (0 : Int32) < z_a2) (hc24 : (0 : Int32) = w5) (hc16_2 : ((0 : Int32) + (1 : Int32)) < z_a2) (hc24_2 : ¬ (((0 : Int32) + (1 : Int32)) = w5)) (hc32 : (lcmpW w8 (0 : Int64)) = (0 : Int32)) (hc16_3 : ¬ ((((0 : Int32) + (1 : Int32)) + (1 : Int32)) < z_a2)) (hne : a2 ≠ a1) :
    MetFree l (⟨"com/example/slotwise/slotwise/engine/Resources", "<init>", "([J)V"⟩ : MethodName) (head1 (Jvm.Cond.code (⟨"com/example/slotwise/slotwise/engine/Resources", "<init>", "([J)V"⟩ : MethodName) prog_57_method_1_code 4 none :: ws) ({ frames := 1, cells := 0, slots := 0, locals := 12 } : Room)) (fun a U => a = #[(.ref a1), (.ref a2)] ∧ Z.Warmed39 U.vm ∧ U.heap = h0) (fun _ _ _ _ _ => True) (fun _ U o U' => ∃ v L, o = .returned v ∧ QC Z a1 a2 h0 n0 v U'.heap L ∧ FrameEnd U o U' L ({ frames := 1, cells := 0, slots := 0, locals := 12 } : Room).cells ({ frames := 1, cells := 0, slots := 0, locals := 12 } : Room).slots) := by
  refine MetFree.of_bodySF (plainFor_of_name pn_1) hisR ?_
  intro p e s m args below meth c s₁ Bd hml0 hP hK
  obtain ⟨rfl, hZ, hh⟩ := hP
  have hx := Bd.exec
  have hby := Bd.bytes
  have hml : c.maxLocals = 4 := hml0
  have hown : s.vm.findClass "com/example/slotwise/slotwise/engine/Resources" = some m.cls := findClass_of_methodNamed Bd.named
  have hnm := (name_of_methodNamed Bd.named Bd.method).1
  have X0 : Stand p l e ({ frames := 1, cells := 0, slots := 0, locals := 12 } : Room) s m #[(.ref a1), (.ref a2)] below meth c s₁ [] 0 0 := Stand.of_body Bd
  have e0 : s₁.heap = h0 := by rw [← hh, Bd.state]; rfl
  have N0 := Fr.nil n0
  have pre0 : ∀ t, Steps p.tables e below (s₁.setTop (mkF m 0 #[.val (.ref a1), .val (.ref a2), .unset, .unset] [])) t → Steps p.tables e below (s₁.setTop (entryFrame m #[(.ref a1), (.ref a2)] 4)) t := fun t k => castTop (ef_1 m a1 a2) k
  obtain ⟨T3, X3, e3, st3⟩ := initO X0 hx hZ hown (hw _ (List.mem_of_getElem? (i := 7) rfl)) (hw _ (List.mem_of_getElem? (i := 8) rfl)) (hw _ (List.mem_of_getElem? (i := 9) rfl)) e0 (g := (mkF m 1 #[.val (.ref a1), .val (.ref a2), .unset, .unset] [(.ref a1)])) rfl (by rw [hml]; rfl) rfl (hb hby d1_1) (by decide) (W := 0) (by show 2 * 0 + _ ≤ _; exact Nat.le_of_eq rfl) (by decide)
  obtain ⟨T4, h4, X4, e4, W4, st4⟩ := putF X3 hx hZ hown (host := "") (Or.inl (hw _ (List.mem_of_getElem? (i := 10) rfl))) Via.refl e3 F_amounts_a1 E_a1 (Or.inr ⟨(hw _ (List.mem_of_getElem? (i := 11) rfl)), rfl, hnm⟩) (hw _ (List.mem_of_getElem? (i := 2) rfl)) (ty := (.array .long)) (by decide) rfl rfl (g := (mkF m 6 #[.val (.ref a1), .val (.ref a2), .unset, .unset] [(.ref a2), (.ref a1)])) rfl rfl (hb hby d1_6)
  have Fw4 := F_amounts_a1.same W4
  have K4 : Keep h0 h4 [a1] := (Keep.refl h0 [a1]).wr W4 (Or.inl (List.mem_of_getElem? (i := 0) rfl))
  have N4 := Fr.snoc X4 N0 g_a1
  replace Ar_a2 := Ar_a2.other W4 hne
  replace S_PROCESSORS := S_PROCESSORS.wr W4
  obtain ⟨T6, X6, e6, st6⟩ := getS2 X4 hx hZ hown (host := "") (Or.inl (hw _ (List.mem_of_getElem? (i := 12) rfl))) Via.refl e4 S_PROCESSORS (g := (mkF m 21 #[.val (.ref a1), .val (.ref a2), .val (.int (1 : Int32)), .val (.int (0 : Int32))] [(.int (0 : Int32)), (.int (1 : Int32))])) rfl (hb hby d1_21)
  obtain ⟨T7, X7, e7, st7⟩ := getS2 X6 hx hZ hown (host := "") (Or.inl (hw _ (List.mem_of_getElem? (i := 12) rfl))) Via.refl e6 S_PROCESSORS (g := (mkF m 21 #[.val (.ref a1), .val (.ref a2), .val (.int ((1 : Int32) &&& (1 : Int32))), .val (.int ((0 : Int32) + (1 : Int32)))] [(.int ((0 : Int32) + (1 : Int32))), (.int ((1 : Int32) &&& (1 : Int32)))])) rfl (hb hby d1_21)
  obtain ⟨T9, h9, X9, e9, W9, st9⟩ := putFN X7 hx hZ hown (hw _ (List.mem_of_getElem? (i := 14) rfl)) Via.refl e7 (F_processorsAlone_a1.other W4 (Or.inr (slot_ne (Or.inr (hw _ (List.mem_of_getElem? (i := 15) rfl))) (Or.inr (hw _ (List.mem_of_getElem? (i := 11) rfl))) (by decide) (t := .boolean) (t' := (.array .long)) (by decide) (by decide)))) (E_a1.wr W4) (Or.inr ⟨(hw _ (List.mem_of_getElem? (i := 15) rfl)), rfl, hnm⟩) (hw _ (List.mem_of_getElem? (i := 2) rfl)) (ty := .boolean) (v' := (.int (nar .boolean (((1 : Int32) &&& (1 : Int32)) &&& (1 : Int32))))) (by decide) rfl (fits_nar_bool _) (g := (mkF m 50 #[.val (.ref a1), .val (.ref a2), .val (.int (((1 : Int32) &&& (1 : Int32)) &&& (1 : Int32))), .val (.int (((0 : Int32) + (1 : Int32)) + (1 : Int32)))] [(.int (((1 : Int32) &&& (1 : Int32)) &&& (1 : Int32))), (.ref a1)])) rfl rfl (hb hby d1_50)
  have Fw9 := (F_processorsAlone_a1.other W4 (Or.inr (slot_ne (Or.inr (hw _ (List.mem_of_getElem? (i := 15) rfl))) (Or.inr (hw _ (List.mem_of_getElem? (i := 11) rfl))) (by decide) (t := .boolean) (t' := (.array .long)) (by decide) (by decide)))).same W9
  have K9 : Keep h0 h9 [a1] := K4.wr W9 (Or.inl (List.mem_of_getElem? (i := 0) rfl))
  have N9 := Fr.snoc X9 N4 g_a1
  obtain ⟨fs, hr, hrun, hended, hW, hsame⟩ := X9.leave (v := none) (fun _ => rfl)
  refine ⟨_, _, pre0 _ ?_, hrun, hended, _, _, rfl, ?_, ⟨_, rfl⟩, hW, hsame.mono (by decide) (by decide)⟩
  · show Steps p.tables e below (s₁.setTop (mkF m 0 #[.val (.ref a1), .val (.ref a2), .unset, .unset] [])) _
    refine XS.aloadN X0.here hx rfl (hb hby d1_0) rfl rfl ?_
    show Steps p.tables e below (s₁.setTop (mkF m 1 #[.val (.ref a1), .val (.ref a2), .unset, .unset] [(.ref a1)])) _
    refine st3 _ ?_
    show Steps p.tables e below (T3.setTop (mkF m 4 #[.val (.ref a1), .val (.ref a2), .unset, .unset] [])) _
    refine XS.aloadN X3.here hx rfl (hb hby d1_4) rfl rfl ?_
    show Steps p.tables e below (T3.setTop (mkF m 5 #[.val (.ref a1), .val (.ref a2), .unset, .unset] [(.ref a1)])) _
    refine XS.aloadN X3.here hx rfl (hb hby d1_5) rfl rfl ?_
    show Steps p.tables e below (T3.setTop (mkF m 6 #[.val (.ref a1), .val (.ref a2), .unset, .unset] [(.ref a2), (.ref a1)])) _
    refine st4 _ ?_
    show Steps p.tables e below (T4.setTop (mkF m 9 #[.val (.ref a1), .val (.ref a2), .unset, .unset] [])) _
    refine XS.iconst X4.here hx rfl (hb hby d1_9) ?_
    show Steps p.tables e below (T4.setTop (mkF m 10 #[.val (.ref a1), .val (.ref a2), .unset, .unset] [(.int (1 : Int32))])) _
    refine XS.istoreN X4.here hx rfl (hb hby d1_10) rfl (l' := #[.val (.ref a1), .val (.ref a2), .val (.int (1 : Int32)), .unset]) rfl ?_
    show Steps p.tables e below (T4.setTop (mkF m 11 #[.val (.ref a1), .val (.ref a2), .val (.int (1 : Int32)), .unset] [])) _
    refine XS.iconst X4.here hx rfl (hb hby d1_11) ?_
    show Steps p.tables e below (T4.setTop (mkF m 12 #[.val (.ref a1), .val (.ref a2), .val (.int (1 : Int32)), .unset] [(.int (0 : Int32))])) _
    refine XS.istoreN X4.here hx rfl (hb hby d1_12) rfl (l' := #[.val (.ref a1), .val (.ref a2), .val (.int (1 : Int32)), .val (.int (0 : Int32))]) rfl ?_
    show Steps p.tables e below (T4.setTop (mkF m 13 #[.val (.ref a1), .val (.ref a2), .val (.int (1 : Int32)), .val (.int (0 : Int32))] [])) _
    refine XS.iloadN X4.here hx rfl (hb hby d1_13) rfl ?_
    show Steps p.tables e below (T4.setTop (mkF m 14 #[.val (.ref a1), .val (.ref a2), .val (.int (1 : Int32)), .val (.int (0 : Int32))] [(.int (0 : Int32))])) _
    refine XS.aloadN X4.here hx rfl (hb hby d1_14) rfl rfl ?_
    show Steps p.tables e below (T4.setTop (mkF m 15 #[.val (.ref a1), .val (.ref a2), .val (.int (1 : Int32)), .val (.int (0 : Int32))] [(.ref a2), (.int (0 : Int32))])) _
    refine X4.arraylength hx (by rw [e4]; exact Ar_a2.1) (State.isArrayOf_alike hZ.alike Ar_a2.2.1) (g := (mkF m 15 #[.val (.ref a1), .val (.ref a2), .val (.int (1 : Int32)), .val (.int (0 : Int32))] [(.ref a2), (.int (0 : Int32))])) rfl rfl (hb hby d1_15) _ ?_
    rw [len_of S_a2 N_a2]
    show Steps p.tables e below (T4.setTop (mkF m 16 #[.val (.ref a1), .val (.ref a2), .val (.int (1 : Int32)), .val (.int (0 : Int32))] [(.int z_a2), (.int (0 : Int32))])) _
    refine XS.icmpNo X4.here hx rfl (hb hby d1_16) rfl (tlt hc16).2.1 ?_
    show Steps p.tables e below (T4.setTop (mkF m 19 #[.val (.ref a1), .val (.ref a2), .val (.int (1 : Int32)), .val (.int (0 : Int32))] [])) _
    refine XS.iloadN X4.here hx rfl (hb hby d1_19) rfl ?_
    show Steps p.tables e below (T4.setTop (mkF m 20 #[.val (.ref a1), .val (.ref a2), .val (.int (1 : Int32)), .val (.int (0 : Int32))] [(.int (1 : Int32))])) _
    refine XS.iloadN X4.here hx rfl (hb hby d1_20) rfl ?_
    show Steps p.tables e below (T4.setTop (mkF m 21 #[.val (.ref a1), .val (.ref a2), .val (.int (1 : Int32)), .val (.int (0 : Int32))] [(.int (0 : Int32)), (.int (1 : Int32))])) _
    refine st6 _ ?_
    show Steps p.tables e below (T6.setTop (mkF m 24 #[.val (.ref a1), .val (.ref a2), .val (.int (1 : Int32)), .val (.int (0 : Int32))] [(.int w5), (.int (0 : Int32)), (.int (1 : Int32))])) _
    refine XS.icmpYes X6.here hx rfl (pc0 := 24) (pc' := 35) rfl (hb hby d1_24) rfl (teq hc24).1 (by decide) (by decide) ?_
    show Steps p.tables e below (T6.setTop (mkF m 35 #[.val (.ref a1), .val (.ref a2), .val (.int (1 : Int32)), .val (.int (0 : Int32))] [(.int (1 : Int32))])) _
    refine XS.iconst X6.here hx rfl (hb hby d1_35) ?_
    show Steps p.tables e below (T6.setTop (mkF m 36 #[.val (.ref a1), .val (.ref a2), .val (.int (1 : Int32)), .val (.int (0 : Int32))] [(.int (1 : Int32)), (.int (1 : Int32))])) _
    refine XS.goto X6.here hx rfl (pc0 := 36) (pc' := 40) rfl (hb hby d1_36) (by decide) (by decide) ?_
    show Steps p.tables e below (T6.setTop (mkF m 40 #[.val (.ref a1), .val (.ref a2), .val (.int (1 : Int32)), .val (.int (0 : Int32))] [(.int (1 : Int32)), (.int (1 : Int32))])) _
    refine XS.iand X6.here hx rfl (hb hby d1_40) rfl ?_
    show Steps p.tables e below (T6.setTop (mkF m 41 #[.val (.ref a1), .val (.ref a2), .val (.int (1 : Int32)), .val (.int (0 : Int32))] [(.int ((1 : Int32) &&& (1 : Int32)))])) _
    refine XS.istoreN X6.here hx rfl (hb hby d1_41) rfl (l' := #[.val (.ref a1), .val (.ref a2), .val (.int ((1 : Int32) &&& (1 : Int32))), .val (.int (0 : Int32))]) rfl ?_
    show Steps p.tables e below (T6.setTop (mkF m 42 #[.val (.ref a1), .val (.ref a2), .val (.int ((1 : Int32) &&& (1 : Int32))), .val (.int (0 : Int32))] [])) _
    refine XS.iinc X6.here hx rfl (hb hby d1_42) rfl (l' := #[.val (.ref a1), .val (.ref a2), .val (.int ((1 : Int32) &&& (1 : Int32))), .val (.int ((0 : Int32) + (1 : Int32)))]) rfl ?_
    show Steps p.tables e below (T6.setTop (mkF m 45 #[.val (.ref a1), .val (.ref a2), .val (.int ((1 : Int32) &&& (1 : Int32))), .val (.int ((0 : Int32) + (1 : Int32)))] [])) _
    refine XS.goto X6.here hx rfl (pc0 := 45) (pc' := 13) rfl (hb hby d1_45) (by decide) (by decide) ?_
    show Steps p.tables e below (T6.setTop (mkF m 13 #[.val (.ref a1), .val (.ref a2), .val (.int ((1 : Int32) &&& (1 : Int32))), .val (.int ((0 : Int32) + (1 : Int32)))] [])) _
    refine XS.iloadN X6.here hx rfl (hb hby d1_13) rfl ?_
    show Steps p.tables e below (T6.setTop (mkF m 14 #[.val (.ref a1), .val (.ref a2), .val (.int ((1 : Int32) &&& (1 : Int32))), .val (.int ((0 : Int32) + (1 : Int32)))] [(.int ((0 : Int32) + (1 : Int32)))])) _
    refine XS.aloadN X6.here hx rfl (hb hby d1_14) rfl rfl ?_
    show Steps p.tables e below (T6.setTop (mkF m 15 #[.val (.ref a1), .val (.ref a2), .val (.int ((1 : Int32) &&& (1 : Int32))), .val (.int ((0 : Int32) + (1 : Int32)))] [(.ref a2), (.int ((0 : Int32) + (1 : Int32)))])) _
    refine X6.arraylength hx (by rw [e6]; exact Ar_a2.1) (State.isArrayOf_alike hZ.alike Ar_a2.2.1) (g := (mkF m 15 #[.val (.ref a1), .val (.ref a2), .val (.int ((1 : Int32) &&& (1 : Int32))), .val (.int ((0 : Int32) + (1 : Int32)))] [(.ref a2), (.int ((0 : Int32) + (1 : Int32)))])) rfl rfl (hb hby d1_15) _ ?_
    rw [len_of S_a2 N_a2]
    show Steps p.tables e below (T6.setTop (mkF m 16 #[.val (.ref a1), .val (.ref a2), .val (.int ((1 : Int32) &&& (1 : Int32))), .val (.int ((0 : Int32) + (1 : Int32)))] [(.int z_a2), (.int ((0 : Int32) + (1 : Int32)))])) _
    refine XS.icmpNo X6.here hx rfl (hb hby d1_16) rfl (tlt hc16_2).2.1 ?_
    show Steps p.tables e below (T6.setTop (mkF m 19 #[.val (.ref a1), .val (.ref a2), .val (.int ((1 : Int32) &&& (1 : Int32))), .val (.int ((0 : Int32) + (1 : Int32)))] [])) _
    refine XS.iloadN X6.here hx rfl (hb hby d1_19) rfl ?_
    show Steps p.tables e below (T6.setTop (mkF m 20 #[.val (.ref a1), .val (.ref a2), .val (.int ((1 : Int32) &&& (1 : Int32))), .val (.int ((0 : Int32) + (1 : Int32)))] [(.int ((1 : Int32) &&& (1 : Int32)))])) _
    refine XS.iloadN X6.here hx rfl (hb hby d1_20) rfl ?_
    show Steps p.tables e below (T6.setTop (mkF m 21 #[.val (.ref a1), .val (.ref a2), .val (.int ((1 : Int32) &&& (1 : Int32))), .val (.int ((0 : Int32) + (1 : Int32)))] [(.int ((0 : Int32) + (1 : Int32))), (.int ((1 : Int32) &&& (1 : Int32)))])) _
    refine st7 _ ?_
    show Steps p.tables e below (T7.setTop (mkF m 24 #[.val (.ref a1), .val (.ref a2), .val (.int ((1 : Int32) &&& (1 : Int32))), .val (.int ((0 : Int32) + (1 : Int32)))] [(.int w5), (.int ((0 : Int32) + (1 : Int32))), (.int ((1 : Int32) &&& (1 : Int32)))])) _
    refine XS.icmpNo X7.here hx rfl (hb hby d1_24) rfl (feq hc24_2).1 ?_
    show Steps p.tables e below (T7.setTop (mkF m 27 #[.val (.ref a1), .val (.ref a2), .val (.int ((1 : Int32) &&& (1 : Int32))), .val (.int ((0 : Int32) + (1 : Int32)))] [(.int ((1 : Int32) &&& (1 : Int32)))])) _
    refine XS.aloadN X7.here hx rfl (hb hby d1_27) rfl rfl ?_
    show Steps p.tables e below (T7.setTop (mkF m 28 #[.val (.ref a1), .val (.ref a2), .val (.int ((1 : Int32) &&& (1 : Int32))), .val (.int ((0 : Int32) + (1 : Int32)))] [(.ref a2), (.int ((1 : Int32) &&& (1 : Int32)))])) _
    refine XS.iloadN X7.here hx rfl (hb hby d1_28) rfl ?_
    show Steps p.tables e below (T7.setTop (mkF m 29 #[.val (.ref a1), .val (.ref a2), .val (.int ((1 : Int32) &&& (1 : Int32))), .val (.int ((0 : Int32) + (1 : Int32)))] [(.int ((0 : Int32) + (1 : Int32))), (.ref a2), (.int ((1 : Int32) &&& (1 : Int32)))])) _
    refine X7.laload hx (j := ((0 : Int32) + (1 : Int32))) (v := (.long w8)) (by rw [e7]; exact Ar_a2.1) (State.isArrayOf_alike hZ.alike Ar_a2.2.1) Ar_a2.2.2 hin29 hat29 (g := (mkF m 29 #[.val (.ref a1), .val (.ref a2), .val (.int ((1 : Int32) &&& (1 : Int32))), .val (.int ((0 : Int32) + (1 : Int32)))] [(.int ((0 : Int32) + (1 : Int32))), (.ref a2), (.int ((1 : Int32) &&& (1 : Int32)))])) rfl rfl (hb hby d1_29) _ ?_
    show Steps p.tables e below (T7.setTop (mkF m 30 #[.val (.ref a1), .val (.ref a2), .val (.int ((1 : Int32) &&& (1 : Int32))), .val (.int ((0 : Int32) + (1 : Int32)))] [(.long w8), (.int ((1 : Int32) &&& (1 : Int32)))])) _
    refine XS.lconst X7.here hx rfl (hb hby d1_30) ?_
    show Steps p.tables e below (T7.setTop (mkF m 31 #[.val (.ref a1), .val (.ref a2), .val (.int ((1 : Int32) &&& (1 : Int32))), .val (.int ((0 : Int32) + (1 : Int32)))] [(.long (0 : Int64)), (.long w8), (.int ((1 : Int32) &&& (1 : Int32)))])) _
    refine XS.lcmp X7.here hx rfl (hb hby d1_31) rfl ?_
    show Steps p.tables e below (T7.setTop (mkF m 32 #[.val (.ref a1), .val (.ref a2), .val (.int ((1 : Int32) &&& (1 : Int32))), .val (.int ((0 : Int32) + (1 : Int32)))] [(.int (lcmpW w8 (0 : Int64))), (.int ((1 : Int32) &&& (1 : Int32)))])) _
    refine XS.ifNo X7.here hx rfl (hb hby d1_32) rfl ((if0 _ _).trans (teq hc32).2) ?_
    show Steps p.tables e below (T7.setTop (mkF m 35 #[.val (.ref a1), .val (.ref a2), .val (.int ((1 : Int32) &&& (1 : Int32))), .val (.int ((0 : Int32) + (1 : Int32)))] [(.int ((1 : Int32) &&& (1 : Int32)))])) _
    refine XS.iconst X7.here hx rfl (hb hby d1_35) ?_
    show Steps p.tables e below (T7.setTop (mkF m 36 #[.val (.ref a1), .val (.ref a2), .val (.int ((1 : Int32) &&& (1 : Int32))), .val (.int ((0 : Int32) + (1 : Int32)))] [(.int (1 : Int32)), (.int ((1 : Int32) &&& (1 : Int32)))])) _
    refine XS.goto X7.here hx rfl (pc0 := 36) (pc' := 40) rfl (hb hby d1_36) (by decide) (by decide) ?_
    show Steps p.tables e below (T7.setTop (mkF m 40 #[.val (.ref a1), .val (.ref a2), .val (.int ((1 : Int32) &&& (1 : Int32))), .val (.int ((0 : Int32) + (1 : Int32)))] [(.int (1 : Int32)), (.int ((1 : Int32) &&& (1 : Int32)))])) _
    refine XS.iand X7.here hx rfl (hb hby d1_40) rfl ?_
    show Steps p.tables e below (T7.setTop (mkF m 41 #[.val (.ref a1), .val (.ref a2), .val (.int ((1 : Int32) &&& (1 : Int32))), .val (.int ((0 : Int32) + (1 : Int32)))] [(.int (((1 : Int32) &&& (1 : Int32)) &&& (1 : Int32)))])) _
    refine XS.istoreN X7.here hx rfl (hb hby d1_41) rfl (l' := #[.val (.ref a1), .val (.ref a2), .val (.int (((1 : Int32) &&& (1 : Int32)) &&& (1 : Int32))), .val (.int ((0 : Int32) + (1 : Int32)))]) rfl ?_
    show Steps p.tables e below (T7.setTop (mkF m 42 #[.val (.ref a1), .val (.ref a2), .val (.int (((1 : Int32) &&& (1 : Int32)) &&& (1 : Int32))), .val (.int ((0 : Int32) + (1 : Int32)))] [])) _
    refine XS.iinc X7.here hx rfl (hb hby d1_42) rfl (l' := #[.val (.ref a1), .val (.ref a2), .val (.int (((1 : Int32) &&& (1 : Int32)) &&& (1 : Int32))), .val (.int (((0 : Int32) + (1 : Int32)) + (1 : Int32)))]) rfl ?_
    show Steps p.tables e below (T7.setTop (mkF m 45 #[.val (.ref a1), .val (.ref a2), .val (.int (((1 : Int32) &&& (1 : Int32)) &&& (1 : Int32))), .val (.int (((0 : Int32) + (1 : Int32)) + (1 : Int32)))] [])) _
    refine XS.goto X7.here hx rfl (pc0 := 45) (pc' := 13) rfl (hb hby d1_45) (by decide) (by decide) ?_
    show Steps p.tables e below (T7.setTop (mkF m 13 #[.val (.ref a1), .val (.ref a2), .val (.int (((1 : Int32) &&& (1 : Int32)) &&& (1 : Int32))), .val (.int (((0 : Int32) + (1 : Int32)) + (1 : Int32)))] [])) _
    refine XS.iloadN X7.here hx rfl (hb hby d1_13) rfl ?_
    show Steps p.tables e below (T7.setTop (mkF m 14 #[.val (.ref a1), .val (.ref a2), .val (.int (((1 : Int32) &&& (1 : Int32)) &&& (1 : Int32))), .val (.int (((0 : Int32) + (1 : Int32)) + (1 : Int32)))] [(.int (((0 : Int32) + (1 : Int32)) + (1 : Int32)))])) _
    refine XS.aloadN X7.here hx rfl (hb hby d1_14) rfl rfl ?_
    show Steps p.tables e below (T7.setTop (mkF m 15 #[.val (.ref a1), .val (.ref a2), .val (.int (((1 : Int32) &&& (1 : Int32)) &&& (1 : Int32))), .val (.int (((0 : Int32) + (1 : Int32)) + (1 : Int32)))] [(.ref a2), (.int (((0 : Int32) + (1 : Int32)) + (1 : Int32)))])) _
    refine X7.arraylength hx (by rw [e7]; exact Ar_a2.1) (State.isArrayOf_alike hZ.alike Ar_a2.2.1) (g := (mkF m 15 #[.val (.ref a1), .val (.ref a2), .val (.int (((1 : Int32) &&& (1 : Int32)) &&& (1 : Int32))), .val (.int (((0 : Int32) + (1 : Int32)) + (1 : Int32)))] [(.ref a2), (.int (((0 : Int32) + (1 : Int32)) + (1 : Int32)))])) rfl rfl (hb hby d1_15) _ ?_
    rw [len_of S_a2 N_a2]
    show Steps p.tables e below (T7.setTop (mkF m 16 #[.val (.ref a1), .val (.ref a2), .val (.int (((1 : Int32) &&& (1 : Int32)) &&& (1 : Int32))), .val (.int (((0 : Int32) + (1 : Int32)) + (1 : Int32)))] [(.int z_a2), (.int (((0 : Int32) + (1 : Int32)) + (1 : Int32)))])) _
    refine XS.icmpYes X7.here hx rfl (pc0 := 16) (pc' := 48) rfl (hb hby d1_16) rfl (flt hc16_3).2.1 (by decide) (by decide) ?_
    show Steps p.tables e below (T7.setTop (mkF m 48 #[.val (.ref a1), .val (.ref a2), .val (.int (((1 : Int32) &&& (1 : Int32)) &&& (1 : Int32))), .val (.int (((0 : Int32) + (1 : Int32)) + (1 : Int32)))] [])) _
    refine XS.aloadN X7.here hx rfl (hb hby d1_48) rfl rfl ?_
    show Steps p.tables e below (T7.setTop (mkF m 49 #[.val (.ref a1), .val (.ref a2), .val (.int (((1 : Int32) &&& (1 : Int32)) &&& (1 : Int32))), .val (.int (((0 : Int32) + (1 : Int32)) + (1 : Int32)))] [(.ref a1)])) _
    refine XS.iloadN X7.here hx rfl (hb hby d1_49) rfl ?_
    show Steps p.tables e below (T7.setTop (mkF m 50 #[.val (.ref a1), .val (.ref a2), .val (.int (((1 : Int32) &&& (1 : Int32)) &&& (1 : Int32))), .val (.int (((0 : Int32) + (1 : Int32)) + (1 : Int32)))] [(.int (((1 : Int32) &&& (1 : Int32)) &&& (1 : Int32))), (.ref a1)])) _
    refine st9 _ ?_
    show Steps p.tables e below (T9.setTop (mkF m 53 #[.val (.ref a1), .val (.ref a2), .val (.int (((1 : Int32) &&& (1 : Int32)) &&& (1 : Int32))), .val (.int (((0 : Int32) + (1 : Int32)) + (1 : Int32)))] [])) _
    exact X9.returnOut hx Bd.returns (hb hby d1_53) hr
  · show QC Z a1 a2 h0 n0 _ T9.heap _
    rw [e9]
    exact ⟨rfl, N9, K9, ((E_a1.wr W4).wr W9), (Fw4.other W9 (Or.inr (slot_ne (Or.inr (hw _ (List.mem_of_getElem? (i := 11) rfl))) (Or.inr (hw _ (List.mem_of_getElem? (i := 15) rfl))) (by decide) (t := (.array .long)) (t' := .boolean) (by decide) (by decide))))⟩
theorem rmC (l : Launch) (Z : State) (a0 : Array Value) (hw : ∀ d ∈ tables_1, d.before a0 Z = true) (ws : List Jvm.Cond) (a1 a2 : Addr) (k : ClassId) (x0 x1 : Int64) (h0 : Heap) (n0 : Nat) (Z0 : n0 ≤ h0.size) (E_a1 : Exa Z h0 a1 "com/example/slotwise/slotwise/engine/Resources") (F_amounts_a1 : Fld Z h0 a1 "com/example/slotwise/slotwise/engine/Resources" "amounts" "[J" .null) (F_processorsAlone_a1 : Fld Z h0 a1 "com/example/slotwise/slotwise/engine/Resources" "processorsAlone" "Z" (.int (0 : Int32))) (g_a1 : n0 ≤ a1) (V : Arv Z h0 a2 k .long (2 : Int32) [(.long x0), (.long x1)] (.long (0 : Int64))) (S_P : Sta Z h0 "com/example/slotwise/slotwise/engine/Resources" "PROCESSORS" "I" (.int (0 : Int32))) (hne : a2 ≠ a1) :
    MetFree l (⟨"com/example/slotwise/slotwise/engine/Resources", "<init>", "([J)V"⟩ : MethodName) (head1 (Jvm.Cond.code (⟨"com/example/slotwise/slotwise/engine/Resources", "<init>", "([J)V"⟩ : MethodName) prog_57_method_1_code 4 none :: ws) ({ frames := 1, cells := 0, slots := 0, locals := 12 } : Room)) (fun a U => a = #[(.ref a1), (.ref a2)] ∧ Z.Warmed39 U.vm ∧ U.heap = h0) (fun _ _ _ _ _ => True) (fun _ U o U' => ∃ v L, o = .returned v ∧ QC Z a1 a2 h0 n0 v U'.heap L ∧ FrameEnd U o U' L ({ frames := 1, cells := 0, slots := 0, locals := 12 } : Room).cells ({ frames := 1, cells := 0, slots := 0, locals := 12 } : Room).slots) := by
  obtain ⟨c, A, -, S, N, H, -⟩ := V
  have hin : ¬ (((0 : Int32) + (1 : Int32)) < 0 ∨ c.slots.size ≤ (((0 : Int32) + (1 : Int32))).toNatClampNeg) := inb_of S ⟨by decide, by decide⟩
  have hat : c.slots[(((0 : Int32) + (1 : Int32))).toNatClampNeg]? = some (.long x1) := H.at hin rfl
  by_cases q : lcmpW x1 (0 : Int64) = (0 : Int32)
  · exact rm1z l Z a0 hw ws (a1 := a1) (a2 := a2) (u_amounts_a1 := _) (cl_a2 := c) (z_a2 := (2 : Int32)) (w5 := (0 : Int32)) (w8 := x1) (u_processorsAlone_a1 := _) (h0 := h0) (n0 := n0) (Z0 := Z0) (E_a1 := E_a1) (F_amounts_a1 := F_amounts_a1) (g_a1 := g_a1) (Ar_a2 := A) (S_a2 := S) (N_a2 := N) (S_PROCESSORS := S_P) (hin29 := hin) (hat29 := hat) (F_processorsAlone_a1 := F_processorsAlone_a1) (hc16 := by decide) (hc24 := rfl) (hc16_2 := by decide) (hc24_2 := by decide) (hc32 := q) (hc16_3 := by decide) (hne := hne)
  · exact rm1n l Z a0 hw ws (a1 := a1) (a2 := a2) (u_amounts_a1 := _) (cl_a2 := c) (z_a2 := (2 : Int32)) (w5 := (0 : Int32)) (w8 := x1) (u_processorsAlone_a1 := _) (h0 := h0) (n0 := n0) (Z0 := Z0) (E_a1 := E_a1) (F_amounts_a1 := F_amounts_a1) (g_a1 := g_a1) (Ar_a2 := A) (S_a2 := S) (N_a2 := N) (S_PROCESSORS := S_P) (hin29 := hin) (hat29 := hat) (F_processorsAlone_a1 := F_processorsAlone_a1) (hc16 := by decide) (hc24 := rfl) (hc16_2 := by decide) (hc24_2 := by decide) (hc32 := q) (hc16_3 := by decide) (hne := hne)
def QF (val : Int32) (h0 : Heap) (n0 : Nat) (v : Option Value) (h : Heap) (L : List Loc) : Prop := v = some (.int val) ∧ Fr n0 L ∧ h = h0
theorem d3_0 : decode prog_57_method_14_code 0 = .ok (.iconst 0, 1) := by decide +kernel
theorem d3_1 : decode prog_57_method_14_code 1 = .ok (.istore_n 2, 1) := by decide +kernel
theorem d3_2 : decode prog_57_method_14_code 2 = .ok (.iload_n 2, 1) := by decide +kernel
theorem d3_3 : decode prog_57_method_14_code 3 = .ok (.aload_n 0, 1) := by decide +kernel
theorem d3_4 : decode prog_57_method_14_code 4 = .ok (.getfield 7, 3) := by decide +kernel
theorem d3_7 : decode prog_57_method_14_code 7 = .ok (.arraylength, 1) := by decide +kernel
theorem d3_8 : decode prog_57_method_14_code 8 = .ok (.if_icmp .ge 42, 3) := by decide +kernel
theorem d3_11 : decode prog_57_method_14_code 11 = .ok (.aload_n 0, 1) := by decide +kernel
theorem d3_12 : decode prog_57_method_14_code 12 = .ok (.getfield 7, 3) := by decide +kernel
theorem d3_15 : decode prog_57_method_14_code 15 = .ok (.iload_n 2, 1) := by decide +kernel
theorem d3_16 : decode prog_57_method_14_code 16 = .ok (.laload, 1) := by decide +kernel
theorem d3_17 : decode prog_57_method_14_code 17 = .ok (.getstatic 89, 3) := by decide +kernel
theorem d3_20 : decode prog_57_method_14_code 20 = .ok (.iload_n 2, 1) := by decide +kernel
theorem d3_21 : decode prog_57_method_14_code 21 = .ok (.laload, 1) := by decide +kernel
theorem d3_22 : decode prog_57_method_14_code 22 = .ok (.lcmp, 1) := by decide +kernel
theorem d3_23 : decode prog_57_method_14_code 23 = .ok (.ifCond .lt 19, 3) := by decide +kernel
theorem d3_42 : decode prog_57_method_14_code 42 = .ok (.iconst 0, 1) := by decide +kernel
theorem d3_43 : decode prog_57_method_14_code 43 = .ok (.ireturn, 1) := by decide +kernel
theorem pn_3 : plainName "com/example/slotwise/slotwise/engine/Resources" = true := by first | (simp [plainName, overriddenIn]; done) | decide +kernel
theorem ef_3 (m : MethodId) (x0 : Addr) (x1 : Addr) : entryFrame m #[(.ref x0), (.ref x1)] 3 = mkF m 0 #[.val (.ref x0), .val (.ref x1), .unset] [] := by first | (simp [entryFrame, mkF, argsToLocals, Value.category]; done) | rfl
set_option maxRecDepth 65536 in
set_option maxHeartbeats 40000000 in
theorem rm3a (l : Launch) (Z : State) (a0 : Array Value) (hw : ∀ d ∈ tables_1, d.before a0 Z = true) (ws : List Jvm.Cond) (a1 : Addr) (a2 : Addr) (w3 : Addr) (cl_w3 : Cell) (z_w3 : Int32) (w6 : Int64) (w7 : Addr) (w9 : Int64) (cl_w7 : Cell) (h0 : Heap) (n0 : Nat) (Z0 : n0 ≤ h0.size) (F_amounts_a1 : Fld Z h0 a1 "com/example/slotwise/slotwise/engine/Resources" "amounts" "[J" (.ref w3)) (Ar_w3 : Arr Z h0 w3 cl_w3 .long) (S_w3 : cl_w3.slots.size = z_w3.toNatClampNeg) (N_w3 : ¬ z_w3 < 0) (hin16 : ¬ ((0 : Int32) < 0 ∨ cl_w3.slots.size ≤ ((0 : Int32)).toNatClampNeg)) (hat16 : cl_w3.slots[((0 : Int32)).toNatClampNeg]? = some (.long w6)) (S_LEAST : Sta Z h0 "com/example/slotwise/slotwise/engine/Resources" "LEAST" "[J" (.ref w7)) (Ar_w7 : Arr Z h0 w7 cl_w7 .long) (hin21 : ¬ ((0 : Int32) < 0 ∨ cl_w7.slots.size ≤ ((0 : Int32)).toNatClampNeg)) (hat21 : cl_w7.slots[((0 : Int32)).toNatClampNeg]? = some (.long w9)) (hc8 : (0 : Int32) < z_w3) (hc23 : (lcmpW w6 w9) < (0 : Int32)) :
    MetFree l (⟨"com/example/slotwise/slotwise/engine/Resources", "canRunOn", "(Lcom/example/slotwise/slotwise/engine/Resources;)Z"⟩ : MethodName) (head1 (Jvm.Cond.code (⟨"com/example/slotwise/slotwise/engine/Resources", "canRunOn", "(Lcom/example/slotwise/slotwise/engine/Resources;)Z"⟩ : MethodName) prog_57_method_14_code 3 (some .boolean) :: ws) ({ frames := 0, cells := 0, slots := 0, locals := 0 } : Room)) (fun a U => a = #[(.ref a1), (.ref a2)] ∧ Z.Warmed39 U.vm ∧ U.heap = h0) (fun _ _ _ _ _ => True) (fun _ U o U' => ∃ v L, o = .returned v ∧ QF (0 : Int32) h0 n0 v U'.heap L ∧ FrameEnd U o U' L ({ frames := 0, cells := 0, slots := 0, locals := 0 } : Room).cells ({ frames := 0, cells := 0, slots := 0, locals := 0 } : Room).slots) := by
  refine MetFree.of_bodySF (plainFor_of_name pn_3) hisR ?_
  intro p e s m args below meth c s₁ Bd hml0 hP hK
  obtain ⟨rfl, hZ, hh⟩ := hP
  have hx := Bd.exec
  have hby := Bd.bytes
  have hml : c.maxLocals = 3 := hml0
  have hown : s.vm.findClass "com/example/slotwise/slotwise/engine/Resources" = some m.cls := findClass_of_methodNamed Bd.named
  have hnm := (name_of_methodNamed Bd.named Bd.method).1
  have X0 : Stand p l e ({ frames := 0, cells := 0, slots := 0, locals := 0 } : Room) s m #[(.ref a1), (.ref a2)] below meth c s₁ [] 0 0 := Stand.of_body Bd
  have e0 : s₁.heap = h0 := by rw [← hh, Bd.state]; rfl
  have N0 := Fr.nil n0
  have pre0 : ∀ t, Steps p.tables e below (s₁.setTop (mkF m 0 #[.val (.ref a1), .val (.ref a2), .unset] [])) t → Steps p.tables e below (s₁.setTop (entryFrame m #[(.ref a1), (.ref a2)] 3)) t := fun t k => castTop (ef_3 m a1 a2) k
  obtain ⟨T4, X4, e4, st4⟩ := getF X0 hx hZ hown (host := "") (Or.inl (hw _ (List.mem_of_getElem? (i := 10) rfl))) Via.refl e0 F_amounts_a1 (g := (mkF m 4 #[.val (.ref a1), .val (.ref a2), .val (.int (0 : Int32))] [(.ref a1), (.int (0 : Int32))])) rfl rfl (hb hby d3_4)
  obtain ⟨T5, X5, e5, st5⟩ := getF X4 hx hZ hown (host := "") (Or.inl (hw _ (List.mem_of_getElem? (i := 10) rfl))) Via.refl e4 F_amounts_a1 (g := (mkF m 12 #[.val (.ref a1), .val (.ref a2), .val (.int (0 : Int32))] [(.ref a1)])) rfl rfl (hb hby d3_12)
  obtain ⟨T8, X8, e8, st8⟩ := getS2 X5 hx hZ hown (host := "") (Or.inl (hw _ (List.mem_of_getElem? (i := 21) rfl))) Via.refl e5 S_LEAST (g := (mkF m 17 #[.val (.ref a1), .val (.ref a2), .val (.int (0 : Int32))] [(.long w6)])) rfl (hb hby d3_17)
  obtain ⟨fs, hr, hrun, hended, hW, hsame⟩ := X8.leave (v := some (.int (0 : Int32))) (fun h => by rw [Bd.returns] at h; cases h)
  refine ⟨_, _, pre0 _ ?_, hrun, hended, _, _, rfl, ?_, ⟨_, rfl⟩, hW, hsame.mono (by decide) (by decide)⟩
  · show Steps p.tables e below (s₁.setTop (mkF m 0 #[.val (.ref a1), .val (.ref a2), .unset] [])) _
    refine XS.iconst X0.here hx rfl (hb hby d3_0) ?_
    show Steps p.tables e below (s₁.setTop (mkF m 1 #[.val (.ref a1), .val (.ref a2), .unset] [(.int (0 : Int32))])) _
    refine XS.istoreN X0.here hx rfl (hb hby d3_1) rfl (l' := #[.val (.ref a1), .val (.ref a2), .val (.int (0 : Int32))]) rfl ?_
    show Steps p.tables e below (s₁.setTop (mkF m 2 #[.val (.ref a1), .val (.ref a2), .val (.int (0 : Int32))] [])) _
    refine XS.iloadN X0.here hx rfl (hb hby d3_2) rfl ?_
    show Steps p.tables e below (s₁.setTop (mkF m 3 #[.val (.ref a1), .val (.ref a2), .val (.int (0 : Int32))] [(.int (0 : Int32))])) _
    refine XS.aloadN X0.here hx rfl (hb hby d3_3) rfl rfl ?_
    show Steps p.tables e below (s₁.setTop (mkF m 4 #[.val (.ref a1), .val (.ref a2), .val (.int (0 : Int32))] [(.ref a1), (.int (0 : Int32))])) _
    refine st4 _ ?_
    show Steps p.tables e below (T4.setTop (mkF m 7 #[.val (.ref a1), .val (.ref a2), .val (.int (0 : Int32))] [(.ref w3), (.int (0 : Int32))])) _
    refine X4.arraylength hx (by rw [e4]; exact Ar_w3.1) (State.isArrayOf_alike hZ.alike Ar_w3.2.1) (g := (mkF m 7 #[.val (.ref a1), .val (.ref a2), .val (.int (0 : Int32))] [(.ref w3), (.int (0 : Int32))])) rfl rfl (hb hby d3_7) _ ?_
    rw [len_of S_w3 N_w3]
    show Steps p.tables e below (T4.setTop (mkF m 8 #[.val (.ref a1), .val (.ref a2), .val (.int (0 : Int32))] [(.int z_w3), (.int (0 : Int32))])) _
    refine XS.icmpNo X4.here hx rfl (hb hby d3_8) rfl (tlt hc8).2.1 ?_
    show Steps p.tables e below (T4.setTop (mkF m 11 #[.val (.ref a1), .val (.ref a2), .val (.int (0 : Int32))] [])) _
    refine XS.aloadN X4.here hx rfl (hb hby d3_11) rfl rfl ?_
    show Steps p.tables e below (T4.setTop (mkF m 12 #[.val (.ref a1), .val (.ref a2), .val (.int (0 : Int32))] [(.ref a1)])) _
    refine st5 _ ?_
    show Steps p.tables e below (T5.setTop (mkF m 15 #[.val (.ref a1), .val (.ref a2), .val (.int (0 : Int32))] [(.ref w3)])) _
    refine XS.iloadN X5.here hx rfl (hb hby d3_15) rfl ?_
    show Steps p.tables e below (T5.setTop (mkF m 16 #[.val (.ref a1), .val (.ref a2), .val (.int (0 : Int32))] [(.int (0 : Int32)), (.ref w3)])) _
    refine X5.laload hx (j := (0 : Int32)) (v := (.long w6)) (by rw [e5]; exact Ar_w3.1) (State.isArrayOf_alike hZ.alike Ar_w3.2.1) Ar_w3.2.2 hin16 hat16 (g := (mkF m 16 #[.val (.ref a1), .val (.ref a2), .val (.int (0 : Int32))] [(.int (0 : Int32)), (.ref w3)])) rfl rfl (hb hby d3_16) _ ?_
    show Steps p.tables e below (T5.setTop (mkF m 17 #[.val (.ref a1), .val (.ref a2), .val (.int (0 : Int32))] [(.long w6)])) _
    refine st8 _ ?_
    show Steps p.tables e below (T8.setTop (mkF m 20 #[.val (.ref a1), .val (.ref a2), .val (.int (0 : Int32))] [(.ref w7), (.long w6)])) _
    refine XS.iloadN X8.here hx rfl (hb hby d3_20) rfl ?_
    show Steps p.tables e below (T8.setTop (mkF m 21 #[.val (.ref a1), .val (.ref a2), .val (.int (0 : Int32))] [(.int (0 : Int32)), (.ref w7), (.long w6)])) _
    refine X8.laload hx (j := (0 : Int32)) (v := (.long w9)) (by rw [e8]; exact Ar_w7.1) (State.isArrayOf_alike hZ.alike Ar_w7.2.1) Ar_w7.2.2 hin21 hat21 (g := (mkF m 21 #[.val (.ref a1), .val (.ref a2), .val (.int (0 : Int32))] [(.int (0 : Int32)), (.ref w7), (.long w6)])) rfl rfl (hb hby d3_21) _ ?_
    show Steps p.tables e below (T8.setTop (mkF m 22 #[.val (.ref a1), .val (.ref a2), .val (.int (0 : Int32))] [(.long w9), (.long w6)])) _
    refine XS.lcmp X8.here hx rfl (hb hby d3_22) rfl ?_
    show Steps p.tables e below (T8.setTop (mkF m 23 #[.val (.ref a1), .val (.ref a2), .val (.int (0 : Int32))] [(.int (lcmpW w6 w9))])) _
    refine XS.ifYes X8.here hx rfl (pc0 := 23) (pc' := 42) rfl (hb hby d3_23) rfl ((if0 _ _).trans (tlt hc23).1) (by decide) (by decide) ?_
    show Steps p.tables e below (T8.setTop (mkF m 42 #[.val (.ref a1), .val (.ref a2), .val (.int (0 : Int32))] [])) _
    refine XS.iconst X8.here hx rfl (hb hby d3_42) ?_
    show Steps p.tables e below (T8.setTop (mkF m 43 #[.val (.ref a1), .val (.ref a2), .val (.int (0 : Int32))] [(.int (0 : Int32))])) _
    exact retN X8 hx (t := .boolean) Bd.returns (by simp) (hb hby d3_43) hr
  · show QF (0 : Int32) h0 n0 _ T8.heap _
    rw [e8]
    exact ⟨rfl, N0, rfl⟩
theorem rmRa (l : Launch) (Z : State) (a0 : Array Value) (hw : ∀ d ∈ tables_1, d.before a0 Z = true) (ws : List Jvm.Cond) (a1 a2 b1 b2 bL : Addr) (k1 k2 kL : ClassId) (x0 x1 y0 y1 : Int64) (h0 : Heap) (n0 : Nat) (Z0 : n0 ≤ h0.size) (F1 : Fld Z h0 a1 "com/example/slotwise/slotwise/engine/Resources" "amounts" "[J" (.ref b1)) (F2 : Fld Z h0 a2 "com/example/slotwise/slotwise/engine/Resources" "amounts" "[J" (.ref b2)) (S_L : Sta Z h0 "com/example/slotwise/slotwise/engine/Resources" "LEAST" "[J" (.ref bL)) (V1 : Arv Z h0 b1 k1 .long (2 : Int32) [(.long x0), (.long x1)] (.long (0 : Int64))) (V2 : Arv Z h0 b2 k2 .long (2 : Int32) [(.long y0), (.long y1)] (.long (0 : Int64))) (VL : Arv Z h0 bL kL .long (2 : Int32) [(.long (1 : Int64)), (.long (0 : Int64))] (.long (0 : Int64))) (c1 : (lcmpW x0 (1 : Int64)) < (0 : Int32)) :
    MetFree l (⟨"com/example/slotwise/slotwise/engine/Resources", "canRunOn", "(Lcom/example/slotwise/slotwise/engine/Resources;)Z"⟩ : MethodName) (head1 (Jvm.Cond.code (⟨"com/example/slotwise/slotwise/engine/Resources", "canRunOn", "(Lcom/example/slotwise/slotwise/engine/Resources;)Z"⟩ : MethodName) prog_57_method_14_code 3 (some .boolean) :: ws) ({ frames := 0, cells := 0, slots := 0, locals := 0 } : Room)) (fun a U => a = #[(.ref a1), (.ref a2)] ∧ Z.Warmed39 U.vm ∧ U.heap = h0) (fun _ _ _ _ _ => True) (fun _ U o U' => ∃ v L, o = .returned v ∧ QF (0 : Int32) h0 n0 v U'.heap L ∧ FrameEnd U o U' L ({ frames := 0, cells := 0, slots := 0, locals := 0 } : Room).cells ({ frames := 0, cells := 0, slots := 0, locals := 0 } : Room).slots) := by
  obtain ⟨c1', A1, -, S1, N1, H1, -⟩ := V1
  obtain ⟨c2', A2, -, S2, N2, H2, -⟩ := V2
  obtain ⟨cL', AL, -, SL, NL, HL, -⟩ := VL
  exact rm3a l Z a0 hw ws (a1 := a1) (a2 := a2) (w3 := b1) (cl_w3 := c1') (z_w3 := (2 : Int32)) (w6 := x0) (w7 := bL) (w9 := (1 : Int64)) (cl_w7 := cL') (h0 := h0) (n0 := n0) (Z0 := Z0) (F_amounts_a1 := F1) (Ar_w3 := A1) (S_w3 := S1) (N_w3 := N1) (hin16 := inb_of S1 ⟨by decide, by decide⟩) (hat16 := H1.at (inb_of S1 ⟨by decide, by decide⟩) rfl) (S_LEAST := S_L) (Ar_w7 := AL) (hin21 := inb_of SL ⟨by decide, by decide⟩) (hat21 := HL.at (inb_of SL ⟨by decide, by decide⟩) rfl) (hc8 := by decide) (hc23 := c1)
theorem d3_26 : decode prog_57_method_14_code 26 = .ok (.aload_n 0, 1) := by decide +kernel
theorem d3_27 : decode prog_57_method_14_code 27 = .ok (.getfield 7, 3) := by decide +kernel
theorem d3_30 : decode prog_57_method_14_code 30 = .ok (.iload_n 2, 1) := by decide +kernel
theorem d3_31 : decode prog_57_method_14_code 31 = .ok (.laload, 1) := by decide +kernel
theorem d3_32 : decode prog_57_method_14_code 32 = .ok (.aload_n 1, 1) := by decide +kernel
theorem d3_33 : decode prog_57_method_14_code 33 = .ok (.getfield 7, 3) := by decide +kernel
theorem d3_36 : decode prog_57_method_14_code 36 = .ok (.iload_n 2, 1) := by decide +kernel
theorem d3_37 : decode prog_57_method_14_code 37 = .ok (.laload, 1) := by decide +kernel
theorem d3_38 : decode prog_57_method_14_code 38 = .ok (.lcmp, 1) := by decide +kernel
theorem d3_39 : decode prog_57_method_14_code 39 = .ok (.ifCond .le 5, 3) := by decide +kernel
set_option maxRecDepth 65536 in
set_option maxHeartbeats 40000000 in
theorem rm3b (l : Launch) (Z : State) (a0 : Array Value) (hw : ∀ d ∈ tables_1, d.before a0 Z = true) (ws : List Jvm.Cond) (a1 : Addr) (a2 : Addr) (w3 : Addr) (cl_w3 : Cell) (z_w3 : Int32) (w6 : Int64) (w7 : Addr) (w9 : Int64) (cl_w7 : Cell) (w11 : Int64) (w12 : Addr) (w14 : Int64) (cl_w12 : Cell) (h0 : Heap) (n0 : Nat) (Z0 : n0 ≤ h0.size) (F_amounts_a1 : Fld Z h0 a1 "com/example/slotwise/slotwise/engine/Resources" "amounts" "[J" (.ref w3)) (Ar_w3 : Arr Z h0 w3 cl_w3 .long) (S_w3 : cl_w3.slots.size = z_w3.toNatClampNeg) (N_w3 : ¬ z_w3 < 0) (hin16 : ¬ ((0 : Int32) < 0 ∨ cl_w3.slots.size ≤ ((0 : Int32)).toNatClampNeg)) (hat16 : cl_w3.slots[((0 : Int32)).toNatClampNeg]? = some (.long w6)) (S_LEAST : Sta Z h0 "com/example/slotwise/slotwise/engine/Resources" "LEAST" "[J" (.ref w7)) (Ar_w7 : Arr Z h0 w7 cl_w7 .long) (hin21 : ¬ ((0 : Int32) < 0 ∨ cl_w7.slots.size ≤ ((0 : Int32)).toNatClampNeg)) (hat21 : cl_w7.slots[((0 : Int32)).toNatClampNeg]? = some (.long w9)) (hin31 : ¬ ((0 : Int32) < 0 ∨ cl_w3.slots.size ≤ ((0 : Int32)).toNatClampNeg)) (hat31 : cl_w3.slots[((0 : Int32)).toNatClampNeg]? = some (.long w11)) (F_amounts_a2 : Fld Z h0 a2 "com/example/slotwise/slotwise/engine/Resources" "amounts" "[J" (.ref w12)) (Ar_w12 : Arr Z h0 w12 cl_w12 .long) (hin37 : ¬ ((0 : Int32) < 0 ∨ cl_w12.slots.size ≤ ((0 : Int32)).toNatClampNeg)) (hat37 : cl_w12.slots[((0 : Int32)).toNatClampNeg]? = some (.long w14)) (hc8 : (0 : Int32) < z_w3) (hc23 : ¬ ((lcmpW w6 w9) < (0 : Int32))) (hc39 : (0 : Int32) < (lcmpW w11 w14)) :
    MetFree l (⟨"com/example/slotwise/slotwise/engine/Resources", "canRunOn", "(Lcom/example/slotwise/slotwise/engine/Resources;)Z"⟩ : MethodName) (head1 (Jvm.Cond.code (⟨"com/example/slotwise/slotwise/engine/Resources", "canRunOn", "(Lcom/example/slotwise/slotwise/engine/Resources;)Z"⟩ : MethodName) prog_57_method_14_code 3 (some .boolean) :: ws) ({ frames := 0, cells := 0, slots := 0, locals := 0 } : Room)) (fun a U => a = #[(.ref a1), (.ref a2)] ∧ Z.Warmed39 U.vm ∧ U.heap = h0) (fun _ _ _ _ _ => True) (fun _ U o U' => ∃ v L, o = .returned v ∧ QF (0 : Int32) h0 n0 v U'.heap L ∧ FrameEnd U o U' L ({ frames := 0, cells := 0, slots := 0, locals := 0 } : Room).cells ({ frames := 0, cells := 0, slots := 0, locals := 0 } : Room).slots) := by
  refine MetFree.of_bodySF (plainFor_of_name pn_3) hisR ?_
  intro p e s m args below meth c s₁ Bd hml0 hP hK
  obtain ⟨rfl, hZ, hh⟩ := hP
  have hx := Bd.exec
  have hby := Bd.bytes
  have hml : c.maxLocals = 3 := hml0
  have hown : s.vm.findClass "com/example/slotwise/slotwise/engine/Resources" = some m.cls := findClass_of_methodNamed Bd.named
  have hnm := (name_of_methodNamed Bd.named Bd.method).1
  have X0 : Stand p l e ({ frames := 0, cells := 0, slots := 0, locals := 0 } : Room) s m #[(.ref a1), (.ref a2)] below meth c s₁ [] 0 0 := Stand.of_body Bd
  have e0 : s₁.heap = h0 := by rw [← hh, Bd.state]; rfl
  have N0 := Fr.nil n0
  have pre0 : ∀ t, Steps p.tables e below (s₁.setTop (mkF m 0 #[.val (.ref a1), .val (.ref a2), .unset] [])) t → Steps p.tables e below (s₁.setTop (entryFrame m #[(.ref a1), (.ref a2)] 3)) t := fun t k => castTop (ef_3 m a1 a2) k
  obtain ⟨T4, X4, e4, st4⟩ := getF X0 hx hZ hown (host := "") (Or.inl (hw _ (List.mem_of_getElem? (i := 10) rfl))) Via.refl e0 F_amounts_a1 (g := (mkF m 4 #[.val (.ref a1), .val (.ref a2), .val (.int (0 : Int32))] [(.ref a1), (.int (0 : Int32))])) rfl rfl (hb hby d3_4)
  obtain ⟨T5, X5, e5, st5⟩ := getF X4 hx hZ hown (host := "") (Or.inl (hw _ (List.mem_of_getElem? (i := 10) rfl))) Via.refl e4 F_amounts_a1 (g := (mkF m 12 #[.val (.ref a1), .val (.ref a2), .val (.int (0 : Int32))] [(.ref a1)])) rfl rfl (hb hby d3_12)
  obtain ⟨T8, X8, e8, st8⟩ := getS2 X5 hx hZ hown (host := "") (Or.inl (hw _ (List.mem_of_getElem? (i := 21) rfl))) Via.refl e5 S_LEAST (g := (mkF m 17 #[.val (.ref a1), .val (.ref a2), .val (.int (0 : Int32))] [(.long w6)])) rfl (hb hby d3_17)
  obtain ⟨T10, X10, e10, st10⟩ := getF X8 hx hZ hown (host := "") (Or.inl (hw _ (List.mem_of_getElem? (i := 10) rfl))) Via.refl e8 F_amounts_a1 (g := (mkF m 27 #[.val (.ref a1), .val (.ref a2), .val (.int (0 : Int32))] [(.ref a1)])) rfl rfl (hb hby d3_27)
  obtain ⟨T13, X13, e13, st13⟩ := getF X10 hx hZ hown (host := "") (Or.inl (hw _ (List.mem_of_getElem? (i := 10) rfl))) Via.refl e10 F_amounts_a2 (g := (mkF m 33 #[.val (.ref a1), .val (.ref a2), .val (.int (0 : Int32))] [(.ref a2), (.long w11)])) rfl rfl (hb hby d3_33)
  obtain ⟨fs, hr, hrun, hended, hW, hsame⟩ := X13.leave (v := some (.int (0 : Int32))) (fun h => by rw [Bd.returns] at h; cases h)
  refine ⟨_, _, pre0 _ ?_, hrun, hended, _, _, rfl, ?_, ⟨_, rfl⟩, hW, hsame.mono (by decide) (by decide)⟩
  · show Steps p.tables e below (s₁.setTop (mkF m 0 #[.val (.ref a1), .val (.ref a2), .unset] [])) _
    refine XS.iconst X0.here hx rfl (hb hby d3_0) ?_
    show Steps p.tables e below (s₁.setTop (mkF m 1 #[.val (.ref a1), .val (.ref a2), .unset] [(.int (0 : Int32))])) _
    refine XS.istoreN X0.here hx rfl (hb hby d3_1) rfl (l' := #[.val (.ref a1), .val (.ref a2), .val (.int (0 : Int32))]) rfl ?_
    show Steps p.tables e below (s₁.setTop (mkF m 2 #[.val (.ref a1), .val (.ref a2), .val (.int (0 : Int32))] [])) _
    refine XS.iloadN X0.here hx rfl (hb hby d3_2) rfl ?_
    show Steps p.tables e below (s₁.setTop (mkF m 3 #[.val (.ref a1), .val (.ref a2), .val (.int (0 : Int32))] [(.int (0 : Int32))])) _
    refine XS.aloadN X0.here hx rfl (hb hby d3_3) rfl rfl ?_
    show Steps p.tables e below (s₁.setTop (mkF m 4 #[.val (.ref a1), .val (.ref a2), .val (.int (0 : Int32))] [(.ref a1), (.int (0 : Int32))])) _
    refine st4 _ ?_
    show Steps p.tables e below (T4.setTop (mkF m 7 #[.val (.ref a1), .val (.ref a2), .val (.int (0 : Int32))] [(.ref w3), (.int (0 : Int32))])) _
    refine X4.arraylength hx (by rw [e4]; exact Ar_w3.1) (State.isArrayOf_alike hZ.alike Ar_w3.2.1) (g := (mkF m 7 #[.val (.ref a1), .val (.ref a2), .val (.int (0 : Int32))] [(.ref w3), (.int (0 : Int32))])) rfl rfl (hb hby d3_7) _ ?_
    rw [len_of S_w3 N_w3]
    show Steps p.tables e below (T4.setTop (mkF m 8 #[.val (.ref a1), .val (.ref a2), .val (.int (0 : Int32))] [(.int z_w3), (.int (0 : Int32))])) _
    refine XS.icmpNo X4.here hx rfl (hb hby d3_8) rfl (tlt hc8).2.1 ?_
    show Steps p.tables e below (T4.setTop (mkF m 11 #[.val (.ref a1), .val (.ref a2), .val (.int (0 : Int32))] [])) _
    refine XS.aloadN X4.here hx rfl (hb hby d3_11) rfl rfl ?_
    show Steps p.tables e below (T4.setTop (mkF m 12 #[.val (.ref a1), .val (.ref a2), .val (.int (0 : Int32))] [(.ref a1)])) _
    refine st5 _ ?_
    show Steps p.tables e below (T5.setTop (mkF m 15 #[.val (.ref a1), .val (.ref a2), .val (.int (0 : Int32))] [(.ref w3)])) _
    refine XS.iloadN X5.here hx rfl (hb hby d3_15) rfl ?_
    show Steps p.tables e below (T5.setTop (mkF m 16 #[.val (.ref a1), .val (.ref a2), .val (.int (0 : Int32))] [(.int (0 : Int32)), (.ref w3)])) _
    refine X5.laload hx (j := (0 : Int32)) (v := (.long w6)) (by rw [e5]; exact Ar_w3.1) (State.isArrayOf_alike hZ.alike Ar_w3.2.1) Ar_w3.2.2 hin16 hat16 (g := (mkF m 16 #[.val (.ref a1), .val (.ref a2), .val (.int (0 : Int32))] [(.int (0 : Int32)), (.ref w3)])) rfl rfl (hb hby d3_16) _ ?_
    show Steps p.tables e below (T5.setTop (mkF m 17 #[.val (.ref a1), .val (.ref a2), .val (.int (0 : Int32))] [(.long w6)])) _
    refine st8 _ ?_
    show Steps p.tables e below (T8.setTop (mkF m 20 #[.val (.ref a1), .val (.ref a2), .val (.int (0 : Int32))] [(.ref w7), (.long w6)])) _
    refine XS.iloadN X8.here hx rfl (hb hby d3_20) rfl ?_
    show Steps p.tables e below (T8.setTop (mkF m 21 #[.val (.ref a1), .val (.ref a2), .val (.int (0 : Int32))] [(.int (0 : Int32)), (.ref w7), (.long w6)])) _
    refine X8.laload hx (j := (0 : Int32)) (v := (.long w9)) (by rw [e8]; exact Ar_w7.1) (State.isArrayOf_alike hZ.alike Ar_w7.2.1) Ar_w7.2.2 hin21 hat21 (g := (mkF m 21 #[.val (.ref a1), .val (.ref a2), .val (.int (0 : Int32))] [(.int (0 : Int32)), (.ref w7), (.long w6)])) rfl rfl (hb hby d3_21) _ ?_
    show Steps p.tables e below (T8.setTop (mkF m 22 #[.val (.ref a1), .val (.ref a2), .val (.int (0 : Int32))] [(.long w9), (.long w6)])) _
    refine XS.lcmp X8.here hx rfl (hb hby d3_22) rfl ?_
    show Steps p.tables e below (T8.setTop (mkF m 23 #[.val (.ref a1), .val (.ref a2), .val (.int (0 : Int32))] [(.int (lcmpW w6 w9))])) _
    refine XS.ifNo X8.here hx rfl (hb hby d3_23) rfl ((if0 _ _).trans (flt hc23).1) ?_
    show Steps p.tables e below (T8.setTop (mkF m 26 #[.val (.ref a1), .val (.ref a2), .val (.int (0 : Int32))] [])) _
    refine XS.aloadN X8.here hx rfl (hb hby d3_26) rfl rfl ?_
    show Steps p.tables e below (T8.setTop (mkF m 27 #[.val (.ref a1), .val (.ref a2), .val (.int (0 : Int32))] [(.ref a1)])) _
    refine st10 _ ?_
    show Steps p.tables e below (T10.setTop (mkF m 30 #[.val (.ref a1), .val (.ref a2), .val (.int (0 : Int32))] [(.ref w3)])) _
    refine XS.iloadN X10.here hx rfl (hb hby d3_30) rfl ?_
    show Steps p.tables e below (T10.setTop (mkF m 31 #[.val (.ref a1), .val (.ref a2), .val (.int (0 : Int32))] [(.int (0 : Int32)), (.ref w3)])) _
    refine X10.laload hx (j := (0 : Int32)) (v := (.long w11)) (by rw [e10]; exact Ar_w3.1) (State.isArrayOf_alike hZ.alike Ar_w3.2.1) Ar_w3.2.2 hin31 hat31 (g := (mkF m 31 #[.val (.ref a1), .val (.ref a2), .val (.int (0 : Int32))] [(.int (0 : Int32)), (.ref w3)])) rfl rfl (hb hby d3_31) _ ?_
    show Steps p.tables e below (T10.setTop (mkF m 32 #[.val (.ref a1), .val (.ref a2), .val (.int (0 : Int32))] [(.long w11)])) _
    refine XS.aloadN X10.here hx rfl (hb hby d3_32) rfl rfl ?_
    show Steps p.tables e below (T10.setTop (mkF m 33 #[.val (.ref a1), .val (.ref a2), .val (.int (0 : Int32))] [(.ref a2), (.long w11)])) _
    refine st13 _ ?_
    show Steps p.tables e below (T13.setTop (mkF m 36 #[.val (.ref a1), .val (.ref a2), .val (.int (0 : Int32))] [(.ref w12), (.long w11)])) _
    refine XS.iloadN X13.here hx rfl (hb hby d3_36) rfl ?_
    show Steps p.tables e below (T13.setTop (mkF m 37 #[.val (.ref a1), .val (.ref a2), .val (.int (0 : Int32))] [(.int (0 : Int32)), (.ref w12), (.long w11)])) _
    refine X13.laload hx (j := (0 : Int32)) (v := (.long w14)) (by rw [e13]; exact Ar_w12.1) (State.isArrayOf_alike hZ.alike Ar_w12.2.1) Ar_w12.2.2 hin37 hat37 (g := (mkF m 37 #[.val (.ref a1), .val (.ref a2), .val (.int (0 : Int32))] [(.int (0 : Int32)), (.ref w12), (.long w11)])) rfl rfl (hb hby d3_37) _ ?_
    show Steps p.tables e below (T13.setTop (mkF m 38 #[.val (.ref a1), .val (.ref a2), .val (.int (0 : Int32))] [(.long w14), (.long w11)])) _
    refine XS.lcmp X13.here hx rfl (hb hby d3_38) rfl ?_
    show Steps p.tables e below (T13.setTop (mkF m 39 #[.val (.ref a1), .val (.ref a2), .val (.int (0 : Int32))] [(.int (lcmpW w11 w14))])) _
    refine XS.ifNo X13.here hx rfl (hb hby d3_39) rfl ((if0 _ _).trans (tlt hc39).2.2.2) ?_
    show Steps p.tables e below (T13.setTop (mkF m 42 #[.val (.ref a1), .val (.ref a2), .val (.int (0 : Int32))] [])) _
    refine XS.iconst X13.here hx rfl (hb hby d3_42) ?_
    show Steps p.tables e below (T13.setTop (mkF m 43 #[.val (.ref a1), .val (.ref a2), .val (.int (0 : Int32))] [(.int (0 : Int32))])) _
    exact retN X13 hx (t := .boolean) Bd.returns (by simp) (hb hby d3_43) hr
  · show QF (0 : Int32) h0 n0 _ T13.heap _
    rw [e13]
    exact ⟨rfl, N0, rfl⟩
theorem rmRb (l : Launch) (Z : State) (a0 : Array Value) (hw : ∀ d ∈ tables_1, d.before a0 Z = true) (ws : List Jvm.Cond) (a1 a2 b1 b2 bL : Addr) (k1 k2 kL : ClassId) (x0 x1 y0 y1 : Int64) (h0 : Heap) (n0 : Nat) (Z0 : n0 ≤ h0.size) (F1 : Fld Z h0 a1 "com/example/slotwise/slotwise/engine/Resources" "amounts" "[J" (.ref b1)) (F2 : Fld Z h0 a2 "com/example/slotwise/slotwise/engine/Resources" "amounts" "[J" (.ref b2)) (S_L : Sta Z h0 "com/example/slotwise/slotwise/engine/Resources" "LEAST" "[J" (.ref bL)) (V1 : Arv Z h0 b1 k1 .long (2 : Int32) [(.long x0), (.long x1)] (.long (0 : Int64))) (V2 : Arv Z h0 b2 k2 .long (2 : Int32) [(.long y0), (.long y1)] (.long (0 : Int64))) (VL : Arv Z h0 bL kL .long (2 : Int32) [(.long (1 : Int64)), (.long (0 : Int64))] (.long (0 : Int64))) (c1 : ¬ ((lcmpW x0 (1 : Int64)) < (0 : Int32))) (c2 : (0 : Int32) < (lcmpW x0 y0)) :
    MetFree l (⟨"com/example/slotwise/slotwise/engine/Resources", "canRunOn", "(Lcom/example/slotwise/slotwise/engine/Resources;)Z"⟩ : MethodName) (head1 (Jvm.Cond.code (⟨"com/example/slotwise/slotwise/engine/Resources", "canRunOn", "(Lcom/example/slotwise/slotwise/engine/Resources;)Z"⟩ : MethodName) prog_57_method_14_code 3 (some .boolean) :: ws) ({ frames := 0, cells := 0, slots := 0, locals := 0 } : Room)) (fun a U => a = #[(.ref a1), (.ref a2)] ∧ Z.Warmed39 U.vm ∧ U.heap = h0) (fun _ _ _ _ _ => True) (fun _ U o U' => ∃ v L, o = .returned v ∧ QF (0 : Int32) h0 n0 v U'.heap L ∧ FrameEnd U o U' L ({ frames := 0, cells := 0, slots := 0, locals := 0 } : Room).cells ({ frames := 0, cells := 0, slots := 0, locals := 0 } : Room).slots) := by
  obtain ⟨c1', A1, -, S1, N1, H1, -⟩ := V1
  obtain ⟨c2', A2, -, S2, N2, H2, -⟩ := V2
  obtain ⟨cL', AL, -, SL, NL, HL, -⟩ := VL
  exact rm3b l Z a0 hw ws (a1 := a1) (a2 := a2) (w3 := b1) (cl_w3 := c1') (z_w3 := (2 : Int32)) (w6 := x0) (w7 := bL) (w9 := (1 : Int64)) (cl_w7 := cL') (w11 := x0) (w12 := b2) (w14 := y0) (cl_w12 := c2') (h0 := h0) (n0 := n0) (Z0 := Z0) (F_amounts_a1 := F1) (Ar_w3 := A1) (S_w3 := S1) (N_w3 := N1) (hin16 := inb_of S1 ⟨by decide, by decide⟩) (hat16 := H1.at (inb_of S1 ⟨by decide, by decide⟩) rfl) (S_LEAST := S_L) (Ar_w7 := AL) (hin21 := inb_of SL ⟨by decide, by decide⟩) (hat21 := HL.at (inb_of SL ⟨by decide, by decide⟩) rfl) (hin31 := inb_of S1 ⟨by decide, by decide⟩) (hat31 := H1.at (inb_of S1 ⟨by decide, by decide⟩) rfl) (F_amounts_a2 := F2) (Ar_w12 := A2) (hin37 := inb_of S2 ⟨by decide, by decide⟩) (hat37 := H2.at (inb_of S2 ⟨by decide, by decide⟩) rfl) (hc8 := by decide) (hc23 := c1) (hc39 := c2)
theorem d3_44 : decode prog_57_method_14_code 44 = .ok (.iinc 2 1, 3) := by decide +kernel
theorem d3_47 : decode prog_57_method_14_code 47 = .ok (.goto (-45), 3) := by decide +kernel
set_option maxRecDepth 65536 in
set_option maxHeartbeats 40000000 in
theorem rm3c (l : Launch) (Z : State) (a0 : Array Value) (hw : ∀ d ∈ tables_1, d.before a0 Z = true) (ws : List Jvm.Cond) (a1 : Addr) (a2 : Addr) (w3 : Addr) (cl_w3 : Cell) (z_w3 : Int32) (w6 : Int64) (w7 : Addr) (w9 : Int64) (cl_w7 : Cell) (w11 : Int64) (w12 : Addr) (w14 : Int64) (cl_w12 : Cell) (w17 : Int64) (w19 : Int64) (h0 : Heap) (n0 : Nat) (Z0 : n0 ≤ h0.size) (F_amounts_a1 : Fld Z h0 a1 "com/example/slotwise/slotwise/engine/Resources" "amounts" "[J" (.ref w3)) (Ar_w3 : Arr Z h0 w3 cl_w3 .long) (S_w3 : cl_w3.slots.size = z_w3.toNatClampNeg) (N_w3 : ¬ z_w3 < 0) (hin16 : ¬ ((0 : Int32) < 0 ∨ cl_w3.slots.size ≤ ((0 : Int32)).toNatClampNeg)) (hat16 : cl_w3.slots[((0 : Int32)).toNatClampNeg]? = some (.long w6)) (S_LEAST : Sta Z h0 "com/example/slotwise/slotwise/engine/Resources" "LEAST" "[J" (.ref w7)) (Ar_w7 : Arr Z h0 w7 cl_w7 .long) (hin21 : ¬ ((0 : Int32) < 0 ∨ cl_w7.slots.size ≤ ((0 : Int32)).toNatClampNeg)) (hat21 : cl_w7.slots[((0 : Int32)).toNatClampNeg]? = some (.long w9)) (hin31 : ¬ ((0 : Int32) < 0 ∨ cl_w3.slots.size ≤ ((0 : Int32)).toNatClampNeg)) (hat31 : cl_w3.slots[((0 : Int32)).toNatClampNeg]? = some (.long w11)) (F_amounts_a2 : Fld Z h0 a2 "com/example/slotwise/slotwise/engine/Resources" "amounts" "[J" (.ref w12)) (Ar_w12 : Arr Z h0 w12 cl_w12 .long) (hin37 : ¬ ((0 : Int32) < 0 ∨ cl_w12.slots.size ≤ ((0 : Int32)).toNatClampNeg)) (hat37 : cl_w12.slots[((0 : Int32)).toNatClampNeg]? = some (.long w14)) (hin16_2 : ¬ (((0 : Int32) + (1 : Int32)) < 0 ∨ cl_w3.slots.size ≤ (((0 : Int32) + (1 : Int32))).toNatClampNeg)) (hat16_2 : cl_w3.slots[(((0 : Int32) + (1 : Int32))).toNatClampNeg]? = some (.long w17)) (hin21_2 : ¬ (((0 : Int32) + (1 : Int32)) < 0 ∨ cl_w7.slots.size ≤ (((0 : Int32) + (1 : Int32))).toNatClampNeg)) (hat21_2 : cl_w7.slots[(((0 : Int32) + (1 : Int32))).toNatClampNeg]? = some (.long w19)) (hc8 : (0 : Int32) < z_w3) (hc23 : ¬ ((lcmpW w6 w9) < (0 : Int32))) (hc39 : ¬ ((0 : Int32) < (lcmpW w11 w14))) (hc8_2 : ((0 : Int32) + (1 : Int32)) < z_w3) (hc23_2 : (lcmpW w17 w19) < (0 : Int32)) :
    MetFree l (⟨"com/example/slotwise/slotwise/engine/Resources", "canRunOn", "(Lcom/example/slotwise/slotwise/engine/Resources;)Z"⟩ : MethodName) (head1 (Jvm.Cond.code (⟨"com/example/slotwise/slotwise/engine/Resources", "canRunOn", "(Lcom/example/slotwise/slotwise/engine/Resources;)Z"⟩ : MethodName) prog_57_method_14_code 3 (some .boolean) :: ws) ({ frames := 0, cells := 0, slots := 0, locals := 0 } : Room)) (fun a U => a = #[(.ref a1), (.ref a2)] ∧ Z.Warmed39 U.vm ∧ U.heap = h0) (fun _ _ _ _ _ => True) (fun _ U o U' => ∃ v L, o = .returned v ∧ QF (0 : Int32) h0 n0 v U'.heap L ∧ FrameEnd U o U' L ({ frames := 0, cells := 0, slots := 0, locals := 0 } : Room).cells ({ frames := 0, cells := 0, slots := 0, locals := 0 } : Room).slots) := by
  refine MetFree.of_bodySF (plainFor_of_name pn_3) hisR ?_
  intro p e s m args below meth c s₁ Bd hml0 hP hK
  obtain ⟨rfl, hZ, hh⟩ := hP
  have hx := Bd.exec
  have hby := Bd.bytes
  have hml : c.maxLocals = 3 := hml0
  have hown : s.vm.findClass "com/example/slotwise/slotwise/engine/Resources" = some m.cls := findClass_of_methodNamed Bd.named
  have hnm := (name_of_methodNamed Bd.named Bd.method).1
  have X0 : Stand p l e ({ frames := 0, cells := 0, slots := 0, locals := 0 } : Room) s m #[(.ref a1), (.ref a2)] below meth c s₁ [] 0 0 := Stand.of_body Bd
  have e0 : s₁.heap = h0 := by rw [← hh, Bd.state]; rfl
  have N0 := Fr.nil n0
  have pre0 : ∀ t, Steps p.tables e below (s₁.setTop (mkF m 0 #[.val (.ref a1), .val (.ref a2), .unset] [])) t → Steps p.tables e below (s₁.setTop (entryFrame m #[(.ref a1), (.ref a2)] 3)) t := fun t k => castTop (ef_3 m a1 a2) k
  obtain ⟨T4, X4, e4, st4⟩ := getF X0 hx hZ hown (host := "") (Or.inl (hw _ (List.mem_of_getElem? (i := 10) rfl))) Via.refl e0 F_amounts_a1 (g := (mkF m 4 #[.val (.ref a1), .val (.ref a2), .val (.int (0 : Int32))] [(.ref a1), (.int (0 : Int32))])) rfl rfl (hb hby d3_4)
  obtain ⟨T5, X5, e5, st5⟩ := getF X4 hx hZ hown (host := "") (Or.inl (hw _ (List.mem_of_getElem? (i := 10) rfl))) Via.refl e4 F_amounts_a1 (g := (mkF m 12 #[.val (.ref a1), .val (.ref a2), .val (.int (0 : Int32))] [(.ref a1)])) rfl rfl (hb hby d3_12)
  obtain ⟨T8, X8, e8, st8⟩ := getS2 X5 hx hZ hown (host := "") (Or.inl (hw _ (List.mem_of_getElem? (i := 21) rfl))) Via.refl e5 S_LEAST (g := (mkF m 17 #[.val (.ref a1), .val (.ref a2), .val (.int (0 : Int32))] [(.long w6)])) rfl (hb hby d3_17)
  obtain ⟨T10, X10, e10, st10⟩ := getF X8 hx hZ hown (host := "") (Or.inl (hw _ (List.mem_of_getElem? (i := 10) rfl))) Via.refl e8 F_amounts_a1 (g := (mkF m 27 #[.val (.ref a1), .val (.ref a2), .val (.int (0 : Int32))] [(.ref a1)])) rfl rfl (hb hby d3_27)
  obtain ⟨T13, X13, e13, st13⟩ := getF X10 hx hZ hown (host := "") (Or.inl (hw _ (List.mem_of_getElem? (i := 10) rfl))) Via.refl e10 F_amounts_a2 (g := (mkF m 33 #[.val (.ref a1), .val (.ref a2), .val (.int (0 : Int32))] [(.ref a2), (.long w11)])) rfl rfl (hb hby d3_33)
  obtain ⟨T15, X15, e15, st15⟩ := getF X13 hx hZ hown (host := "") (Or.inl (hw _ (List.mem_of_getElem? (i := 10) rfl))) Via.refl e13 F_amounts_a1 (g := (mkF m 4 #[.val (.ref a1), .val (.ref a2), .val (.int ((0 : Int32) + (1 : Int32)))] [(.ref a1), (.int ((0 : Int32) + (1 : Int32)))])) rfl rfl (hb hby d3_4)
  obtain ⟨T16, X16, e16, st16⟩ := getF X15 hx hZ hown (host := "") (Or.inl (hw _ (List.mem_of_getElem? (i := 10) rfl))) Via.refl e15 F_amounts_a1 (g := (mkF m 12 #[.val (.ref a1), .val (.ref a2), .val (.int ((0 : Int32) + (1 : Int32)))] [(.ref a1)])) rfl rfl (hb hby d3_12)
  obtain ⟨T18, X18, e18, st18⟩ := getS2 X16 hx hZ hown (host := "") (Or.inl (hw _ (List.mem_of_getElem? (i := 21) rfl))) Via.refl e16 S_LEAST (g := (mkF m 17 #[.val (.ref a1), .val (.ref a2), .val (.int ((0 : Int32) + (1 : Int32)))] [(.long w17)])) rfl (hb hby d3_17)
  obtain ⟨fs, hr, hrun, hended, hW, hsame⟩ := X18.leave (v := some (.int (0 : Int32))) (fun h => by rw [Bd.returns] at h; cases h)
  refine ⟨_, _, pre0 _ ?_, hrun, hended, _, _, rfl, ?_, ⟨_, rfl⟩, hW, hsame.mono (by decide) (by decide)⟩
  · show Steps p.tables e below (s₁.setTop (mkF m 0 #[.val (.ref a1), .val (.ref a2), .unset] [])) _
    refine XS.iconst X0.here hx rfl (hb hby d3_0) ?_
    show Steps p.tables e below (s₁.setTop (mkF m 1 #[.val (.ref a1), .val (.ref a2), .unset] [(.int (0 : Int32))])) _
    refine XS.istoreN X0.here hx rfl (hb hby d3_1) rfl (l' := #[.val (.ref a1), .val (.ref a2), .val (.int (0 : Int32))]) rfl ?_
    show Steps p.tables e below (s₁.setTop (mkF m 2 #[.val (.ref a1), .val (.ref a2), .val (.int (0 : Int32))] [])) _
    refine XS.iloadN X0.here hx rfl (hb hby d3_2) rfl ?_
    show Steps p.tables e below (s₁.setTop (mkF m 3 #[.val (.ref a1), .val (.ref a2), .val (.int (0 : Int32))] [(.int (0 : Int32))])) _
    refine XS.aloadN X0.here hx rfl (hb hby d3_3) rfl rfl ?_
    show Steps p.tables e below (s₁.setTop (mkF m 4 #[.val (.ref a1), .val (.ref a2), .val (.int (0 : Int32))] [(.ref a1), (.int (0 : Int32))])) _
    refine st4 _ ?_
    show Steps p.tables e below (T4.setTop (mkF m 7 #[.val (.ref a1), .val (.ref a2), .val (.int (0 : Int32))] [(.ref w3), (.int (0 : Int32))])) _
    refine X4.arraylength hx (by rw [e4]; exact Ar_w3.1) (State.isArrayOf_alike hZ.alike Ar_w3.2.1) (g := (mkF m 7 #[.val (.ref a1), .val (.ref a2), .val (.int (0 : Int32))] [(.ref w3), (.int (0 : Int32))])) rfl rfl (hb hby d3_7) _ ?_
    rw [len_of S_w3 N_w3]
    show Steps p.tables e below (T4.setTop (mkF m 8 #[.val (.ref a1), .val (.ref a2), .val (.int (0 : Int32))] [(.int z_w3), (.int (0 : Int32))])) _
    refine XS.icmpNo X4.here hx rfl (hb hby d3_8) rfl (tlt hc8).2.1 ?_
    show Steps p.tables e below (T4.setTop (mkF m 11 #[.val (.ref a1), .val (.ref a2), .val (.int (0 : Int32))] [])) _
    refine XS.aloadN X4.here hx rfl (hb hby d3_11) rfl rfl ?_
    show Steps p.tables e below (T4.setTop (mkF m 12 #[.val (.ref a1), .val (.ref a2), .val (.int (0 : Int32))] [(.ref a1)])) _
    refine st5 _ ?_
    show Steps p.tables e below (T5.setTop (mkF m 15 #[.val (.ref a1), .val (.ref a2), .val (.int (0 : Int32))] [(.ref w3)])) _
    refine XS.iloadN X5.here hx rfl (hb hby d3_15) rfl ?_
    show Steps p.tables e below (T5.setTop (mkF m 16 #[.val (.ref a1), .val (.ref a2), .val (.int (0 : Int32))] [(.int (0 : Int32)), (.ref w3)])) _
    refine X5.laload hx (j := (0 : Int32)) (v := (.long w6)) (by rw [e5]; exact Ar_w3.1) (State.isArrayOf_alike hZ.alike Ar_w3.2.1) Ar_w3.2.2 hin16 hat16 (g := (mkF m 16 #[.val (.ref a1), .val (.ref a2), .val (.int (0 : Int32))] [(.int (0 : Int32)), (.ref w3)])) rfl rfl (hb hby d3_16) _ ?_
    show Steps p.tables e below (T5.setTop (mkF m 17 #[.val (.ref a1), .val (.ref a2), .val (.int (0 : Int32))] [(.long w6)])) _
    refine st8 _ ?_
    show Steps p.tables e below (T8.setTop (mkF m 20 #[.val (.ref a1), .val (.ref a2), .val (.int (0 : Int32))] [(.ref w7), (.long w6)])) _
    refine XS.iloadN X8.here hx rfl (hb hby d3_20) rfl ?_
    show Steps p.tables e below (T8.setTop (mkF m 21 #[.val (.ref a1), .val (.ref a2), .val (.int (0 : Int32))] [(.int (0 : Int32)), (.ref w7), (.long w6)])) _
    refine X8.laload hx (j := (0 : Int32)) (v := (.long w9)) (by rw [e8]; exact Ar_w7.1) (State.isArrayOf_alike hZ.alike Ar_w7.2.1) Ar_w7.2.2 hin21 hat21 (g := (mkF m 21 #[.val (.ref a1), .val (.ref a2), .val (.int (0 : Int32))] [(.int (0 : Int32)), (.ref w7), (.long w6)])) rfl rfl (hb hby d3_21) _ ?_
    show Steps p.tables e below (T8.setTop (mkF m 22 #[.val (.ref a1), .val (.ref a2), .val (.int (0 : Int32))] [(.long w9), (.long w6)])) _
    refine XS.lcmp X8.here hx rfl (hb hby d3_22) rfl ?_
    show Steps p.tables e below (T8.setTop (mkF m 23 #[.val (.ref a1), .val (.ref a2), .val (.int (0 : Int32))] [(.int (lcmpW w6 w9))])) _
    refine XS.ifNo X8.here hx rfl (hb hby d3_23) rfl ((if0 _ _).trans (flt hc23).1) ?_
    show Steps p.tables e below (T8.setTop (mkF m 26 #[.val (.ref a1), .val (.ref a2), .val (.int (0 : Int32))] [])) _
    refine XS.aloadN X8.here hx rfl (hb hby d3_26) rfl rfl ?_
    show Steps p.tables e below (T8.setTop (mkF m 27 #[.val (.ref a1), .val (.ref a2), .val (.int (0 : Int32))] [(.ref a1)])) _
    refine st10 _ ?_
    show Steps p.tables e below (T10.setTop (mkF m 30 #[.val (.ref a1), .val (.ref a2), .val (.int (0 : Int32))] [(.ref w3)])) _
    refine XS.iloadN X10.here hx rfl (hb hby d3_30) rfl ?_
    show Steps p.tables e below (T10.setTop (mkF m 31 #[.val (.ref a1), .val (.ref a2), .val (.int (0 : Int32))] [(.int (0 : Int32)), (.ref w3)])) _
    refine X10.laload hx (j := (0 : Int32)) (v := (.long w11)) (by rw [e10]; exact Ar_w3.1) (State.isArrayOf_alike hZ.alike Ar_w3.2.1) Ar_w3.2.2 hin31 hat31 (g := (mkF m 31 #[.val (.ref a1), .val (.ref a2), .val (.int (0 : Int32))] [(.int (0 : Int32)), (.ref w3)])) rfl rfl (hb hby d3_31) _ ?_
    show Steps p.tables e below (T10.setTop (mkF m 32 #[.val (.ref a1), .val (.ref a2), .val (.int (0 : Int32))] [(.long w11)])) _
    refine XS.aloadN X10.here hx rfl (hb hby d3_32) rfl rfl ?_
    show Steps p.tables e below (T10.setTop (mkF m 33 #[.val (.ref a1), .val (.ref a2), .val (.int (0 : Int32))] [(.ref a2), (.long w11)])) _
    refine st13 _ ?_
    show Steps p.tables e below (T13.setTop (mkF m 36 #[.val (.ref a1), .val (.ref a2), .val (.int (0 : Int32))] [(.ref w12), (.long w11)])) _
    refine XS.iloadN X13.here hx rfl (hb hby d3_36) rfl ?_
    show Steps p.tables e below (T13.setTop (mkF m 37 #[.val (.ref a1), .val (.ref a2), .val (.int (0 : Int32))] [(.int (0 : Int32)), (.ref w12), (.long w11)])) _
    refine X13.laload hx (j := (0 : Int32)) (v := (.long w14)) (by rw [e13]; exact Ar_w12.1) (State.isArrayOf_alike hZ.alike Ar_w12.2.1) Ar_w12.2.2 hin37 hat37 (g := (mkF m 37 #[.val (.ref a1), .val (.ref a2), .val (.int (0 : Int32))] [(.int (0 : Int32)), (.ref w12), (.long w11)])) rfl rfl (hb hby d3_37) _ ?_
    show Steps p.tables e below (T13.setTop (mkF m 38 #[.val (.ref a1), .val (.ref a2), .val (.int (0 : Int32))] [(.long w14), (.long w11)])) _
    refine XS.lcmp X13.here hx rfl (hb hby d3_38) rfl ?_
    show Steps p.tables e below (T13.setTop (mkF m 39 #[.val (.ref a1), .val (.ref a2), .val (.int (0 : Int32))] [(.int (lcmpW w11 w14))])) _
    refine XS.ifYes X13.here hx rfl (pc0 := 39) (pc' := 44) rfl (hb hby d3_39) rfl ((if0 _ _).trans (flt hc39).2.2.2) (by decide) (by decide) ?_
    show Steps p.tables e below (T13.setTop (mkF m 44 #[.val (.ref a1), .val (.ref a2), .val (.int (0 : Int32))] [])) _
    refine XS.iinc X13.here hx rfl (hb hby d3_44) rfl (l' := #[.val (.ref a1), .val (.ref a2), .val (.int ((0 : Int32) + (1 : Int32)))]) rfl ?_
    show Steps p.tables e below (T13.setTop (mkF m 47 #[.val (.ref a1), .val (.ref a2), .val (.int ((0 : Int32) + (1 : Int32)))] [])) _
    refine XS.goto X13.here hx rfl (pc0 := 47) (pc' := 2) rfl (hb hby d3_47) (by decide) (by decide) ?_
    show Steps p.tables e below (T13.setTop (mkF m 2 #[.val (.ref a1), .val (.ref a2), .val (.int ((0 : Int32) + (1 : Int32)))] [])) _
    refine XS.iloadN X13.here hx rfl (hb hby d3_2) rfl ?_
    show Steps p.tables e below (T13.setTop (mkF m 3 #[.val (.ref a1), .val (.ref a2), .val (.int ((0 : Int32) + (1 : Int32)))] [(.int ((0 : Int32) + (1 : Int32)))])) _
    refine XS.aloadN X13.here hx rfl (hb hby d3_3) rfl rfl ?_
    show Steps p.tables e below (T13.setTop (mkF m 4 #[.val (.ref a1), .val (.ref a2), .val (.int ((0 : Int32) + (1 : Int32)))] [(.ref a1), (.int ((0 : Int32) + (1 : Int32)))])) _
    refine st15 _ ?_
    show Steps p.tables e below (T15.setTop (mkF m 7 #[.val (.ref a1), .val (.ref a2), .val (.int ((0 : Int32) + (1 : Int32)))] [(.ref w3), (.int ((0 : Int32) + (1 : Int32)))])) _
    refine X15.arraylength hx (by rw [e15]; exact Ar_w3.1) (State.isArrayOf_alike hZ.alike Ar_w3.2.1) (g := (mkF m 7 #[.val (.ref a1), .val (.ref a2), .val (.int ((0 : Int32) + (1 : Int32)))] [(.ref w3), (.int ((0 : Int32) + (1 : Int32)))])) rfl rfl (hb hby d3_7) _ ?_
    rw [len_of S_w3 N_w3]
    show Steps p.tables e below (T15.setTop (mkF m 8 #[.val (.ref a1), .val (.ref a2), .val (.int ((0 : Int32) + (1 : Int32)))] [(.int z_w3), (.int ((0 : Int32) + (1 : Int32)))])) _
    refine XS.icmpNo X15.here hx rfl (hb hby d3_8) rfl (tlt hc8_2).2.1 ?_
    show Steps p.tables e below (T15.setTop (mkF m 11 #[.val (.ref a1), .val (.ref a2), .val (.int ((0 : Int32) + (1 : Int32)))] [])) _
    refine XS.aloadN X15.here hx rfl (hb hby d3_11) rfl rfl ?_
    show Steps p.tables e below (T15.setTop (mkF m 12 #[.val (.ref a1), .val (.ref a2), .val (.int ((0 : Int32) + (1 : Int32)))] [(.ref a1)])) _
    refine st16 _ ?_
    show Steps p.tables e below (T16.setTop (mkF m 15 #[.val (.ref a1), .val (.ref a2), .val (.int ((0 : Int32) + (1 : Int32)))] [(.ref w3)])) _
    refine XS.iloadN X16.here hx rfl (hb hby d3_15) rfl ?_
    show Steps p.tables e below (T16.setTop (mkF m 16 #[.val (.ref a1), .val (.ref a2), .val (.int ((0 : Int32) + (1 : Int32)))] [(.int ((0 : Int32) + (1 : Int32))), (.ref w3)])) _
    refine X16.laload hx (j := ((0 : Int32) + (1 : Int32))) (v := (.long w17)) (by rw [e16]; exact Ar_w3.1) (State.isArrayOf_alike hZ.alike Ar_w3.2.1) Ar_w3.2.2 hin16_2 hat16_2 (g := (mkF m 16 #[.val (.ref a1), .val (.ref a2), .val (.int ((0 : Int32) + (1 : Int32)))] [(.int ((0 : Int32) + (1 : Int32))), (.ref w3)])) rfl rfl (hb hby d3_16) _ ?_
    show Steps p.tables e below (T16.setTop (mkF m 17 #[.val (.ref a1), .val (.ref a2), .val (.int ((0 : Int32) + (1 : Int32)))] [(.long w17)])) _
    refine st18 _ ?_
    show Steps p.tables e below (T18.setTop (mkF m 20 #[.val (.ref a1), .val (.ref a2), .val (.int ((0 : Int32) + (1 : Int32)))] [(.ref w7), (.long w17)])) _
    refine XS.iloadN X18.here hx rfl (hb hby d3_20) rfl ?_
    show Steps p.tables e below (T18.setTop (mkF m 21 #[.val (.ref a1), .val (.ref a2), .val (.int ((0 : Int32) + (1 : Int32)))] [(.int ((0 : Int32) + (1 : Int32))), (.ref w7), (.long w17)])) _
    refine X18.laload hx (j := ((0 : Int32) + (1 : Int32))) (v := (.long w19)) (by rw [e18]; exact Ar_w7.1) (State.isArrayOf_alike hZ.alike Ar_w7.2.1) Ar_w7.2.2 hin21_2 hat21_2 (g := (mkF m 21 #[.val (.ref a1), .val (.ref a2), .val (.int ((0 : Int32) + (1 : Int32)))] [(.int ((0 : Int32) + (1 : Int32))), (.ref w7), (.long w17)])) rfl rfl (hb hby d3_21) _ ?_
    show Steps p.tables e below (T18.setTop (mkF m 22 #[.val (.ref a1), .val (.ref a2), .val (.int ((0 : Int32) + (1 : Int32)))] [(.long w19), (.long w17)])) _
    refine XS.lcmp X18.here hx rfl (hb hby d3_22) rfl ?_
    show Steps p.tables e below (T18.setTop (mkF m 23 #[.val (.ref a1), .val (.ref a2), .val (.int ((0 : Int32) + (1 : Int32)))] [(.int (lcmpW w17 w19))])) _
    refine XS.ifYes X18.here hx rfl (pc0 := 23) (pc' := 42) rfl (hb hby d3_23) rfl ((if0 _ _).trans (tlt hc23_2).1) (by decide) (by decide) ?_
    show Steps p.tables e below (T18.setTop (mkF m 42 #[.val (.ref a1), .val (.ref a2), .val (.int ((0 : Int32) + (1 : Int32)))] [])) _
    refine XS.iconst X18.here hx rfl (hb hby d3_42) ?_
    show Steps p.tables e below (T18.setTop (mkF m 43 #[.val (.ref a1), .val (.ref a2), .val (.int ((0 : Int32) + (1 : Int32)))] [(.int (0 : Int32))])) _
    exact retN X18 hx (t := .boolean) Bd.returns (by simp) (hb hby d3_43) hr
  · show QF (0 : Int32) h0 n0 _ T18.heap _
    rw [e18]
    exact ⟨rfl, N0, rfl⟩
theorem rmRc (l : Launch) (Z : State) (a0 : Array Value) (hw : ∀ d ∈ tables_1, d.before a0 Z = true) (ws : List Jvm.Cond) (a1 a2 b1 b2 bL : Addr) (k1 k2 kL : ClassId) (x0 x1 y0 y1 : Int64) (h0 : Heap) (n0 : Nat) (Z0 : n0 ≤ h0.size) (F1 : Fld Z h0 a1 "com/example/slotwise/slotwise/engine/Resources" "amounts" "[J" (.ref b1)) (F2 : Fld Z h0 a2 "com/example/slotwise/slotwise/engine/Resources" "amounts" "[J" (.ref b2)) (S_L : Sta Z h0 "com/example/slotwise/slotwise/engine/Resources" "LEAST" "[J" (.ref bL)) (V1 : Arv Z h0 b1 k1 .long (2 : Int32) [(.long x0), (.long x1)] (.long (0 : Int64))) (V2 : Arv Z h0 b2 k2 .long (2 : Int32) [(.long y0), (.long y1)] (.long (0 : Int64))) (VL : Arv Z h0 bL kL .long (2 : Int32) [(.long (1 : Int64)), (.long (0 : Int64))] (.long (0 : Int64))) (c1 : ¬ ((lcmpW x0 (1 : Int64)) < (0 : Int32))) (c2 : ¬ ((0 : Int32) < (lcmpW x0 y0))) (c3 : (lcmpW x1 (0 : Int64)) < (0 : Int32)) :
    MetFree l (⟨"com/example/slotwise/slotwise/engine/Resources", "canRunOn", "(Lcom/example/slotwise/slotwise/engine/Resources;)Z"⟩ : MethodName) (head1 (Jvm.Cond.code (⟨"com/example/slotwise/slotwise/engine/Resources", "canRunOn", "(Lcom/example/slotwise/slotwise/engine/Resources;)Z"⟩ : MethodName) prog_57_method_14_code 3 (some .boolean) :: ws) ({ frames := 0, cells := 0, slots := 0, locals := 0 } : Room)) (fun a U => a = #[(.ref a1), (.ref a2)] ∧ Z.Warmed39 U.vm ∧ U.heap = h0) (fun _ _ _ _ _ => True) (fun _ U o U' => ∃ v L, o = .returned v ∧ QF (0 : Int32) h0 n0 v U'.heap L ∧ FrameEnd U o U' L ({ frames := 0, cells := 0, slots := 0, locals := 0 } : Room).cells ({ frames := 0, cells := 0, slots := 0, locals := 0 } : Room).slots) := by
  obtain ⟨c1', A1, -, S1, N1, H1, -⟩ := V1
  obtain ⟨c2', A2, -, S2, N2, H2, -⟩ := V2
  obtain ⟨cL', AL, -, SL, NL, HL, -⟩ := VL
  exact rm3c l Z a0 hw ws (a1 := a1) (a2 := a2) (w3 := b1) (cl_w3 := c1') (z_w3 := (2 : Int32)) (w6 := x0) (w7 := bL) (w9 := (1 : Int64)) (cl_w7 := cL') (w11 := x0) (w12 := b2) (w14 := y0) (cl_w12 := c2') (w17 := x1) (w19 := (0 : Int64)) (h0 := h0) (n0 := n0) (Z0 := Z0) (F_amounts_a1 := F1) (Ar_w3 := A1) (S_w3 := S1) (N_w3 := N1) (hin16 := inb_of S1 ⟨by decide, by decide⟩) (hat16 := H1.at (inb_of S1 ⟨by decide, by decide⟩) rfl) (S_LEAST := S_L) (Ar_w7 := AL) (hin21 := inb_of SL ⟨by decide, by decide⟩) (hat21 := HL.at (inb_of SL ⟨by decide, by decide⟩) rfl) (hin31 := inb_of S1 ⟨by decide, by decide⟩) (hat31 := H1.at (inb_of S1 ⟨by decide, by decide⟩) rfl) (F_amounts_a2 := F2) (Ar_w12 := A2) (hin37 := inb_of S2 ⟨by decide, by decide⟩) (hat37 := H2.at (inb_of S2 ⟨by decide, by decide⟩) rfl) (hin16_2 := inb_of S1 ⟨by decide, by decide⟩) (hat16_2 := H1.at (inb_of S1 ⟨by decide, by decide⟩) rfl) (hin21_2 := inb_of SL ⟨by decide, by decide⟩) (hat21_2 := HL.at (inb_of SL ⟨by decide, by decide⟩) rfl) (hc8 := by decide) (hc23 := c1) (hc39 := c2) (hc8_2 := by decide) (hc23_2 := c3)
set_option maxRecDepth 65536 in
set_option maxHeartbeats 40000000 in
theorem rm3d (l : Launch) (Z : State) (a0 : Array Value) (hw : ∀ d ∈ tables_1, d.before a0 Z = true) (ws : List Jvm.Cond) (a1 : Addr) (a2 : Addr) (w3 : Addr) (cl_w3 : Cell) (z_w3 : Int32) (w6 : Int64) (w7 : Addr) (w9 : Int64) (cl_w7 : Cell) (w11 : Int64) (w12 : Addr) (w14 : Int64) (cl_w12 : Cell) (w17 : Int64) (w19 : Int64) (w21 : Int64) (w23 : Int64) (h0 : Heap) (n0 : Nat) (Z0 : n0 ≤ h0.size) (F_amounts_a1 : Fld Z h0 a1 "com/example/slotwise/slotwise/engine/Resources" "amounts" "[J" (.ref w3)) (Ar_w3 : Arr Z h0 w3 cl_w3 .long) (S_w3 : cl_w3.slots.size = z_w3.toNatClampNeg) (N_w3 : ¬ z_w3 < 0) (hin16 : ¬ ((0 : Int32) < 0 ∨ cl_w3.slots.size ≤ ((0 : Int32)).toNatClampNeg)) (hat16 : cl_w3.slots[((0 : Int32)).toNatClampNeg]? = some (.long w6)) (S_LEAST : Sta Z h0 "com/example/slotwise/slotwise/engine/Resources" "LEAST" "[J" (.ref w7)) (Ar_w7 : Arr Z h0 w7 cl_w7 .long) (hin21 : ¬ ((0 : Int32) < 0 ∨ cl_w7.slots.size ≤ ((0 : Int32)).toNatClampNeg)) (hat21 : cl_w7.slots[((0 : Int32)).toNatClampNeg]? = some (.long w9)) (hin31 : ¬ ((0 : Int32) < 0 ∨ cl_w3.slots.size ≤ ((0 : Int32)).toNatClampNeg)) (hat31 : cl_w3.slots[((0 : Int32)).toNatClampNeg]? = some (.long w11)) (F_amounts_a2 : Fld Z h0 a2 "com/example/slotwise/slotwise/engine/Resources" "amounts" "[J" (.ref w12)) (Ar_w12 : Arr Z h0 w12 cl_w12 .long) (hin37 : ¬ ((0 : Int32) < 0 ∨ cl_w12.slots.size ≤ ((0 : Int32)).toNatClampNeg)) (hat37 : cl_w12.slots[((0 : Int32)).toNatClampNeg]? = some (.long w14)) (hin16_2 : ¬ (((0 : Int32) + (1 : Int32)) < 0 ∨ cl_w3.slots.size ≤ (((0 : Int32) + (1 : Int32))).toNatClampNeg)) (hat16_2 : cl_w3.slots[(((0 : Int32) + (1 : Int32))).toNatClampNeg]? = some (.long w17)) (hin21_2 : ¬ (((0 : Int32) + (1 : Int32)) < 0 ∨ cl_w7.slots.size ≤ (((0 : Int32) + (1 : Int32))).toNatClampNeg)) (hat21_2 : cl_w7.slots[(((0 : Int32) + (1 : Int32))).toNatClampNeg]? = some (.long w19)) (hin31_2 : ¬ (((0 : Int32) + (1 : Int32)) < 0 ∨ cl_w3.slots.size ≤ (((0 : Int32) + (1 : Int32))).toNatClampNeg)) (hat31_2 : cl_w3.slots[(((0 : Int32) + (1 : Int32))).toNatClampNeg]? = some (.long w21)) (hin37_2 : ¬ (((0 : Int32) + (1 : Int32)) < 0 ∨ cl_w12.slots.size ≤ (((0 : Int32) + (1 : Int32))).toNatClampNeg)) (hat37_2 : cl_w12.slots[(((0 : Int32) + (1 : Int32))).toNatClampNeg]? = some (.long w23)) (hc8 : (0 : Int32) < z_w3) (hc23 : ¬ ((lcmpW w6 w9) < (0 : Int32))) (hc39 : ¬ ((0 : Int32) < (lcmpW w11 w14))) (hc8_2 : ((0 : Int32) + (1 : Int32)) < z_w3) (hc23_2 : ¬ ((lcmpW w17 w19) < (0 : Int32))) (hc39_2 : (0 : Int32) < (lcmpW w21 w23)) :
    MetFree l (⟨"com/example/slotwise/slotwise/engine/Resources", "canRunOn", "(Lcom/example/slotwise/slotwise/engine/Resources;)Z"⟩ : MethodName) (head1 (Jvm.Cond.code (⟨"com/example/slotwise/slotwise/engine/Resources", "canRunOn", "(Lcom/example/slotwise/slotwise/engine/Resources;)Z"⟩ : MethodName) prog_57_method_14_code 3 (some .boolean) :: ws) ({ frames := 0, cells := 0, slots := 0, locals := 0 } : Room)) (fun a U => a = #[(.ref a1), (.ref a2)] ∧ Z.Warmed39 U.vm ∧ U.heap = h0) (fun _ _ _ _ _ => True) (fun _ U o U' => ∃ v L, o = .returned v ∧ QF (0 : Int32) h0 n0 v U'.heap L ∧ FrameEnd U o U' L ({ frames := 0, cells := 0, slots := 0, locals := 0 } : Room).cells ({ frames := 0, cells := 0, slots := 0, locals := 0 } : Room).slots) := by
  refine MetFree.of_bodySF (plainFor_of_name pn_3) hisR ?_
  intro p e s m args below meth c s₁ Bd hml0 hP hK
  obtain ⟨rfl, hZ, hh⟩ := hP
  have hx := Bd.exec
  have hby := Bd.bytes
  have hml : c.maxLocals = 3 := hml0
  have hown : s.vm.findClass "com/example/slotwise/slotwise/engine/Resources" = some m.cls := findClass_of_methodNamed Bd.named
  have hnm := (name_of_methodNamed Bd.named Bd.method).1
  have X0 : Stand p l e ({ frames := 0, cells := 0, slots := 0, locals := 0 } : Room) s m #[(.ref a1), (.ref a2)] below meth c s₁ [] 0 0 := Stand.of_body Bd
  have e0 : s₁.heap = h0 := by rw [← hh, Bd.state]; rfl
  have N0 := Fr.nil n0
  have pre0 : ∀ t, Steps p.tables e below (s₁.setTop (mkF m 0 #[.val (.ref a1), .val (.ref a2), .unset] [])) t → Steps p.tables e below (s₁.setTop (entryFrame m #[(.ref a1), (.ref a2)] 3)) t := fun t k => castTop (ef_3 m a1 a2) k
  obtain ⟨T4, X4, e4, st4⟩ := getF X0 hx hZ hown (host := "") (Or.inl (hw _ (List.mem_of_getElem? (i := 10) rfl))) Via.refl e0 F_amounts_a1 (g := (mkF m 4 #[.val (.ref a1), .val (.ref a2), .val (.int (0 : Int32))] [(.ref a1), (.int (0 : Int32))])) rfl rfl (hb hby d3_4)
  obtain ⟨T5, X5, e5, st5⟩ := getF X4 hx hZ hown (host := "") (Or.inl (hw _ (List.mem_of_getElem? (i := 10) rfl))) Via.refl e4 F_amounts_a1 (g := (mkF m 12 #[.val (.ref a1), .val (.ref a2), .val (.int (0 : Int32))] [(.ref a1)])) rfl rfl (hb hby d3_12)
  obtain ⟨T8, X8, e8, st8⟩ := getS2 X5 hx hZ hown (host := "") (Or.inl (hw _ (List.mem_of_getElem? (i := 21) rfl))) Via.refl e5 S_LEAST (g := (mkF m 17 #[.val (.ref a1), .val (.ref a2), .val (.int (0 : Int32))] [(.long w6)])) rfl (hb hby d3_17)
  obtain ⟨T10, X10, e10, st10⟩ := getF X8 hx hZ hown (host := "") (Or.inl (hw _ (List.mem_of_getElem? (i := 10) rfl))) Via.refl e8 F_amounts_a1 (g := (mkF m 27 #[.val (.ref a1), .val (.ref a2), .val (.int (0 : Int32))] [(.ref a1)])) rfl rfl (hb hby d3_27)
  obtain ⟨T13, X13, e13, st13⟩ := getF X10 hx hZ hown (host := "") (Or.inl (hw _ (List.mem_of_getElem? (i := 10) rfl))) Via.refl e10 F_amounts_a2 (g := (mkF m 33 #[.val (.ref a1), .val (.ref a2), .val (.int (0 : Int32))] [(.ref a2), (.long w11)])) rfl rfl (hb hby d3_33)
  obtain ⟨T15, X15, e15, st15⟩ := getF X13 hx hZ hown (host := "") (Or.inl (hw _ (List.mem_of_getElem? (i := 10) rfl))) Via.refl e13 F_amounts_a1 (g := (mkF m 4 #[.val (.ref a1), .val (.ref a2), .val (.int ((0 : Int32) + (1 : Int32)))] [(.ref a1), (.int ((0 : Int32) + (1 : Int32)))])) rfl rfl (hb hby d3_4)
  obtain ⟨T16, X16, e16, st16⟩ := getF X15 hx hZ hown (host := "") (Or.inl (hw _ (List.mem_of_getElem? (i := 10) rfl))) Via.refl e15 F_amounts_a1 (g := (mkF m 12 #[.val (.ref a1), .val (.ref a2), .val (.int ((0 : Int32) + (1 : Int32)))] [(.ref a1)])) rfl rfl (hb hby d3_12)
  obtain ⟨T18, X18, e18, st18⟩ := getS2 X16 hx hZ hown (host := "") (Or.inl (hw _ (List.mem_of_getElem? (i := 21) rfl))) Via.refl e16 S_LEAST (g := (mkF m 17 #[.val (.ref a1), .val (.ref a2), .val (.int ((0 : Int32) + (1 : Int32)))] [(.long w17)])) rfl (hb hby d3_17)
  obtain ⟨T20, X20, e20, st20⟩ := getF X18 hx hZ hown (host := "") (Or.inl (hw _ (List.mem_of_getElem? (i := 10) rfl))) Via.refl e18 F_amounts_a1 (g := (mkF m 27 #[.val (.ref a1), .val (.ref a2), .val (.int ((0 : Int32) + (1 : Int32)))] [(.ref a1)])) rfl rfl (hb hby d3_27)
  obtain ⟨T22, X22, e22, st22⟩ := getF X20 hx hZ hown (host := "") (Or.inl (hw _ (List.mem_of_getElem? (i := 10) rfl))) Via.refl e20 F_amounts_a2 (g := (mkF m 33 #[.val (.ref a1), .val (.ref a2), .val (.int ((0 : Int32) + (1 : Int32)))] [(.ref a2), (.long w21)])) rfl rfl (hb hby d3_33)
  obtain ⟨fs, hr, hrun, hended, hW, hsame⟩ := X22.leave (v := some (.int (0 : Int32))) (fun h => by rw [Bd.returns] at h; cases h)
  refine ⟨_, _, pre0 _ ?_, hrun, hended, _, _, rfl, ?_, ⟨_, rfl⟩, hW, hsame.mono (by decide) (by decide)⟩
  · show Steps p.tables e below (s₁.setTop (mkF m 0 #[.val (.ref a1), .val (.ref a2), .unset] [])) _
    refine XS.iconst X0.here hx rfl (hb hby d3_0) ?_
    show Steps p.tables e below (s₁.setTop (mkF m 1 #[.val (.ref a1), .val (.ref a2), .unset] [(.int (0 : Int32))])) _
    refine XS.istoreN X0.here hx rfl (hb hby d3_1) rfl (l' := #[.val (.ref a1), .val (.ref a2), .val (.int (0 : Int32))]) rfl ?_
    show Steps p.tables e below (s₁.setTop (mkF m 2 #[.val (.ref a1), .val (.ref a2), .val (.int (0 : Int32))] [])) _
    refine XS.iloadN X0.here hx rfl (hb hby d3_2) rfl ?_
    show Steps p.tables e below (s₁.setTop (mkF m 3 #[.val (.ref a1), .val (.ref a2), .val (.int (0 : Int32))] [(.int (0 : Int32))])) _
    refine XS.aloadN X0.here hx rfl (hb hby d3_3) rfl rfl ?_
    show Steps p.tables e below (s₁.setTop (mkF m 4 #[.val (.ref a1), .val (.ref a2), .val (.int (0 : Int32))] [(.ref a1), (.int (0 : Int32))])) _
    refine st4 _ ?_
    show Steps p.tables e below (T4.setTop (mkF m 7 #[.val (.ref a1), .val (.ref a2), .val (.int (0 : Int32))] [(.ref w3), (.int (0 : Int32))])) _
    refine X4.arraylength hx (by rw [e4]; exact Ar_w3.1) (State.isArrayOf_alike hZ.alike Ar_w3.2.1) (g := (mkF m 7 #[.val (.ref a1), .val (.ref a2), .val (.int (0 : Int32))] [(.ref w3), (.int (0 : Int32))])) rfl rfl (hb hby d3_7) _ ?_
    rw [len_of S_w3 N_w3]
    show Steps p.tables e below (T4.setTop (mkF m 8 #[.val (.ref a1), .val (.ref a2), .val (.int (0 : Int32))] [(.int z_w3), (.int (0 : Int32))])) _
    refine XS.icmpNo X4.here hx rfl (hb hby d3_8) rfl (tlt hc8).2.1 ?_
    show Steps p.tables e below (T4.setTop (mkF m 11 #[.val (.ref a1), .val (.ref a2), .val (.int (0 : Int32))] [])) _
    refine XS.aloadN X4.here hx rfl (hb hby d3_11) rfl rfl ?_
    show Steps p.tables e below (T4.setTop (mkF m 12 #[.val (.ref a1), .val (.ref a2), .val (.int (0 : Int32))] [(.ref a1)])) _
    refine st5 _ ?_
    show Steps p.tables e below (T5.setTop (mkF m 15 #[.val (.ref a1), .val (.ref a2), .val (.int (0 : Int32))] [(.ref w3)])) _
    refine XS.iloadN X5.here hx rfl (hb hby d3_15) rfl ?_
    show Steps p.tables e below (T5.setTop (mkF m 16 #[.val (.ref a1), .val (.ref a2), .val (.int (0 : Int32))] [(.int (0 : Int32)), (.ref w3)])) _
    refine X5.laload hx (j := (0 : Int32)) (v := (.long w6)) (by rw [e5]; exact Ar_w3.1) (State.isArrayOf_alike hZ.alike Ar_w3.2.1) Ar_w3.2.2 hin16 hat16 (g := (mkF m 16 #[.val (.ref a1), .val (.ref a2), .val (.int (0 : Int32))] [(.int (0 : Int32)), (.ref w3)])) rfl rfl (hb hby d3_16) _ ?_
    show Steps p.tables e below (T5.setTop (mkF m 17 #[.val (.ref a1), .val (.ref a2), .val (.int (0 : Int32))] [(.long w6)])) _
    refine st8 _ ?_
    show Steps p.tables e below (T8.setTop (mkF m 20 #[.val (.ref a1), .val (.ref a2), .val (.int (0 : Int32))] [(.ref w7), (.long w6)])) _
    refine XS.iloadN X8.here hx rfl (hb hby d3_20) rfl ?_
    show Steps p.tables e below (T8.setTop (mkF m 21 #[.val (.ref a1), .val (.ref a2), .val (.int (0 : Int32))] [(.int (0 : Int32)), (.ref w7), (.long w6)])) _
    refine X8.laload hx (j := (0 : Int32)) (v := (.long w9)) (by rw [e8]; exact Ar_w7.1) (State.isArrayOf_alike hZ.alike Ar_w7.2.1) Ar_w7.2.2 hin21 hat21 (g := (mkF m 21 #[.val (.ref a1), .val (.ref a2), .val (.int (0 : Int32))] [(.int (0 : Int32)), (.ref w7), (.long w6)])) rfl rfl (hb hby d3_21) _ ?_
    show Steps p.tables e below (T8.setTop (mkF m 22 #[.val (.ref a1), .val (.ref a2), .val (.int (0 : Int32))] [(.long w9), (.long w6)])) _
    refine XS.lcmp X8.here hx rfl (hb hby d3_22) rfl ?_
    show Steps p.tables e below (T8.setTop (mkF m 23 #[.val (.ref a1), .val (.ref a2), .val (.int (0 : Int32))] [(.int (lcmpW w6 w9))])) _
    refine XS.ifNo X8.here hx rfl (hb hby d3_23) rfl ((if0 _ _).trans (flt hc23).1) ?_
    show Steps p.tables e below (T8.setTop (mkF m 26 #[.val (.ref a1), .val (.ref a2), .val (.int (0 : Int32))] [])) _
    refine XS.aloadN X8.here hx rfl (hb hby d3_26) rfl rfl ?_
    show Steps p.tables e below (T8.setTop (mkF m 27 #[.val (.ref a1), .val (.ref a2), .val (.int (0 : Int32))] [(.ref a1)])) _
    refine st10 _ ?_
    show Steps p.tables e below (T10.setTop (mkF m 30 #[.val (.ref a1), .val (.ref a2), .val (.int (0 : Int32))] [(.ref w3)])) _
    refine XS.iloadN X10.here hx rfl (hb hby d3_30) rfl ?_
    show Steps p.tables e below (T10.setTop (mkF m 31 #[.val (.ref a1), .val (.ref a2), .val (.int (0 : Int32))] [(.int (0 : Int32)), (.ref w3)])) _
    refine X10.laload hx (j := (0 : Int32)) (v := (.long w11)) (by rw [e10]; exact Ar_w3.1) (State.isArrayOf_alike hZ.alike Ar_w3.2.1) Ar_w3.2.2 hin31 hat31 (g := (mkF m 31 #[.val (.ref a1), .val (.ref a2), .val (.int (0 : Int32))] [(.int (0 : Int32)), (.ref w3)])) rfl rfl (hb hby d3_31) _ ?_
    show Steps p.tables e below (T10.setTop (mkF m 32 #[.val (.ref a1), .val (.ref a2), .val (.int (0 : Int32))] [(.long w11)])) _
    refine XS.aloadN X10.here hx rfl (hb hby d3_32) rfl rfl ?_
    show Steps p.tables e below (T10.setTop (mkF m 33 #[.val (.ref a1), .val (.ref a2), .val (.int (0 : Int32))] [(.ref a2), (.long w11)])) _
    refine st13 _ ?_
    show Steps p.tables e below (T13.setTop (mkF m 36 #[.val (.ref a1), .val (.ref a2), .val (.int (0 : Int32))] [(.ref w12), (.long w11)])) _
    refine XS.iloadN X13.here hx rfl (hb hby d3_36) rfl ?_
    show Steps p.tables e below (T13.setTop (mkF m 37 #[.val (.ref a1), .val (.ref a2), .val (.int (0 : Int32))] [(.int (0 : Int32)), (.ref w12), (.long w11)])) _
    refine X13.laload hx (j := (0 : Int32)) (v := (.long w14)) (by rw [e13]; exact Ar_w12.1) (State.isArrayOf_alike hZ.alike Ar_w12.2.1) Ar_w12.2.2 hin37 hat37 (g := (mkF m 37 #[.val (.ref a1), .val (.ref a2), .val (.int (0 : Int32))] [(.int (0 : Int32)), (.ref w12), (.long w11)])) rfl rfl (hb hby d3_37) _ ?_
    show Steps p.tables e below (T13.setTop (mkF m 38 #[.val (.ref a1), .val (.ref a2), .val (.int (0 : Int32))] [(.long w14), (.long w11)])) _
    refine XS.lcmp X13.here hx rfl (hb hby d3_38) rfl ?_
    show Steps p.tables e below (T13.setTop (mkF m 39 #[.val (.ref a1), .val (.ref a2), .val (.int (0 : Int32))] [(.int (lcmpW w11 w14))])) _
    refine XS.ifYes X13.here hx rfl (pc0 := 39) (pc' := 44) rfl (hb hby d3_39) rfl ((if0 _ _).trans (flt hc39).2.2.2) (by decide) (by decide) ?_
    show Steps p.tables e below (T13.setTop (mkF m 44 #[.val (.ref a1), .val (.ref a2), .val (.int (0 : Int32))] [])) _
    refine XS.iinc X13.here hx rfl (hb hby d3_44) rfl (l' := #[.val (.ref a1), .val (.ref a2), .val (.int ((0 : Int32) + (1 : Int32)))]) rfl ?_
    show Steps p.tables e below (T13.setTop (mkF m 47 #[.val (.ref a1), .val (.ref a2), .val (.int ((0 : Int32) + (1 : Int32)))] [])) _
    refine XS.goto X13.here hx rfl (pc0 := 47) (pc' := 2) rfl (hb hby d3_47) (by decide) (by decide) ?_
    show Steps p.tables e below (T13.setTop (mkF m 2 #[.val (.ref a1), .val (.ref a2), .val (.int ((0 : Int32) + (1 : Int32)))] [])) _
    refine XS.iloadN X13.here hx rfl (hb hby d3_2) rfl ?_
    show Steps p.tables e below (T13.setTop (mkF m 3 #[.val (.ref a1), .val (.ref a2), .val (.int ((0 : Int32) + (1 : Int32)))] [(.int ((0 : Int32) + (1 : Int32)))])) _
    refine XS.aloadN X13.here hx rfl (hb hby d3_3) rfl rfl ?_
    show Steps p.tables e below (T13.setTop (mkF m 4 #[.val (.ref a1), .val (.ref a2), .val (.int ((0 : Int32) + (1 : Int32)))] [(.ref a1), (.int ((0 : Int32) + (1 : Int32)))])) _
    refine st15 _ ?_
    show Steps p.tables e below (T15.setTop (mkF m 7 #[.val (.ref a1), .val (.ref a2), .val (.int ((0 : Int32) + (1 : Int32)))] [(.ref w3), (.int ((0 : Int32) + (1 : Int32)))])) _
    refine X15.arraylength hx (by rw [e15]; exact Ar_w3.1) (State.isArrayOf_alike hZ.alike Ar_w3.2.1) (g := (mkF m 7 #[.val (.ref a1), .val (.ref a2), .val (.int ((0 : Int32) + (1 : Int32)))] [(.ref w3), (.int ((0 : Int32) + (1 : Int32)))])) rfl rfl (hb hby d3_7) _ ?_
    rw [len_of S_w3 N_w3]
    show Steps p.tables e below (T15.setTop (mkF m 8 #[.val (.ref a1), .val (.ref a2), .val (.int ((0 : Int32) + (1 : Int32)))] [(.int z_w3), (.int ((0 : Int32) + (1 : Int32)))])) _
    refine XS.icmpNo X15.here hx rfl (hb hby d3_8) rfl (tlt hc8_2).2.1 ?_
    show Steps p.tables e below (T15.setTop (mkF m 11 #[.val (.ref a1), .val (.ref a2), .val (.int ((0 : Int32) + (1 : Int32)))] [])) _
    refine XS.aloadN X15.here hx rfl (hb hby d3_11) rfl rfl ?_
    show Steps p.tables e below (T15.setTop (mkF m 12 #[.val (.ref a1), .val (.ref a2), .val (.int ((0 : Int32) + (1 : Int32)))] [(.ref a1)])) _
    refine st16 _ ?_
    show Steps p.tables e below (T16.setTop (mkF m 15 #[.val (.ref a1), .val (.ref a2), .val (.int ((0 : Int32) + (1 : Int32)))] [(.ref w3)])) _
    refine XS.iloadN X16.here hx rfl (hb hby d3_15) rfl ?_
    show Steps p.tables e below (T16.setTop (mkF m 16 #[.val (.ref a1), .val (.ref a2), .val (.int ((0 : Int32) + (1 : Int32)))] [(.int ((0 : Int32) + (1 : Int32))), (.ref w3)])) _
    refine X16.laload hx (j := ((0 : Int32) + (1 : Int32))) (v := (.long w17)) (by rw [e16]; exact Ar_w3.1) (State.isArrayOf_alike hZ.alike Ar_w3.2.1) Ar_w3.2.2 hin16_2 hat16_2 (g := (mkF m 16 #[.val (.ref a1), .val (.ref a2), .val (.int ((0 : Int32) + (1 : Int32)))] [(.int ((0 : Int32) + (1 : Int32))), (.ref w3)])) rfl rfl (hb hby d3_16) _ ?_
    show Steps p.tables e below (T16.setTop (mkF m 17 #[.val (.ref a1), .val (.ref a2), .val (.int ((0 : Int32) + (1 : Int32)))] [(.long w17)])) _
    refine st18 _ ?_
    show Steps p.tables e below (T18.setTop (mkF m 20 #[.val (.ref a1), .val (.ref a2), .val (.int ((0 : Int32) + (1 : Int32)))] [(.ref w7), (.long w17)])) _
    refine XS.iloadN X18.here hx rfl (hb hby d3_20) rfl ?_
    show Steps p.tables e below (T18.setTop (mkF m 21 #[.val (.ref a1), .val (.ref a2), .val (.int ((0 : Int32) + (1 : Int32)))] [(.int ((0 : Int32) + (1 : Int32))), (.ref w7), (.long w17)])) _
    refine X18.laload hx (j := ((0 : Int32) + (1 : Int32))) (v := (.long w19)) (by rw [e18]; exact Ar_w7.1) (State.isArrayOf_alike hZ.alike Ar_w7.2.1) Ar_w7.2.2 hin21_2 hat21_2 (g := (mkF m 21 #[.val (.ref a1), .val (.ref a2), .val (.int ((0 : Int32) + (1 : Int32)))] [(.int ((0 : Int32) + (1 : Int32))), (.ref w7), (.long w17)])) rfl rfl (hb hby d3_21) _ ?_
    show Steps p.tables e below (T18.setTop (mkF m 22 #[.val (.ref a1), .val (.ref a2), .val (.int ((0 : Int32) + (1 : Int32)))] [(.long w19), (.long w17)])) _
    refine XS.lcmp X18.here hx rfl (hb hby d3_22) rfl ?_
    show Steps p.tables e below (T18.setTop (mkF m 23 #[.val (.ref a1), .val (.ref a2), .val (.int ((0 : Int32) + (1 : Int32)))] [(.int (lcmpW w17 w19))])) _
    refine XS.ifNo X18.here hx rfl (hb hby d3_23) rfl ((if0 _ _).trans (flt hc23_2).1) ?_
    show Steps p.tables e below (T18.setTop (mkF m 26 #[.val (.ref a1), .val (.ref a2), .val (.int ((0 : Int32) + (1 : Int32)))] [])) _
    refine XS.aloadN X18.here hx rfl (hb hby d3_26) rfl rfl ?_
    show Steps p.tables e below (T18.setTop (mkF m 27 #[.val (.ref a1), .val (.ref a2), .val (.int ((0 : Int32) + (1 : Int32)))] [(.ref a1)])) _
    refine st20 _ ?_
    show Steps p.tables e below (T20.setTop (mkF m 30 #[.val (.ref a1), .val (.ref a2), .val (.int ((0 : Int32) + (1 : Int32)))] [(.ref w3)])) _
    refine XS.iloadN X20.here hx rfl (hb hby d3_30) rfl ?_
    show Steps p.tables e below (T20.setTop (mkF m 31 #[.val (.ref a1), .val (.ref a2), .val (.int ((0 : Int32) + (1 : Int32)))] [(.int ((0 : Int32) + (1 : Int32))), (.ref w3)])) _
    refine X20.laload hx (j := ((0 : Int32) + (1 : Int32))) (v := (.long w21)) (by rw [e20]; exact Ar_w3.1) (State.isArrayOf_alike hZ.alike Ar_w3.2.1) Ar_w3.2.2 hin31_2 hat31_2 (g := (mkF m 31 #[.val (.ref a1), .val (.ref a2), .val (.int ((0 : Int32) + (1 : Int32)))] [(.int ((0 : Int32) + (1 : Int32))), (.ref w3)])) rfl rfl (hb hby d3_31) _ ?_
    show Steps p.tables e below (T20.setTop (mkF m 32 #[.val (.ref a1), .val (.ref a2), .val (.int ((0 : Int32) + (1 : Int32)))] [(.long w21)])) _
    refine XS.aloadN X20.here hx rfl (hb hby d3_32) rfl rfl ?_
    show Steps p.tables e below (T20.setTop (mkF m 33 #[.val (.ref a1), .val (.ref a2), .val (.int ((0 : Int32) + (1 : Int32)))] [(.ref a2), (.long w21)])) _
    refine st22 _ ?_
    show Steps p.tables e below (T22.setTop (mkF m 36 #[.val (.ref a1), .val (.ref a2), .val (.int ((0 : Int32) + (1 : Int32)))] [(.ref w12), (.long w21)])) _
    refine XS.iloadN X22.here hx rfl (hb hby d3_36) rfl ?_
    show Steps p.tables e below (T22.setTop (mkF m 37 #[.val (.ref a1), .val (.ref a2), .val (.int ((0 : Int32) + (1 : Int32)))] [(.int ((0 : Int32) + (1 : Int32))), (.ref w12), (.long w21)])) _
    refine X22.laload hx (j := ((0 : Int32) + (1 : Int32))) (v := (.long w23)) (by rw [e22]; exact Ar_w12.1) (State.isArrayOf_alike hZ.alike Ar_w12.2.1) Ar_w12.2.2 hin37_2 hat37_2 (g := (mkF m 37 #[.val (.ref a1), .val (.ref a2), .val (.int ((0 : Int32) + (1 : Int32)))] [(.int ((0 : Int32) + (1 : Int32))), (.ref w12), (.long w21)])) rfl rfl (hb hby d3_37) _ ?_
    show Steps p.tables e below (T22.setTop (mkF m 38 #[.val (.ref a1), .val (.ref a2), .val (.int ((0 : Int32) + (1 : Int32)))] [(.long w23), (.long w21)])) _
    refine XS.lcmp X22.here hx rfl (hb hby d3_38) rfl ?_
    show Steps p.tables e below (T22.setTop (mkF m 39 #[.val (.ref a1), .val (.ref a2), .val (.int ((0 : Int32) + (1 : Int32)))] [(.int (lcmpW w21 w23))])) _
    refine XS.ifNo X22.here hx rfl (hb hby d3_39) rfl ((if0 _ _).trans (tlt hc39_2).2.2.2) ?_
    show Steps p.tables e below (T22.setTop (mkF m 42 #[.val (.ref a1), .val (.ref a2), .val (.int ((0 : Int32) + (1 : Int32)))] [])) _
    refine XS.iconst X22.here hx rfl (hb hby d3_42) ?_
    show Steps p.tables e below (T22.setTop (mkF m 43 #[.val (.ref a1), .val (.ref a2), .val (.int ((0 : Int32) + (1 : Int32)))] [(.int (0 : Int32))])) _
    exact retN X22 hx (t := .boolean) Bd.returns (by simp) (hb hby d3_43) hr
  · show QF (0 : Int32) h0 n0 _ T22.heap _
    rw [e22]
    exact ⟨rfl, N0, rfl⟩
theorem rmRd (l : Launch) (Z : State) (a0 : Array Value) (hw : ∀ d ∈ tables_1, d.before a0 Z = true) (ws : List Jvm.Cond) (a1 a2 b1 b2 bL : Addr) (k1 k2 kL : ClassId) (x0 x1 y0 y1 : Int64) (h0 : Heap) (n0 : Nat) (Z0 : n0 ≤ h0.size) (F1 : Fld Z h0 a1 "com/example/slotwise/slotwise/engine/Resources" "amounts" "[J" (.ref b1)) (F2 : Fld Z h0 a2 "com/example/slotwise/slotwise/engine/Resources" "amounts" "[J" (.ref b2)) (S_L : Sta Z h0 "com/example/slotwise/slotwise/engine/Resources" "LEAST" "[J" (.ref bL)) (V1 : Arv Z h0 b1 k1 .long (2 : Int32) [(.long x0), (.long x1)] (.long (0 : Int64))) (V2 : Arv Z h0 b2 k2 .long (2 : Int32) [(.long y0), (.long y1)] (.long (0 : Int64))) (VL : Arv Z h0 bL kL .long (2 : Int32) [(.long (1 : Int64)), (.long (0 : Int64))] (.long (0 : Int64))) (c1 : ¬ ((lcmpW x0 (1 : Int64)) < (0 : Int32))) (c2 : ¬ ((0 : Int32) < (lcmpW x0 y0))) (c3 : ¬ ((lcmpW x1 (0 : Int64)) < (0 : Int32))) (c4 : (0 : Int32) < (lcmpW x1 y1)) :
    MetFree l (⟨"com/example/slotwise/slotwise/engine/Resources", "canRunOn", "(Lcom/example/slotwise/slotwise/engine/Resources;)Z"⟩ : MethodName) (head1 (Jvm.Cond.code (⟨"com/example/slotwise/slotwise/engine/Resources", "canRunOn", "(Lcom/example/slotwise/slotwise/engine/Resources;)Z"⟩ : MethodName) prog_57_method_14_code 3 (some .boolean) :: ws) ({ frames := 0, cells := 0, slots := 0, locals := 0 } : Room)) (fun a U => a = #[(.ref a1), (.ref a2)] ∧ Z.Warmed39 U.vm ∧ U.heap = h0) (fun _ _ _ _ _ => True) (fun _ U o U' => ∃ v L, o = .returned v ∧ QF (0 : Int32) h0 n0 v U'.heap L ∧ FrameEnd U o U' L ({ frames := 0, cells := 0, slots := 0, locals := 0 } : Room).cells ({ frames := 0, cells := 0, slots := 0, locals := 0 } : Room).slots) := by
  obtain ⟨c1', A1, -, S1, N1, H1, -⟩ := V1
  obtain ⟨c2', A2, -, S2, N2, H2, -⟩ := V2
  obtain ⟨cL', AL, -, SL, NL, HL, -⟩ := VL
  exact rm3d l Z a0 hw ws (a1 := a1) (a2 := a2) (w3 := b1) (cl_w3 := c1') (z_w3 := (2 : Int32)) (w6 := x0) (w7 := bL) (w9 := (1 : Int64)) (cl_w7 := cL') (w11 := x0) (w12 := b2) (w14 := y0) (cl_w12 := c2') (w17 := x1) (w19 := (0 : Int64)) (w21 := x1) (w23 := y1) (h0 := h0) (n0 := n0) (Z0 := Z0) (F_amounts_a1 := F1) (Ar_w3 := A1) (S_w3 := S1) (N_w3 := N1) (hin16 := inb_of S1 ⟨by decide, by decide⟩) (hat16 := H1.at (inb_of S1 ⟨by decide, by decide⟩) rfl) (S_LEAST := S_L) (Ar_w7 := AL) (hin21 := inb_of SL ⟨by decide, by decide⟩) (hat21 := HL.at (inb_of SL ⟨by decide, by decide⟩) rfl) (hin31 := inb_of S1 ⟨by decide, by decide⟩) (hat31 := H1.at (inb_of S1 ⟨by decide, by decide⟩) rfl) (F_amounts_a2 := F2) (Ar_w12 := A2) (hin37 := inb_of S2 ⟨by decide, by decide⟩) (hat37 := H2.at (inb_of S2 ⟨by decide, by decide⟩) rfl) (hin16_2 := inb_of S1 ⟨by decide, by decide⟩) (hat16_2 := H1.at (inb_of S1 ⟨by decide, by decide⟩) rfl) (hin21_2 := inb_of SL ⟨by decide, by decide⟩) (hat21_2 := HL.at (inb_of SL ⟨by decide, by decide⟩) rfl) (hin31_2 := inb_of S1 ⟨by decide, by decide⟩) (hat31_2 := H1.at (inb_of S1 ⟨by decide, by decide⟩) rfl) (hin37_2 := inb_of S2 ⟨by decide, by decide⟩) (hat37_2 := H2.at (inb_of S2 ⟨by decide, by decide⟩) rfl) (hc8 := by decide) (hc23 := c1) (hc39 := c2) (hc8_2 := by decide) (hc23_2 := c3) (hc39_2 := c4)
theorem d3_50 : decode prog_57_method_14_code 50 = .ok (.iconst 1, 1) := by decide +kernel
theorem d3_51 : decode prog_57_method_14_code 51 = .ok (.ireturn, 1) := by decide +kernel
set_option maxRecDepth 65536 in
set_option maxHeartbeats 40000000 in
theorem rm3e (l : Launch) (Z : State) (a0 : Array Value) (hw : ∀ d ∈ tables_1, d.before a0 Z = true) (ws : List Jvm.Cond) (a1 : Addr) (a2 : Addr) (w3 : Addr) (cl_w3 : Cell) (z_w3 : Int32) (w6 : Int64) (w7 : Addr) (w9 : Int64) (cl_w7 : Cell) (w11 : Int64) (w12 : Addr) (w14 : Int64) (cl_w12 : Cell) (w17 : Int64) (w19 : Int64) (w21 : Int64) (w23 : Int64) (h0 : Heap) (n0 : Nat) (Z0 : n0 ≤ h0.size) (F_amounts_a1 : Fld Z h0 a1 "com/example/slotwise/slotwise/engine/Resources" "amounts" "[J" (.ref w3)) (Ar_w3 : Arr Z h0 w3 cl_w3 .long) (S_w3 : cl_w3.slots.size = z_w3.toNatClampNeg) (N_w3 : ¬ z_w3 < 0) (hin16 : ¬ ((0 : Int32) < 0 ∨ cl_w3.slots.size ≤ ((0 : Int32)).toNatClampNeg)) (hat16 : cl_w3.slots[((0 : Int32)).toNatClampNeg]? = some (.long w6)) (S_LEAST : Sta Z h0 "com/example/slotwise/slotwise/engine/Resources" "LEAST" "[J" (.ref w7)) (Ar_w7 : Arr Z h0 w7 cl_w7 .long) (hin21 : ¬ ((0 : Int32) < 0 ∨ cl_w7.slots.size ≤ ((0 : Int32)).toNatClampNeg)) (hat21 : cl_w7.slots[((0 : Int32)).toNatClampNeg]? = some (.long w9)) (hin31 : ¬ ((0 : Int32) < 0 ∨ cl_w3.slots.size ≤ ((0 : Int32)).toNatClampNeg)) (hat31 : cl_w3.slots[((0 : Int32)).toNatClampNeg]? = some (.long w11)) (F_amounts_a2 : Fld Z h0 a2 "com/example/slotwise/slotwise/engine/Resources" "amounts" "[J" (.ref w12)) (Ar_w12 : Arr Z h0 w12 cl_w12 .long) (hin37 : ¬ ((0 : Int32) < 0 ∨ cl_w12.slots.size ≤ ((0 : Int32)).toNatClampNeg)) (hat37 : cl_w12.slots[((0 : Int32)).toNatClampNeg]? = some (.long w14)) (hin16_2 : ¬ (((0 : Int32) + (1 : Int32)) < 0 ∨ cl_w3.slots.size ≤ (((0 : Int32) + (1 : Int32))).toNatClampNeg)) (hat16_2 : cl_w3.slots[(((0 : Int32) + (1 : Int32))).toNatClampNeg]? = some (.long w17)) (hin21_2 : ¬ (((0 : Int32) + (1 : Int32)) < 0 ∨ cl_w7.slots.size ≤ (((0 : Int32) + (1 : Int32))).toNatClampNeg)) (hat21_2 : cl_w7.slots[(((0 : Int32) + (1 : Int32))).toNatClampNeg]? = some (.long w19)) (hin31_2 : ¬ (((0 : Int32) + (1 : Int32)) < 0 ∨ cl_w3.slots.size ≤ (((0 : Int32) + (1 : Int32))).toNatClampNeg)) (hat31_2 : cl_w3.slots[(((0 : Int32) + (1 : Int32))).toNatClampNeg]? = some (.long w21)) (hin37_2 : ¬ (((0 : Int32) + (1 : Int32)) < 0 ∨ cl_w12.slots.size ≤ (((0 : Int32) + (1 : Int32))).toNatClampNeg)) (hat37_2 : cl_w12.slots[(((0 : Int32) + (1 : Int32))).toNatClampNeg]? = some (.long w23)) (hc8 : (0 : Int32) < z_w3) (hc23 : ¬ ((lcmpW w6 w9) < (0 : Int32))) (hc39 : ¬ ((0 : Int32) < (lcmpW w11 w14))) (hc8_2 : ((0 : Int32) + (1 : Int32)) < z_w3) (hc23_2 : ¬ ((lcmpW w17 w19) < (0 : Int32))) (hc39_2 : ¬ ((0 : Int32) < (lcmpW w21 w23))) (hc8_3 : ¬ ((((0 : Int32) + (1 : Int32)) + (1 : Int32)) < z_w3)) :
    MetFree l (⟨"com/example/slotwise/slotwise/engine/Resources", "canRunOn", "(Lcom/example/slotwise/slotwise/engine/Resources;)Z"⟩ : MethodName) (head1 (Jvm.Cond.code (⟨"com/example/slotwise/slotwise/engine/Resources", "canRunOn", "(Lcom/example/slotwise/slotwise/engine/Resources;)Z"⟩ : MethodName) prog_57_method_14_code 3 (some .boolean) :: ws) ({ frames := 0, cells := 0, slots := 0, locals := 0 } : Room)) (fun a U => a = #[(.ref a1), (.ref a2)] ∧ Z.Warmed39 U.vm ∧ U.heap = h0) (fun _ _ _ _ _ => True) (fun _ U o U' => ∃ v L, o = .returned v ∧ QF (1 : Int32) h0 n0 v U'.heap L ∧ FrameEnd U o U' L ({ frames := 0, cells := 0, slots := 0, locals := 0 } : Room).cells ({ frames := 0, cells := 0, slots := 0, locals := 0 } : Room).slots) := by
  refine MetFree.of_bodySF (plainFor_of_name pn_3) hisR ?_
  intro p e s m args below meth c s₁ Bd hml0 hP hK
  obtain ⟨rfl, hZ, hh⟩ := hP
  have hx := Bd.exec
  have hby := Bd.bytes
  have hml : c.maxLocals = 3 := hml0
  have hown : s.vm.findClass "com/example/slotwise/slotwise/engine/Resources" = some m.cls := findClass_of_methodNamed Bd.named
  have hnm := (name_of_methodNamed Bd.named Bd.method).1
  have X0 : Stand p l e ({ frames := 0, cells := 0, slots := 0, locals := 0 } : Room) s m #[(.ref a1), (.ref a2)] below meth c s₁ [] 0 0 := Stand.of_body Bd
  have e0 : s₁.heap = h0 := by rw [← hh, Bd.state]; rfl
  have N0 := Fr.nil n0
  have pre0 : ∀ t, Steps p.tables e below (s₁.setTop (mkF m 0 #[.val (.ref a1), .val (.ref a2), .unset] [])) t → Steps p.tables e below (s₁.setTop (entryFrame m #[(.ref a1), (.ref a2)] 3)) t := fun t k => castTop (ef_3 m a1 a2) k
  obtain ⟨T4, X4, e4, st4⟩ := getF X0 hx hZ hown (host := "") (Or.inl (hw _ (List.mem_of_getElem? (i := 10) rfl))) Via.refl e0 F_amounts_a1 (g := (mkF m 4 #[.val (.ref a1), .val (.ref a2), .val (.int (0 : Int32))] [(.ref a1), (.int (0 : Int32))])) rfl rfl (hb hby d3_4)
  obtain ⟨T5, X5, e5, st5⟩ := getF X4 hx hZ hown (host := "") (Or.inl (hw _ (List.mem_of_getElem? (i := 10) rfl))) Via.refl e4 F_amounts_a1 (g := (mkF m 12 #[.val (.ref a1), .val (.ref a2), .val (.int (0 : Int32))] [(.ref a1)])) rfl rfl (hb hby d3_12)
  obtain ⟨T8, X8, e8, st8⟩ := getS2 X5 hx hZ hown (host := "") (Or.inl (hw _ (List.mem_of_getElem? (i := 21) rfl))) Via.refl e5 S_LEAST (g := (mkF m 17 #[.val (.ref a1), .val (.ref a2), .val (.int (0 : Int32))] [(.long w6)])) rfl (hb hby d3_17)
  obtain ⟨T10, X10, e10, st10⟩ := getF X8 hx hZ hown (host := "") (Or.inl (hw _ (List.mem_of_getElem? (i := 10) rfl))) Via.refl e8 F_amounts_a1 (g := (mkF m 27 #[.val (.ref a1), .val (.ref a2), .val (.int (0 : Int32))] [(.ref a1)])) rfl rfl (hb hby d3_27)
  obtain ⟨T13, X13, e13, st13⟩ := getF X10 hx hZ hown (host := "") (Or.inl (hw _ (List.mem_of_getElem? (i := 10) rfl))) Via.refl e10 F_amounts_a2 (g := (mkF m 33 #[.val (.ref a1), .val (.ref a2), .val (.int (0 : Int32))] [(.ref a2), (.long w11)])) rfl rfl (hb hby d3_33)
  obtain ⟨T15, X15, e15, st15⟩ := getF X13 hx hZ hown (host := "") (Or.inl (hw _ (List.mem_of_getElem? (i := 10) rfl))) Via.refl e13 F_amounts_a1 (g := (mkF m 4 #[.val (.ref a1), .val (.ref a2), .val (.int ((0 : Int32) + (1 : Int32)))] [(.ref a1), (.int ((0 : Int32) + (1 : Int32)))])) rfl rfl (hb hby d3_4)
  obtain ⟨T16, X16, e16, st16⟩ := getF X15 hx hZ hown (host := "") (Or.inl (hw _ (List.mem_of_getElem? (i := 10) rfl))) Via.refl e15 F_amounts_a1 (g := (mkF m 12 #[.val (.ref a1), .val (.ref a2), .val (.int ((0 : Int32) + (1 : Int32)))] [(.ref a1)])) rfl rfl (hb hby d3_12)
  obtain ⟨T18, X18, e18, st18⟩ := getS2 X16 hx hZ hown (host := "") (Or.inl (hw _ (List.mem_of_getElem? (i := 21) rfl))) Via.refl e16 S_LEAST (g := (mkF m 17 #[.val (.ref a1), .val (.ref a2), .val (.int ((0 : Int32) + (1 : Int32)))] [(.long w17)])) rfl (hb hby d3_17)
  obtain ⟨T20, X20, e20, st20⟩ := getF X18 hx hZ hown (host := "") (Or.inl (hw _ (List.mem_of_getElem? (i := 10) rfl))) Via.refl e18 F_amounts_a1 (g := (mkF m 27 #[.val (.ref a1), .val (.ref a2), .val (.int ((0 : Int32) + (1 : Int32)))] [(.ref a1)])) rfl rfl (hb hby d3_27)
  obtain ⟨T22, X22, e22, st22⟩ := getF X20 hx hZ hown (host := "") (Or.inl (hw _ (List.mem_of_getElem? (i := 10) rfl))) Via.refl e20 F_amounts_a2 (g := (mkF m 33 #[.val (.ref a1), .val (.ref a2), .val (.int ((0 : Int32) + (1 : Int32)))] [(.ref a2), (.long w21)])) rfl rfl (hb hby d3_33)
  obtain ⟨T24, X24, e24, st24⟩ := getF X22 hx hZ hown (host := "") (Or.inl (hw _ (List.mem_of_getElem? (i := 10) rfl))) Via.refl e22 F_amounts_a1 (g := (mkF m 4 #[.val (.ref a1), .val (.ref a2), .val (.int (((0 : Int32) + (1 : Int32)) + (1 : Int32)))] [(.ref a1), (.int (((0 : Int32) + (1 : Int32)) + (1 : Int32)))])) rfl rfl (hb hby d3_4)
  obtain ⟨fs, hr, hrun, hended, hW, hsame⟩ := X24.leave (v := some (.int (1 : Int32))) (fun h => by rw [Bd.returns] at h; cases h)
  refine ⟨_, _, pre0 _ ?_, hrun, hended, _, _, rfl, ?_, ⟨_, rfl⟩, hW, hsame.mono (by decide) (by decide)⟩
  · show Steps p.tables e below (s₁.setTop (mkF m 0 #[.val (.ref a1), .val (.ref a2), .unset] [])) _
    refine XS.iconst X0.here hx rfl (hb hby d3_0) ?_
    show Steps p.tables e below (s₁.setTop (mkF m 1 #[.val (.ref a1), .val (.ref a2), .unset] [(.int (0 : Int32))])) _
    refine XS.istoreN X0.here hx rfl (hb hby d3_1) rfl (l' := #[.val (.ref a1), .val (.ref a2), .val (.int (0 : Int32))]) rfl ?_
    show Steps p.tables e below (s₁.setTop (mkF m 2 #[.val (.ref a1), .val (.ref a2), .val (.int (0 : Int32))] [])) _
    refine XS.iloadN X0.here hx rfl (hb hby d3_2) rfl ?_
    show Steps p.tables e below (s₁.setTop (mkF m 3 #[.val (.ref a1), .val (.ref a2), .val (.int (0 : Int32))] [(.int (0 : Int32))])) _
    refine XS.aloadN X0.here hx rfl (hb hby d3_3) rfl rfl ?_
    show Steps p.tables e below (s₁.setTop (mkF m 4 #[.val (.ref a1), .val (.ref a2), .val (.int (0 : Int32))] [(.ref a1), (.int (0 : Int32))])) _
    refine st4 _ ?_
    show Steps p.tables e below (T4.setTop (mkF m 7 #[.val (.ref a1), .val (.ref a2), .val (.int (0 : Int32))] [(.ref w3), (.int (0 : Int32))])) _
    refine X4.arraylength hx (by rw [e4]; exact Ar_w3.1) (State.isArrayOf_alike hZ.alike Ar_w3.2.1) (g := (mkF m 7 #[.val (.ref a1), .val (.ref a2), .val (.int (0 : Int32))] [(.ref w3), (.int (0 : Int32))])) rfl rfl (hb hby d3_7) _ ?_
    rw [len_of S_w3 N_w3]
    show Steps p.tables e below (T4.setTop (mkF m 8 #[.val (.ref a1), .val (.ref a2), .val (.int (0 : Int32))] [(.int z_w3), (.int (0 : Int32))])) _
    refine XS.icmpNo X4.here hx rfl (hb hby d3_8) rfl (tlt hc8).2.1 ?_
    show Steps p.tables e below (T4.setTop (mkF m 11 #[.val (.ref a1), .val (.ref a2), .val (.int (0 : Int32))] [])) _
    refine XS.aloadN X4.here hx rfl (hb hby d3_11) rfl rfl ?_
    show Steps p.tables e below (T4.setTop (mkF m 12 #[.val (.ref a1), .val (.ref a2), .val (.int (0 : Int32))] [(.ref a1)])) _
    refine st5 _ ?_
    show Steps p.tables e below (T5.setTop (mkF m 15 #[.val (.ref a1), .val (.ref a2), .val (.int (0 : Int32))] [(.ref w3)])) _
    refine XS.iloadN X5.here hx rfl (hb hby d3_15) rfl ?_
    show Steps p.tables e below (T5.setTop (mkF m 16 #[.val (.ref a1), .val (.ref a2), .val (.int (0 : Int32))] [(.int (0 : Int32)), (.ref w3)])) _
    refine X5.laload hx (j := (0 : Int32)) (v := (.long w6)) (by rw [e5]; exact Ar_w3.1) (State.isArrayOf_alike hZ.alike Ar_w3.2.1) Ar_w3.2.2 hin16 hat16 (g := (mkF m 16 #[.val (.ref a1), .val (.ref a2), .val (.int (0 : Int32))] [(.int (0 : Int32)), (.ref w3)])) rfl rfl (hb hby d3_16) _ ?_
    show Steps p.tables e below (T5.setTop (mkF m 17 #[.val (.ref a1), .val (.ref a2), .val (.int (0 : Int32))] [(.long w6)])) _
    refine st8 _ ?_
    show Steps p.tables e below (T8.setTop (mkF m 20 #[.val (.ref a1), .val (.ref a2), .val (.int (0 : Int32))] [(.ref w7), (.long w6)])) _
    refine XS.iloadN X8.here hx rfl (hb hby d3_20) rfl ?_
    show Steps p.tables e below (T8.setTop (mkF m 21 #[.val (.ref a1), .val (.ref a2), .val (.int (0 : Int32))] [(.int (0 : Int32)), (.ref w7), (.long w6)])) _
    refine X8.laload hx (j := (0 : Int32)) (v := (.long w9)) (by rw [e8]; exact Ar_w7.1) (State.isArrayOf_alike hZ.alike Ar_w7.2.1) Ar_w7.2.2 hin21 hat21 (g := (mkF m 21 #[.val (.ref a1), .val (.ref a2), .val (.int (0 : Int32))] [(.int (0 : Int32)), (.ref w7), (.long w6)])) rfl rfl (hb hby d3_21) _ ?_
    show Steps p.tables e below (T8.setTop (mkF m 22 #[.val (.ref a1), .val (.ref a2), .val (.int (0 : Int32))] [(.long w9), (.long w6)])) _
    refine XS.lcmp X8.here hx rfl (hb hby d3_22) rfl ?_
    show Steps p.tables e below (T8.setTop (mkF m 23 #[.val (.ref a1), .val (.ref a2), .val (.int (0 : Int32))] [(.int (lcmpW w6 w9))])) _
    refine XS.ifNo X8.here hx rfl (hb hby d3_23) rfl ((if0 _ _).trans (flt hc23).1) ?_
    show Steps p.tables e below (T8.setTop (mkF m 26 #[.val (.ref a1), .val (.ref a2), .val (.int (0 : Int32))] [])) _
    refine XS.aloadN X8.here hx rfl (hb hby d3_26) rfl rfl ?_
    show Steps p.tables e below (T8.setTop (mkF m 27 #[.val (.ref a1), .val (.ref a2), .val (.int (0 : Int32))] [(.ref a1)])) _
    refine st10 _ ?_
    show Steps p.tables e below (T10.setTop (mkF m 30 #[.val (.ref a1), .val (.ref a2), .val (.int (0 : Int32))] [(.ref w3)])) _
    refine XS.iloadN X10.here hx rfl (hb hby d3_30) rfl ?_
    show Steps p.tables e below (T10.setTop (mkF m 31 #[.val (.ref a1), .val (.ref a2), .val (.int (0 : Int32))] [(.int (0 : Int32)), (.ref w3)])) _
    refine X10.laload hx (j := (0 : Int32)) (v := (.long w11)) (by rw [e10]; exact Ar_w3.1) (State.isArrayOf_alike hZ.alike Ar_w3.2.1) Ar_w3.2.2 hin31 hat31 (g := (mkF m 31 #[.val (.ref a1), .val (.ref a2), .val (.int (0 : Int32))] [(.int (0 : Int32)), (.ref w3)])) rfl rfl (hb hby d3_31) _ ?_
    show Steps p.tables e below (T10.setTop (mkF m 32 #[.val (.ref a1), .val (.ref a2), .val (.int (0 : Int32))] [(.long w11)])) _
    refine XS.aloadN X10.here hx rfl (hb hby d3_32) rfl rfl ?_
    show Steps p.tables e below (T10.setTop (mkF m 33 #[.val (.ref a1), .val (.ref a2), .val (.int (0 : Int32))] [(.ref a2), (.long w11)])) _
    refine st13 _ ?_
    show Steps p.tables e below (T13.setTop (mkF m 36 #[.val (.ref a1), .val (.ref a2), .val (.int (0 : Int32))] [(.ref w12), (.long w11)])) _
    refine XS.iloadN X13.here hx rfl (hb hby d3_36) rfl ?_
    show Steps p.tables e below (T13.setTop (mkF m 37 #[.val (.ref a1), .val (.ref a2), .val (.int (0 : Int32))] [(.int (0 : Int32)), (.ref w12), (.long w11)])) _
    refine X13.laload hx (j := (0 : Int32)) (v := (.long w14)) (by rw [e13]; exact Ar_w12.1) (State.isArrayOf_alike hZ.alike Ar_w12.2.1) Ar_w12.2.2 hin37 hat37 (g := (mkF m 37 #[.val (.ref a1), .val (.ref a2), .val (.int (0 : Int32))] [(.int (0 : Int32)), (.ref w12), (.long w11)])) rfl rfl (hb hby d3_37) _ ?_
    show Steps p.tables e below (T13.setTop (mkF m 38 #[.val (.ref a1), .val (.ref a2), .val (.int (0 : Int32))] [(.long w14), (.long w11)])) _
    refine XS.lcmp X13.here hx rfl (hb hby d3_38) rfl ?_
    show Steps p.tables e below (T13.setTop (mkF m 39 #[.val (.ref a1), .val (.ref a2), .val (.int (0 : Int32))] [(.int (lcmpW w11 w14))])) _
    refine XS.ifYes X13.here hx rfl (pc0 := 39) (pc' := 44) rfl (hb hby d3_39) rfl ((if0 _ _).trans (flt hc39).2.2.2) (by decide) (by decide) ?_
    show Steps p.tables e below (T13.setTop (mkF m 44 #[.val (.ref a1), .val (.ref a2), .val (.int (0 : Int32))] [])) _
    refine XS.iinc X13.here hx rfl (hb hby d3_44) rfl (l' := #[.val (.ref a1), .val (.ref a2), .val (.int ((0 : Int32) + (1 : Int32)))]) rfl ?_
    show Steps p.tables e below (T13.setTop (mkF m 47 #[.val (.ref a1), .val (.ref a2), .val (.int ((0 : Int32) + (1 : Int32)))] [])) _
    refine XS.goto X13.here hx rfl (pc0 := 47) (pc' := 2) rfl (hb hby d3_47) (by decide) (by decide) ?_
    show Steps p.tables e below (T13.setTop (mkF m 2 #[.val (.ref a1), .val (.ref a2), .val (.int ((0 : Int32) + (1 : Int32)))] [])) _
    refine XS.iloadN X13.here hx rfl (hb hby d3_2) rfl ?_
    show Steps p.tables e below (T13.setTop (mkF m 3 #[.val (.ref a1), .val (.ref a2), .val (.int ((0 : Int32) + (1 : Int32)))] [(.int ((0 : Int32) + (1 : Int32)))])) _
    refine XS.aloadN X13.here hx rfl (hb hby d3_3) rfl rfl ?_
    show Steps p.tables e below (T13.setTop (mkF m 4 #[.val (.ref a1), .val (.ref a2), .val (.int ((0 : Int32) + (1 : Int32)))] [(.ref a1), (.int ((0 : Int32) + (1 : Int32)))])) _
    refine st15 _ ?_
    show Steps p.tables e below (T15.setTop (mkF m 7 #[.val (.ref a1), .val (.ref a2), .val (.int ((0 : Int32) + (1 : Int32)))] [(.ref w3), (.int ((0 : Int32) + (1 : Int32)))])) _
    refine X15.arraylength hx (by rw [e15]; exact Ar_w3.1) (State.isArrayOf_alike hZ.alike Ar_w3.2.1) (g := (mkF m 7 #[.val (.ref a1), .val (.ref a2), .val (.int ((0 : Int32) + (1 : Int32)))] [(.ref w3), (.int ((0 : Int32) + (1 : Int32)))])) rfl rfl (hb hby d3_7) _ ?_
    rw [len_of S_w3 N_w3]
    show Steps p.tables e below (T15.setTop (mkF m 8 #[.val (.ref a1), .val (.ref a2), .val (.int ((0 : Int32) + (1 : Int32)))] [(.int z_w3), (.int ((0 : Int32) + (1 : Int32)))])) _
    refine XS.icmpNo X15.here hx rfl (hb hby d3_8) rfl (tlt hc8_2).2.1 ?_
    show Steps p.tables e below (T15.setTop (mkF m 11 #[.val (.ref a1), .val (.ref a2), .val (.int ((0 : Int32) + (1 : Int32)))] [])) _
    refine XS.aloadN X15.here hx rfl (hb hby d3_11) rfl rfl ?_
    show Steps p.tables e below (T15.setTop (mkF m 12 #[.val (.ref a1), .val (.ref a2), .val (.int ((0 : Int32) + (1 : Int32)))] [(.ref a1)])) _
    refine st16 _ ?_
    show Steps p.tables e below (T16.setTop (mkF m 15 #[.val (.ref a1), .val (.ref a2), .val (.int ((0 : Int32) + (1 : Int32)))] [(.ref w3)])) _
    refine XS.iloadN X16.here hx rfl (hb hby d3_15) rfl ?_
    show Steps p.tables e below (T16.setTop (mkF m 16 #[.val (.ref a1), .val (.ref a2), .val (.int ((0 : Int32) + (1 : Int32)))] [(.int ((0 : Int32) + (1 : Int32))), (.ref w3)])) _
    refine X16.laload hx (j := ((0 : Int32) + (1 : Int32))) (v := (.long w17)) (by rw [e16]; exact Ar_w3.1) (State.isArrayOf_alike hZ.alike Ar_w3.2.1) Ar_w3.2.2 hin16_2 hat16_2 (g := (mkF m 16 #[.val (.ref a1), .val (.ref a2), .val (.int ((0 : Int32) + (1 : Int32)))] [(.int ((0 : Int32) + (1 : Int32))), (.ref w3)])) rfl rfl (hb hby d3_16) _ ?_
    show Steps p.tables e below (T16.setTop (mkF m 17 #[.val (.ref a1), .val (.ref a2), .val (.int ((0 : Int32) + (1 : Int32)))] [(.long w17)])) _
    refine st18 _ ?_
    show Steps p.tables e below (T18.setTop (mkF m 20 #[.val (.ref a1), .val (.ref a2), .val (.int ((0 : Int32) + (1 : Int32)))] [(.ref w7), (.long w17)])) _
    refine XS.iloadN X18.here hx rfl (hb hby d3_20) rfl ?_
    show Steps p.tables e below (T18.setTop (mkF m 21 #[.val (.ref a1), .val (.ref a2), .val (.int ((0 : Int32) + (1 : Int32)))] [(.int ((0 : Int32) + (1 : Int32))), (.ref w7), (.long w17)])) _
    refine X18.laload hx (j := ((0 : Int32) + (1 : Int32))) (v := (.long w19)) (by rw [e18]; exact Ar_w7.1) (State.isArrayOf_alike hZ.alike Ar_w7.2.1) Ar_w7.2.2 hin21_2 hat21_2 (g := (mkF m 21 #[.val (.ref a1), .val (.ref a2), .val (.int ((0 : Int32) + (1 : Int32)))] [(.int ((0 : Int32) + (1 : Int32))), (.ref w7), (.long w17)])) rfl rfl (hb hby d3_21) _ ?_
    show Steps p.tables e below (T18.setTop (mkF m 22 #[.val (.ref a1), .val (.ref a2), .val (.int ((0 : Int32) + (1 : Int32)))] [(.long w19), (.long w17)])) _
    refine XS.lcmp X18.here hx rfl (hb hby d3_22) rfl ?_
    show Steps p.tables e below (T18.setTop (mkF m 23 #[.val (.ref a1), .val (.ref a2), .val (.int ((0 : Int32) + (1 : Int32)))] [(.int (lcmpW w17 w19))])) _
    refine XS.ifNo X18.here hx rfl (hb hby d3_23) rfl ((if0 _ _).trans (flt hc23_2).1) ?_
    show Steps p.tables e below (T18.setTop (mkF m 26 #[.val (.ref a1), .val (.ref a2), .val (.int ((0 : Int32) + (1 : Int32)))] [])) _
    refine XS.aloadN X18.here hx rfl (hb hby d3_26) rfl rfl ?_
    show Steps p.tables e below (T18.setTop (mkF m 27 #[.val (.ref a1), .val (.ref a2), .val (.int ((0 : Int32) + (1 : Int32)))] [(.ref a1)])) _
    refine st20 _ ?_
    show Steps p.tables e below (T20.setTop (mkF m 30 #[.val (.ref a1), .val (.ref a2), .val (.int ((0 : Int32) + (1 : Int32)))] [(.ref w3)])) _
    refine XS.iloadN X20.here hx rfl (hb hby d3_30) rfl ?_
    show Steps p.tables e below (T20.setTop (mkF m 31 #[.val (.ref a1), .val (.ref a2), .val (.int ((0 : Int32) + (1 : Int32)))] [(.int ((0 : Int32) + (1 : Int32))), (.ref w3)])) _
    refine X20.laload hx (j := ((0 : Int32) + (1 : Int32))) (v := (.long w21)) (by rw [e20]; exact Ar_w3.1) (State.isArrayOf_alike hZ.alike Ar_w3.2.1) Ar_w3.2.2 hin31_2 hat31_2 (g := (mkF m 31 #[.val (.ref a1), .val (.ref a2), .val (.int ((0 : Int32) + (1 : Int32)))] [(.int ((0 : Int32) + (1 : Int32))), (.ref w3)])) rfl rfl (hb hby d3_31) _ ?_
    show Steps p.tables e below (T20.setTop (mkF m 32 #[.val (.ref a1), .val (.ref a2), .val (.int ((0 : Int32) + (1 : Int32)))] [(.long w21)])) _
    refine XS.aloadN X20.here hx rfl (hb hby d3_32) rfl rfl ?_
    show Steps p.tables e below (T20.setTop (mkF m 33 #[.val (.ref a1), .val (.ref a2), .val (.int ((0 : Int32) + (1 : Int32)))] [(.ref a2), (.long w21)])) _
    refine st22 _ ?_
    show Steps p.tables e below (T22.setTop (mkF m 36 #[.val (.ref a1), .val (.ref a2), .val (.int ((0 : Int32) + (1 : Int32)))] [(.ref w12), (.long w21)])) _
    refine XS.iloadN X22.here hx rfl (hb hby d3_36) rfl ?_
    show Steps p.tables e below (T22.setTop (mkF m 37 #[.val (.ref a1), .val (.ref a2), .val (.int ((0 : Int32) + (1 : Int32)))] [(.int ((0 : Int32) + (1 : Int32))), (.ref w12), (.long w21)])) _
    refine X22.laload hx (j := ((0 : Int32) + (1 : Int32))) (v := (.long w23)) (by rw [e22]; exact Ar_w12.1) (State.isArrayOf_alike hZ.alike Ar_w12.2.1) Ar_w12.2.2 hin37_2 hat37_2 (g := (mkF m 37 #[.val (.ref a1), .val (.ref a2), .val (.int ((0 : Int32) + (1 : Int32)))] [(.int ((0 : Int32) + (1 : Int32))), (.ref w12), (.long w21)])) rfl rfl (hb hby d3_37) _ ?_
    show Steps p.tables e below (T22.setTop (mkF m 38 #[.val (.ref a1), .val (.ref a2), .val (.int ((0 : Int32) + (1 : Int32)))] [(.long w23), (.long w21)])) _
    refine XS.lcmp X22.here hx rfl (hb hby d3_38) rfl ?_
    show Steps p.tables e below (T22.setTop (mkF m 39 #[.val (.ref a1), .val (.ref a2), .val (.int ((0 : Int32) + (1 : Int32)))] [(.int (lcmpW w21 w23))])) _
    refine XS.ifYes X22.here hx rfl (pc0 := 39) (pc' := 44) rfl (hb hby d3_39) rfl ((if0 _ _).trans (flt hc39_2).2.2.2) (by decide) (by decide) ?_
    show Steps p.tables e below (T22.setTop (mkF m 44 #[.val (.ref a1), .val (.ref a2), .val (.int ((0 : Int32) + (1 : Int32)))] [])) _
    refine XS.iinc X22.here hx rfl (hb hby d3_44) rfl (l' := #[.val (.ref a1), .val (.ref a2), .val (.int (((0 : Int32) + (1 : Int32)) + (1 : Int32)))]) rfl ?_
    show Steps p.tables e below (T22.setTop (mkF m 47 #[.val (.ref a1), .val (.ref a2), .val (.int (((0 : Int32) + (1 : Int32)) + (1 : Int32)))] [])) _
    refine XS.goto X22.here hx rfl (pc0 := 47) (pc' := 2) rfl (hb hby d3_47) (by decide) (by decide) ?_
    show Steps p.tables e below (T22.setTop (mkF m 2 #[.val (.ref a1), .val (.ref a2), .val (.int (((0 : Int32) + (1 : Int32)) + (1 : Int32)))] [])) _
    refine XS.iloadN X22.here hx rfl (hb hby d3_2) rfl ?_
    show Steps p.tables e below (T22.setTop (mkF m 3 #[.val (.ref a1), .val (.ref a2), .val (.int (((0 : Int32) + (1 : Int32)) + (1 : Int32)))] [(.int (((0 : Int32) + (1 : Int32)) + (1 : Int32)))])) _
    refine XS.aloadN X22.here hx rfl (hb hby d3_3) rfl rfl ?_
    show Steps p.tables e below (T22.setTop (mkF m 4 #[.val (.ref a1), .val (.ref a2), .val (.int (((0 : Int32) + (1 : Int32)) + (1 : Int32)))] [(.ref a1), (.int (((0 : Int32) + (1 : Int32)) + (1 : Int32)))])) _
    refine st24 _ ?_
    show Steps p.tables e below (T24.setTop (mkF m 7 #[.val (.ref a1), .val (.ref a2), .val (.int (((0 : Int32) + (1 : Int32)) + (1 : Int32)))] [(.ref w3), (.int (((0 : Int32) + (1 : Int32)) + (1 : Int32)))])) _
    refine X24.arraylength hx (by rw [e24]; exact Ar_w3.1) (State.isArrayOf_alike hZ.alike Ar_w3.2.1) (g := (mkF m 7 #[.val (.ref a1), .val (.ref a2), .val (.int (((0 : Int32) + (1 : Int32)) + (1 : Int32)))] [(.ref w3), (.int (((0 : Int32) + (1 : Int32)) + (1 : Int32)))])) rfl rfl (hb hby d3_7) _ ?_
    rw [len_of S_w3 N_w3]
    show Steps p.tables e below (T24.setTop (mkF m 8 #[.val (.ref a1), .val (.ref a2), .val (.int (((0 : Int32) + (1 : Int32)) + (1 : Int32)))] [(.int z_w3), (.int (((0 : Int32) + (1 : Int32)) + (1 : Int32)))])) _
    refine XS.icmpYes X24.here hx rfl (pc0 := 8) (pc' := 50) rfl (hb hby d3_8) rfl (flt hc8_3).2.1 (by decide) (by decide) ?_
    show Steps p.tables e below (T24.setTop (mkF m 50 #[.val (.ref a1), .val (.ref a2), .val (.int (((0 : Int32) + (1 : Int32)) + (1 : Int32)))] [])) _
    refine XS.iconst X24.here hx rfl (hb hby d3_50) ?_
    show Steps p.tables e below (T24.setTop (mkF m 51 #[.val (.ref a1), .val (.ref a2), .val (.int (((0 : Int32) + (1 : Int32)) + (1 : Int32)))] [(.int (1 : Int32))])) _
    exact retN X24 hx (t := .boolean) Bd.returns (by simp) (hb hby d3_51) hr
  · show QF (1 : Int32) h0 n0 _ T24.heap _
    rw [e24]
    exact ⟨rfl, N0, rfl⟩
theorem rmRe (l : Launch) (Z : State) (a0 : Array Value) (hw : ∀ d ∈ tables_1, d.before a0 Z = true) (ws : List Jvm.Cond) (a1 a2 b1 b2 bL : Addr) (k1 k2 kL : ClassId) (x0 x1 y0 y1 : Int64) (h0 : Heap) (n0 : Nat) (Z0 : n0 ≤ h0.size) (F1 : Fld Z h0 a1 "com/example/slotwise/slotwise/engine/Resources" "amounts" "[J" (.ref b1)) (F2 : Fld Z h0 a2 "com/example/slotwise/slotwise/engine/Resources" "amounts" "[J" (.ref b2)) (S_L : Sta Z h0 "com/example/slotwise/slotwise/engine/Resources" "LEAST" "[J" (.ref bL)) (V1 : Arv Z h0 b1 k1 .long (2 : Int32) [(.long x0), (.long x1)] (.long (0 : Int64))) (V2 : Arv Z h0 b2 k2 .long (2 : Int32) [(.long y0), (.long y1)] (.long (0 : Int64))) (VL : Arv Z h0 bL kL .long (2 : Int32) [(.long (1 : Int64)), (.long (0 : Int64))] (.long (0 : Int64))) (c1 : ¬ ((lcmpW x0 (1 : Int64)) < (0 : Int32))) (c2 : ¬ ((0 : Int32) < (lcmpW x0 y0))) (c3 : ¬ ((lcmpW x1 (0 : Int64)) < (0 : Int32))) (c4 : ¬ ((0 : Int32) < (lcmpW x1 y1))) :
    MetFree l (⟨"com/example/slotwise/slotwise/engine/Resources", "canRunOn", "(Lcom/example/slotwise/slotwise/engine/Resources;)Z"⟩ : MethodName) (head1 (Jvm.Cond.code (⟨"com/example/slotwise/slotwise/engine/Resources", "canRunOn", "(Lcom/example/slotwise/slotwise/engine/Resources;)Z"⟩ : MethodName) prog_57_method_14_code 3 (some .boolean) :: ws) ({ frames := 0, cells := 0, slots := 0, locals := 0 } : Room)) (fun a U => a = #[(.ref a1), (.ref a2)] ∧ Z.Warmed39 U.vm ∧ U.heap = h0) (fun _ _ _ _ _ => True) (fun _ U o U' => ∃ v L, o = .returned v ∧ QF (1 : Int32) h0 n0 v U'.heap L ∧ FrameEnd U o U' L ({ frames := 0, cells := 0, slots := 0, locals := 0 } : Room).cells ({ frames := 0, cells := 0, slots := 0, locals := 0 } : Room).slots) := by
  obtain ⟨c1', A1, -, S1, N1, H1, -⟩ := V1
  obtain ⟨c2', A2, -, S2, N2, H2, -⟩ := V2
  obtain ⟨cL', AL, -, SL, NL, HL, -⟩ := VL
  exact rm3e l Z a0 hw ws (a1 := a1) (a2 := a2) (w3 := b1) (cl_w3 := c1') (z_w3 := (2 : Int32)) (w6 := x0) (w7 := bL) (w9 := (1 : Int64)) (cl_w7 := cL') (w11 := x0) (w12 := b2) (w14 := y0) (cl_w12 := c2') (w17 := x1) (w19 := (0 : Int64)) (w21 := x1) (w23 := y1) (h0 := h0) (n0 := n0) (Z0 := Z0) (F_amounts_a1 := F1) (Ar_w3 := A1) (S_w3 := S1) (N_w3 := N1) (hin16 := inb_of S1 ⟨by decide, by decide⟩) (hat16 := H1.at (inb_of S1 ⟨by decide, by decide⟩) rfl) (S_LEAST := S_L) (Ar_w7 := AL) (hin21 := inb_of SL ⟨by decide, by decide⟩) (hat21 := HL.at (inb_of SL ⟨by decide, by decide⟩) rfl) (hin31 := inb_of S1 ⟨by decide, by decide⟩) (hat31 := H1.at (inb_of S1 ⟨by decide, by decide⟩) rfl) (F_amounts_a2 := F2) (Ar_w12 := A2) (hin37 := inb_of S2 ⟨by decide, by decide⟩) (hat37 := H2.at (inb_of S2 ⟨by decide, by decide⟩) rfl) (hin16_2 := inb_of S1 ⟨by decide, by decide⟩) (hat16_2 := H1.at (inb_of S1 ⟨by decide, by decide⟩) rfl) (hin21_2 := inb_of SL ⟨by decide, by decide⟩) (hat21_2 := HL.at (inb_of SL ⟨by decide, by decide⟩) rfl) (hin31_2 := inb_of S1 ⟨by decide, by decide⟩) (hat31_2 := H1.at (inb_of S1 ⟨by decide, by decide⟩) rfl) (hin37_2 := inb_of S2 ⟨by decide, by decide⟩) (hat37_2 := H2.at (inb_of S2 ⟨by decide, by decide⟩) rfl) (hc8 := by decide) (hc23 := c1) (hc39 := c2) (hc8_2 := by decide) (hc23_2 := c3) (hc39_2 := c4) (hc8_3 := by decide)
theorem rmR0 (l : Launch) (Z : State) (a0 : Array Value) (hw : ∀ d ∈ tables_1, d.before a0 Z = true) (ws : List Jvm.Cond) (a1 a2 b1 b2 bL : Addr) (k1 k2 kL : ClassId) (x0 x1 y0 y1 : Int64) (h0 : Heap) (n0 : Nat) (Z0 : n0 ≤ h0.size) (F1 : Fld Z h0 a1 "com/example/slotwise/slotwise/engine/Resources" "amounts" "[J" (.ref b1)) (F2 : Fld Z h0 a2 "com/example/slotwise/slotwise/engine/Resources" "amounts" "[J" (.ref b2)) (S_L : Sta Z h0 "com/example/slotwise/slotwise/engine/Resources" "LEAST" "[J" (.ref bL)) (V1 : Arv Z h0 b1 k1 .long (2 : Int32) [(.long x0), (.long x1)] (.long (0 : Int64))) (V2 : Arv Z h0 b2 k2 .long (2 : Int32) [(.long y0), (.long y1)] (.long (0 : Int64))) (VL : Arv Z h0 bL kL .long (2 : Int32) [(.long (1 : Int64)), (.long (0 : Int64))] (.long (0 : Int64))) (hany : (lcmpW x0 (1 : Int64)) < (0 : Int32) ∨ (lcmpW x1 (0 : Int64)) < (0 : Int32) ∨ (0 : Int32) < (lcmpW x0 y0) ∨ (0 : Int32) < (lcmpW x1 y1)) :
    MetFree l (⟨"com/example/slotwise/slotwise/engine/Resources", "canRunOn", "(Lcom/example/slotwise/slotwise/engine/Resources;)Z"⟩ : MethodName) (head1 (Jvm.Cond.code (⟨"com/example/slotwise/slotwise/engine/Resources", "canRunOn", "(Lcom/example/slotwise/slotwise/engine/Resources;)Z"⟩ : MethodName) prog_57_method_14_code 3 (some .boolean) :: ws) ({ frames := 0, cells := 0, slots := 0, locals := 0 } : Room)) (fun a U => a = #[(.ref a1), (.ref a2)] ∧ Z.Warmed39 U.vm ∧ U.heap = h0) (fun _ _ _ _ _ => True) (fun _ U o U' => ∃ v L, o = .returned v ∧ QF (0 : Int32) h0 n0 v U'.heap L ∧ FrameEnd U o U' L ({ frames := 0, cells := 0, slots := 0, locals := 0 } : Room).cells ({ frames := 0, cells := 0, slots := 0, locals := 0 } : Room).slots) := by
  by_cases c1 : (lcmpW x0 (1 : Int64)) < (0 : Int32)
  · exact rmRa l Z a0 hw ws a1 a2 b1 b2 bL k1 k2 kL x0 x1 y0 y1 h0 n0 Z0 F1 F2 S_L V1 V2 VL c1
  by_cases c2 : (0 : Int32) < (lcmpW x0 y0)
  · exact rmRb l Z a0 hw ws a1 a2 b1 b2 bL k1 k2 kL x0 x1 y0 y1 h0 n0 Z0 F1 F2 S_L V1 V2 VL c1 c2
  by_cases c3 : (lcmpW x1 (0 : Int64)) < (0 : Int32)
  · exact rmRc l Z a0 hw ws a1 a2 b1 b2 bL k1 k2 kL x0 x1 y0 y1 h0 n0 Z0 F1 F2 S_L V1 V2 VL c1 c2 c3
  by_cases c4 : (0 : Int32) < (lcmpW x1 y1)
  · exact rmRd l Z a0 hw ws a1 a2 b1 b2 bL k1 k2 kL x0 x1 y0 y1 h0 n0 Z0 F1 F2 S_L V1 V2 VL c1 c2 c3 c4
  exact absurd hany (fun q => q.elim c1 (fun q => q.elim c3 (fun q => q.elim c2 c4)))
set_option maxRecDepth 65536 in
set_option maxHeartbeats 40000000 in
theorem pc_At {p : Program} {l : Launch} {e : Env} {R : Room} {s : State} {m : MethodId} {args : Array Value} {below : List Frame} {meth : Method} {c : Code} {T0 : State} {locs : List Loc} {cells slots : Nat} (q1 : Int64) (q2 : Int64) (q3 : Int64) (q4 : Int64) (p5 : Int32)
    (X0 : Stand p l e R s m args below meth c T0 locs cells slots) (hx : p.tables.exec = Jvm.exec) (hby : c.code = code) (hc11 : (p5 &&& (64 : Int32)) = (0 : Int32)) :
      ∀ target, Steps p.tables e below (T0.setTop (mkF m 26 #[.val (.long q1), .second, .val (.long q2), .second, .val (.long q3), .second, .val (.long q4), .second, .val (.int p5), .val (.long q1), .second, .val (.long q2), .second, .unset, .unset, .unset, .unset, .unset, .unset, .unset, .unset, .unset] [])) target → Steps p.tables e below (T0.setTop (mkF m 0 #[.val (.long q1), .second, .val (.long q2), .second, .val (.long q3), .second, .val (.long q4), .second, .val (.int p5), .unset, .unset, .unset, .unset, .unset, .unset, .unset, .unset, .unset, .unset, .unset, .unset, .unset] [])) target := by
  intro target kt
  show Steps p.tables e below (T0.setTop (mkF m 0 #[.val (.long q1), .second, .val (.long q2), .second, .val (.long q3), .second, .val (.long q4), .second, .val (.int p5), .unset, .unset, .unset, .unset, .unset, .unset, .unset, .unset, .unset, .unset, .unset, .unset, .unset] [])) _
  refine XS.lloadN X0.here hx rfl (hb hby at_0) rfl ?_
  show Steps p.tables e below (T0.setTop (mkF m 1 #[.val (.long q1), .second, .val (.long q2), .second, .val (.long q3), .second, .val (.long q4), .second, .val (.int p5), .unset, .unset, .unset, .unset, .unset, .unset, .unset, .unset, .unset, .unset, .unset, .unset, .unset] [(.long q1)])) _
  refine XS.lstore X0.here hx rfl (hb hby at_1) rfl (l' := #[.val (.long q1), .second, .val (.long q2), .second, .val (.long q3), .second, .val (.long q4), .second, .val (.int p5), .val (.long q1), .second, .unset, .unset, .unset, .unset, .unset, .unset, .unset, .unset, .unset, .unset, .unset]) rfl ?_
  show Steps p.tables e below (T0.setTop (mkF m 3 #[.val (.long q1), .second, .val (.long q2), .second, .val (.long q3), .second, .val (.long q4), .second, .val (.int p5), .val (.long q1), .second, .unset, .unset, .unset, .unset, .unset, .unset, .unset, .unset, .unset, .unset, .unset] [])) _
  refine XS.lloadN X0.here hx rfl (hb hby at_3) rfl ?_
  show Steps p.tables e below (T0.setTop (mkF m 4 #[.val (.long q1), .second, .val (.long q2), .second, .val (.long q3), .second, .val (.long q4), .second, .val (.int p5), .val (.long q1), .second, .unset, .unset, .unset, .unset, .unset, .unset, .unset, .unset, .unset, .unset, .unset] [(.long q2)])) _
  refine XS.lstore X0.here hx rfl (hb hby at_4) rfl (l' := #[.val (.long q1), .second, .val (.long q2), .second, .val (.long q3), .second, .val (.long q4), .second, .val (.int p5), .val (.long q1), .second, .val (.long q2), .second, .unset, .unset, .unset, .unset, .unset, .unset, .unset, .unset, .unset]) rfl ?_
  show Steps p.tables e below (T0.setTop (mkF m 6 #[.val (.long q1), .second, .val (.long q2), .second, .val (.long q3), .second, .val (.long q4), .second, .val (.int p5), .val (.long q1), .second, .val (.long q2), .second, .unset, .unset, .unset, .unset, .unset, .unset, .unset, .unset, .unset] [])) _
  refine XS.iload X0.here hx rfl (hb hby at_6) rfl ?_
  show Steps p.tables e below (T0.setTop (mkF m 8 #[.val (.long q1), .second, .val (.long q2), .second, .val (.long q3), .second, .val (.long q4), .second, .val (.int p5), .val (.long q1), .second, .val (.long q2), .second, .unset, .unset, .unset, .unset, .unset, .unset, .unset, .unset, .unset] [(.int p5)])) _
  refine XS.bipush X0.here hx rfl (hb hby at_8) ?_
  show Steps p.tables e below (T0.setTop (mkF m 10 #[.val (.long q1), .second, .val (.long q2), .second, .val (.long q3), .second, .val (.long q4), .second, .val (.int p5), .val (.long q1), .second, .val (.long q2), .second, .unset, .unset, .unset, .unset, .unset, .unset, .unset, .unset, .unset] [(.int (64 : Int32)), (.int p5)])) _
  refine XS.iand X0.here hx rfl (hb hby at_10) rfl ?_
  show Steps p.tables e below (T0.setTop (mkF m 11 #[.val (.long q1), .second, .val (.long q2), .second, .val (.long q3), .second, .val (.long q4), .second, .val (.int p5), .val (.long q1), .second, .val (.long q2), .second, .unset, .unset, .unset, .unset, .unset, .unset, .unset, .unset, .unset] [(.int (p5 &&& (64 : Int32)))])) _
  refine XS.ifYes X0.here hx rfl (pc0 := 11) (pc' := 26) rfl (hb hby at_11) rfl ((if0 _ _).trans (teq hc11).1) (by decide) (by decide) ?_
  exact kt
set_option maxRecDepth 65536 in
set_option maxHeartbeats 40000000 in
theorem pc_Af {p : Program} {l : Launch} {e : Env} {R : Room} {s : State} {m : MethodId} {args : Array Value} {below : List Frame} {meth : Method} {c : Code} {T0 : State} {locs : List Loc} {cells slots : Nat} (q1 : Int64) (q2 : Int64) (q3 : Int64) (q4 : Int64) (p5 : Int32)
    (X0 : Stand p l e R s m args below meth c T0 locs cells slots) (hx : p.tables.exec = Jvm.exec) (hby : c.code = code) (hc11 : ¬ ((p5 &&& (64 : Int32)) = (0 : Int32))) :
      ∀ target, Steps p.tables e below (T0.setTop (mkF m 26 #[.val (.long q1), .second, .val (.long q2), .second, .val (.long q3), .second, .val (.long q4), .second, .val (.int p5), .val (.long ((((p5 >>> ((7 : Int32) &&& 31)) &&& (3 : Int32)).toInt64) - (1 : Int64))), .second, .val (.long q2), .second, .unset, .unset, .unset, .unset, .unset, .unset, .unset, .unset, .unset] [])) target → Steps p.tables e below (T0.setTop (mkF m 0 #[.val (.long q1), .second, .val (.long q2), .second, .val (.long q3), .second, .val (.long q4), .second, .val (.int p5), .unset, .unset, .unset, .unset, .unset, .unset, .unset, .unset, .unset, .unset, .unset, .unset, .unset] [])) target := by
  intro target kt
  show Steps p.tables e below (T0.setTop (mkF m 0 #[.val (.long q1), .second, .val (.long q2), .second, .val (.long q3), .second, .val (.long q4), .second, .val (.int p5), .unset, .unset, .unset, .unset, .unset, .unset, .unset, .unset, .unset, .unset, .unset, .unset, .unset] [])) _
  refine XS.lloadN X0.here hx rfl (hb hby at_0) rfl ?_
  show Steps p.tables e below (T0.setTop (mkF m 1 #[.val (.long q1), .second, .val (.long q2), .second, .val (.long q3), .second, .val (.long q4), .second, .val (.int p5), .unset, .unset, .unset, .unset, .unset, .unset, .unset, .unset, .unset, .unset, .unset, .unset, .unset] [(.long q1)])) _
  refine XS.lstore X0.here hx rfl (hb hby at_1) rfl (l' := #[.val (.long q1), .second, .val (.long q2), .second, .val (.long q3), .second, .val (.long q4), .second, .val (.int p5), .val (.long q1), .second, .unset, .unset, .unset, .unset, .unset, .unset, .unset, .unset, .unset, .unset, .unset]) rfl ?_
  show Steps p.tables e below (T0.setTop (mkF m 3 #[.val (.long q1), .second, .val (.long q2), .second, .val (.long q3), .second, .val (.long q4), .second, .val (.int p5), .val (.long q1), .second, .unset, .unset, .unset, .unset, .unset, .unset, .unset, .unset, .unset, .unset, .unset] [])) _
  refine XS.lloadN X0.here hx rfl (hb hby at_3) rfl ?_
  show Steps p.tables e below (T0.setTop (mkF m 4 #[.val (.long q1), .second, .val (.long q2), .second, .val (.long q3), .second, .val (.long q4), .second, .val (.int p5), .val (.long q1), .second, .unset, .unset, .unset, .unset, .unset, .unset, .unset, .unset, .unset, .unset, .unset] [(.long q2)])) _
  refine XS.lstore X0.here hx rfl (hb hby at_4) rfl (l' := #[.val (.long q1), .second, .val (.long q2), .second, .val (.long q3), .second, .val (.long q4), .second, .val (.int p5), .val (.long q1), .second, .val (.long q2), .second, .unset, .unset, .unset, .unset, .unset, .unset, .unset, .unset, .unset]) rfl ?_
  show Steps p.tables e below (T0.setTop (mkF m 6 #[.val (.long q1), .second, .val (.long q2), .second, .val (.long q3), .second, .val (.long q4), .second, .val (.int p5), .val (.long q1), .second, .val (.long q2), .second, .unset, .unset, .unset, .unset, .unset, .unset, .unset, .unset, .unset] [])) _
  refine XS.iload X0.here hx rfl (hb hby at_6) rfl ?_
  show Steps p.tables e below (T0.setTop (mkF m 8 #[.val (.long q1), .second, .val (.long q2), .second, .val (.long q3), .second, .val (.long q4), .second, .val (.int p5), .val (.long q1), .second, .val (.long q2), .second, .unset, .unset, .unset, .unset, .unset, .unset, .unset, .unset, .unset] [(.int p5)])) _
  refine XS.bipush X0.here hx rfl (hb hby at_8) ?_
  show Steps p.tables e below (T0.setTop (mkF m 10 #[.val (.long q1), .second, .val (.long q2), .second, .val (.long q3), .second, .val (.long q4), .second, .val (.int p5), .val (.long q1), .second, .val (.long q2), .second, .unset, .unset, .unset, .unset, .unset, .unset, .unset, .unset, .unset] [(.int (64 : Int32)), (.int p5)])) _
  refine XS.iand X0.here hx rfl (hb hby at_10) rfl ?_
  show Steps p.tables e below (T0.setTop (mkF m 11 #[.val (.long q1), .second, .val (.long q2), .second, .val (.long q3), .second, .val (.long q4), .second, .val (.int p5), .val (.long q1), .second, .val (.long q2), .second, .unset, .unset, .unset, .unset, .unset, .unset, .unset, .unset, .unset] [(.int (p5 &&& (64 : Int32)))])) _
  refine XS.ifNo X0.here hx rfl (hb hby at_11) rfl ((if0 _ _).trans (feq hc11).1) ?_
  show Steps p.tables e below (T0.setTop (mkF m 14 #[.val (.long q1), .second, .val (.long q2), .second, .val (.long q3), .second, .val (.long q4), .second, .val (.int p5), .val (.long q1), .second, .val (.long q2), .second, .unset, .unset, .unset, .unset, .unset, .unset, .unset, .unset, .unset] [])) _
  refine XS.iload X0.here hx rfl (hb hby at_14) rfl ?_
  show Steps p.tables e below (T0.setTop (mkF m 16 #[.val (.long q1), .second, .val (.long q2), .second, .val (.long q3), .second, .val (.long q4), .second, .val (.int p5), .val (.long q1), .second, .val (.long q2), .second, .unset, .unset, .unset, .unset, .unset, .unset, .unset, .unset, .unset] [(.int p5)])) _
  refine XS.bipush X0.here hx rfl (hb hby at_16) ?_
  show Steps p.tables e below (T0.setTop (mkF m 18 #[.val (.long q1), .second, .val (.long q2), .second, .val (.long q3), .second, .val (.long q4), .second, .val (.int p5), .val (.long q1), .second, .val (.long q2), .second, .unset, .unset, .unset, .unset, .unset, .unset, .unset, .unset, .unset] [(.int (7 : Int32)), (.int p5)])) _
  refine XS.ishr X0.here hx rfl (hb hby at_18) rfl ?_
  show Steps p.tables e below (T0.setTop (mkF m 19 #[.val (.long q1), .second, .val (.long q2), .second, .val (.long q3), .second, .val (.long q4), .second, .val (.int p5), .val (.long q1), .second, .val (.long q2), .second, .unset, .unset, .unset, .unset, .unset, .unset, .unset, .unset, .unset] [(.int (p5 >>> ((7 : Int32) &&& 31)))])) _
  refine XS.iconst X0.here hx rfl (hb hby at_19) ?_
  show Steps p.tables e below (T0.setTop (mkF m 20 #[.val (.long q1), .second, .val (.long q2), .second, .val (.long q3), .second, .val (.long q4), .second, .val (.int p5), .val (.long q1), .second, .val (.long q2), .second, .unset, .unset, .unset, .unset, .unset, .unset, .unset, .unset, .unset] [(.int (3 : Int32)), (.int (p5 >>> ((7 : Int32) &&& 31)))])) _
  refine XS.iand X0.here hx rfl (hb hby at_20) rfl ?_
  show Steps p.tables e below (T0.setTop (mkF m 21 #[.val (.long q1), .second, .val (.long q2), .second, .val (.long q3), .second, .val (.long q4), .second, .val (.int p5), .val (.long q1), .second, .val (.long q2), .second, .unset, .unset, .unset, .unset, .unset, .unset, .unset, .unset, .unset] [(.int ((p5 >>> ((7 : Int32) &&& 31)) &&& (3 : Int32)))])) _
  refine XS.i2l X0.here hx rfl (hb hby at_21) rfl ?_
  show Steps p.tables e below (T0.setTop (mkF m 22 #[.val (.long q1), .second, .val (.long q2), .second, .val (.long q3), .second, .val (.long q4), .second, .val (.int p5), .val (.long q1), .second, .val (.long q2), .second, .unset, .unset, .unset, .unset, .unset, .unset, .unset, .unset, .unset] [(.long (((p5 >>> ((7 : Int32) &&& 31)) &&& (3 : Int32)).toInt64))])) _
  refine XS.lconst X0.here hx rfl (hb hby at_22) ?_
  show Steps p.tables e below (T0.setTop (mkF m 23 #[.val (.long q1), .second, .val (.long q2), .second, .val (.long q3), .second, .val (.long q4), .second, .val (.int p5), .val (.long q1), .second, .val (.long q2), .second, .unset, .unset, .unset, .unset, .unset, .unset, .unset, .unset, .unset] [(.long (1 : Int64)), (.long (((p5 >>> ((7 : Int32) &&& 31)) &&& (3 : Int32)).toInt64))])) _
  refine XS.lsub X0.here hx rfl (hb hby at_23) rfl ?_
  show Steps p.tables e below (T0.setTop (mkF m 24 #[.val (.long q1), .second, .val (.long q2), .second, .val (.long q3), .second, .val (.long q4), .second, .val (.int p5), .val (.long q1), .second, .val (.long q2), .second, .unset, .unset, .unset, .unset, .unset, .unset, .unset, .unset, .unset] [(.long ((((p5 >>> ((7 : Int32) &&& 31)) &&& (3 : Int32)).toInt64) - (1 : Int64)))])) _
  refine XS.lstore X0.here hx rfl (hb hby at_24) rfl (l' := #[.val (.long q1), .second, .val (.long q2), .second, .val (.long q3), .second, .val (.long q4), .second, .val (.int p5), .val (.long ((((p5 >>> ((7 : Int32) &&& 31)) &&& (3 : Int32)).toInt64) - (1 : Int64))), .second, .val (.long q2), .second, .unset, .unset, .unset, .unset, .unset, .unset, .unset, .unset, .unset]) rfl ?_
  exact kt
theorem pcs_A {p : Program} {l : Launch} {e : Env} {R : Room} {s : State} {m : MethodId} {args : Array Value} {below : List Frame} {meth : Method} {c : Code} {T0 : State} {locs : List Loc} {cells slots : Nat} (q1 : Int64) (q2 : Int64) (q3 : Int64) (q4 : Int64) (p5 : Int32) (X0 : Stand p l e R s m args below meth c T0 locs cells slots) (hx : p.tables.exec = Jvm.exec) (hby : c.code = code) (target : State) (kt : Steps p.tables e below (T0.setTop (mkF m 26 #[.val (.long q1), .second, .val (.long q2), .second, .val (.long q3), .second, .val (.long q4), .second, .val (.int p5), .val (.long (own_pA q1 p5)), .second, .val (.long q2), .second, .unset, .unset, .unset, .unset, .unset, .unset, .unset, .unset, .unset] [])) target) : Steps p.tables e below (T0.setTop (mkF m 0 #[.val (.long q1), .second, .val (.long q2), .second, .val (.long q3), .second, .val (.long q4), .second, .val (.int p5), .unset, .unset, .unset, .unset, .unset, .unset, .unset, .unset, .unset, .unset, .unset, .unset, .unset] [])) target := by
  by_cases q : (p5 &&& (64 : Int32)) = (0 : Int32)
  · have w : (own_pA q1 p5) = q1 := if_pos q
    rw [w] at kt
    exact pc_At q1 q2 q3 q4 p5 X0 hx hby q target kt
  · have w : (own_pA q1 p5) = ((((p5 >>> ((7 : Int32) &&& 31)) &&& (3 : Int32)).toInt64) - (1 : Int64)) := if_neg q
    rw [w] at kt
    exact pc_Af q1 q2 q3 q4 p5 X0 hx hby q target kt
set_option maxRecDepth 65536 in
set_option maxHeartbeats 40000000 in
theorem pc_Bt {p : Program} {l : Launch} {e : Env} {R : Room} {s : State} {m : MethodId} {args : Array Value} {below : List Frame} {meth : Method} {c : Code} {T0 : State} {locs : List Loc} {cells slots : Nat} (q1 : Int64) (q2 : Int64) (q3 : Int64) (q4 : Int64) (p5 : Int32)
    (X0 : Stand p l e R s m args below meth c T0 locs cells slots) (hx : p.tables.exec = Jvm.exec) (hby : c.code = code) (hc32 : (p5 &&& (512 : Int32)) = (0 : Int32)) :
      ∀ target, Steps p.tables e below (T0.setTop (mkF m 47 #[.val (.long q1), .second, .val (.long q2), .second, .val (.long q3), .second, .val (.long q4), .second, .val (.int p5), .val (.long (own_pA q1 p5)), .second, .val (.long q2), .second, .unset, .unset, .unset, .unset, .unset, .unset, .unset, .unset, .unset] [])) target → Steps p.tables e below (T0.setTop (mkF m 26 #[.val (.long q1), .second, .val (.long q2), .second, .val (.long q3), .second, .val (.long q4), .second, .val (.int p5), .val (.long (own_pA q1 p5)), .second, .val (.long q2), .second, .unset, .unset, .unset, .unset, .unset, .unset, .unset, .unset, .unset] [])) target := by
  intro target kt
  show Steps p.tables e below (T0.setTop (mkF m 26 #[.val (.long q1), .second, .val (.long q2), .second, .val (.long q3), .second, .val (.long q4), .second, .val (.int p5), .val (.long (own_pA q1 p5)), .second, .val (.long q2), .second, .unset, .unset, .unset, .unset, .unset, .unset, .unset, .unset, .unset] [])) _
  refine XS.iload X0.here hx rfl (hb hby at_26) rfl ?_
  show Steps p.tables e below (T0.setTop (mkF m 28 #[.val (.long q1), .second, .val (.long q2), .second, .val (.long q3), .second, .val (.long q4), .second, .val (.int p5), .val (.long (own_pA q1 p5)), .second, .val (.long q2), .second, .unset, .unset, .unset, .unset, .unset, .unset, .unset, .unset, .unset] [(.int p5)])) _
  refine XS.sipush X0.here hx rfl (hb hby at_28) ?_
  show Steps p.tables e below (T0.setTop (mkF m 31 #[.val (.long q1), .second, .val (.long q2), .second, .val (.long q3), .second, .val (.long q4), .second, .val (.int p5), .val (.long (own_pA q1 p5)), .second, .val (.long q2), .second, .unset, .unset, .unset, .unset, .unset, .unset, .unset, .unset, .unset] [(.int (512 : Int32)), (.int p5)])) _
  refine XS.iand X0.here hx rfl (hb hby at_31) rfl ?_
  show Steps p.tables e below (T0.setTop (mkF m 32 #[.val (.long q1), .second, .val (.long q2), .second, .val (.long q3), .second, .val (.long q4), .second, .val (.int p5), .val (.long (own_pA q1 p5)), .second, .val (.long q2), .second, .unset, .unset, .unset, .unset, .unset, .unset, .unset, .unset, .unset] [(.int (p5 &&& (512 : Int32)))])) _
  refine XS.ifYes X0.here hx rfl (pc0 := 32) (pc' := 47) rfl (hb hby at_32) rfl ((if0 _ _).trans (teq hc32).1) (by decide) (by decide) ?_
  exact kt
set_option maxRecDepth 65536 in
set_option maxHeartbeats 40000000 in
theorem pc_Bf {p : Program} {l : Launch} {e : Env} {R : Room} {s : State} {m : MethodId} {args : Array Value} {below : List Frame} {meth : Method} {c : Code} {T0 : State} {locs : List Loc} {cells slots : Nat} (q1 : Int64) (q2 : Int64) (q3 : Int64) (q4 : Int64) (p5 : Int32)
    (X0 : Stand p l e R s m args below meth c T0 locs cells slots) (hx : p.tables.exec = Jvm.exec) (hby : c.code = code) (hc32 : ¬ ((p5 &&& (512 : Int32)) = (0 : Int32))) :
      ∀ target, Steps p.tables e below (T0.setTop (mkF m 47 #[.val (.long q1), .second, .val (.long q2), .second, .val (.long q3), .second, .val (.long q4), .second, .val (.int p5), .val (.long (own_pA q1 p5)), .second, .val (.long ((((p5 >>> ((10 : Int32) &&& 31)) &&& (3 : Int32)).toInt64) - (1 : Int64))), .second, .unset, .unset, .unset, .unset, .unset, .unset, .unset, .unset, .unset] [])) target → Steps p.tables e below (T0.setTop (mkF m 26 #[.val (.long q1), .second, .val (.long q2), .second, .val (.long q3), .second, .val (.long q4), .second, .val (.int p5), .val (.long (own_pA q1 p5)), .second, .val (.long q2), .second, .unset, .unset, .unset, .unset, .unset, .unset, .unset, .unset, .unset] [])) target := by
  intro target kt
  show Steps p.tables e below (T0.setTop (mkF m 26 #[.val (.long q1), .second, .val (.long q2), .second, .val (.long q3), .second, .val (.long q4), .second, .val (.int p5), .val (.long (own_pA q1 p5)), .second, .val (.long q2), .second, .unset, .unset, .unset, .unset, .unset, .unset, .unset, .unset, .unset] [])) _
  refine XS.iload X0.here hx rfl (hb hby at_26) rfl ?_
  show Steps p.tables e below (T0.setTop (mkF m 28 #[.val (.long q1), .second, .val (.long q2), .second, .val (.long q3), .second, .val (.long q4), .second, .val (.int p5), .val (.long (own_pA q1 p5)), .second, .val (.long q2), .second, .unset, .unset, .unset, .unset, .unset, .unset, .unset, .unset, .unset] [(.int p5)])) _
  refine XS.sipush X0.here hx rfl (hb hby at_28) ?_
  show Steps p.tables e below (T0.setTop (mkF m 31 #[.val (.long q1), .second, .val (.long q2), .second, .val (.long q3), .second, .val (.long q4), .second, .val (.int p5), .val (.long (own_pA q1 p5)), .second, .val (.long q2), .second, .unset, .unset, .unset, .unset, .unset, .unset, .unset, .unset, .unset] [(.int (512 : Int32)), (.int p5)])) _
  refine XS.iand X0.here hx rfl (hb hby at_31) rfl ?_
  show Steps p.tables e below (T0.setTop (mkF m 32 #[.val (.long q1), .second, .val (.long q2), .second, .val (.long q3), .second, .val (.long q4), .second, .val (.int p5), .val (.long (own_pA q1 p5)), .second, .val (.long q2), .second, .unset, .unset, .unset, .unset, .unset, .unset, .unset, .unset, .unset] [(.int (p5 &&& (512 : Int32)))])) _
  refine XS.ifNo X0.here hx rfl (hb hby at_32) rfl ((if0 _ _).trans (feq hc32).1) ?_
  show Steps p.tables e below (T0.setTop (mkF m 35 #[.val (.long q1), .second, .val (.long q2), .second, .val (.long q3), .second, .val (.long q4), .second, .val (.int p5), .val (.long (own_pA q1 p5)), .second, .val (.long q2), .second, .unset, .unset, .unset, .unset, .unset, .unset, .unset, .unset, .unset] [])) _
  refine XS.iload X0.here hx rfl (hb hby at_35) rfl ?_
  show Steps p.tables e below (T0.setTop (mkF m 37 #[.val (.long q1), .second, .val (.long q2), .second, .val (.long q3), .second, .val (.long q4), .second, .val (.int p5), .val (.long (own_pA q1 p5)), .second, .val (.long q2), .second, .unset, .unset, .unset, .unset, .unset, .unset, .unset, .unset, .unset] [(.int p5)])) _
  refine XS.bipush X0.here hx rfl (hb hby at_37) ?_
  show Steps p.tables e below (T0.setTop (mkF m 39 #[.val (.long q1), .second, .val (.long q2), .second, .val (.long q3), .second, .val (.long q4), .second, .val (.int p5), .val (.long (own_pA q1 p5)), .second, .val (.long q2), .second, .unset, .unset, .unset, .unset, .unset, .unset, .unset, .unset, .unset] [(.int (10 : Int32)), (.int p5)])) _
  refine XS.ishr X0.here hx rfl (hb hby at_39) rfl ?_
  show Steps p.tables e below (T0.setTop (mkF m 40 #[.val (.long q1), .second, .val (.long q2), .second, .val (.long q3), .second, .val (.long q4), .second, .val (.int p5), .val (.long (own_pA q1 p5)), .second, .val (.long q2), .second, .unset, .unset, .unset, .unset, .unset, .unset, .unset, .unset, .unset] [(.int (p5 >>> ((10 : Int32) &&& 31)))])) _
  refine XS.iconst X0.here hx rfl (hb hby at_40) ?_
  show Steps p.tables e below (T0.setTop (mkF m 41 #[.val (.long q1), .second, .val (.long q2), .second, .val (.long q3), .second, .val (.long q4), .second, .val (.int p5), .val (.long (own_pA q1 p5)), .second, .val (.long q2), .second, .unset, .unset, .unset, .unset, .unset, .unset, .unset, .unset, .unset] [(.int (3 : Int32)), (.int (p5 >>> ((10 : Int32) &&& 31)))])) _
  refine XS.iand X0.here hx rfl (hb hby at_41) rfl ?_
  show Steps p.tables e below (T0.setTop (mkF m 42 #[.val (.long q1), .second, .val (.long q2), .second, .val (.long q3), .second, .val (.long q4), .second, .val (.int p5), .val (.long (own_pA q1 p5)), .second, .val (.long q2), .second, .unset, .unset, .unset, .unset, .unset, .unset, .unset, .unset, .unset] [(.int ((p5 >>> ((10 : Int32) &&& 31)) &&& (3 : Int32)))])) _
  refine XS.i2l X0.here hx rfl (hb hby at_42) rfl ?_
  show Steps p.tables e below (T0.setTop (mkF m 43 #[.val (.long q1), .second, .val (.long q2), .second, .val (.long q3), .second, .val (.long q4), .second, .val (.int p5), .val (.long (own_pA q1 p5)), .second, .val (.long q2), .second, .unset, .unset, .unset, .unset, .unset, .unset, .unset, .unset, .unset] [(.long (((p5 >>> ((10 : Int32) &&& 31)) &&& (3 : Int32)).toInt64))])) _
  refine XS.lconst X0.here hx rfl (hb hby at_43) ?_
  show Steps p.tables e below (T0.setTop (mkF m 44 #[.val (.long q1), .second, .val (.long q2), .second, .val (.long q3), .second, .val (.long q4), .second, .val (.int p5), .val (.long (own_pA q1 p5)), .second, .val (.long q2), .second, .unset, .unset, .unset, .unset, .unset, .unset, .unset, .unset, .unset] [(.long (1 : Int64)), (.long (((p5 >>> ((10 : Int32) &&& 31)) &&& (3 : Int32)).toInt64))])) _
  refine XS.lsub X0.here hx rfl (hb hby at_44) rfl ?_
  show Steps p.tables e below (T0.setTop (mkF m 45 #[.val (.long q1), .second, .val (.long q2), .second, .val (.long q3), .second, .val (.long q4), .second, .val (.int p5), .val (.long (own_pA q1 p5)), .second, .val (.long q2), .second, .unset, .unset, .unset, .unset, .unset, .unset, .unset, .unset, .unset] [(.long ((((p5 >>> ((10 : Int32) &&& 31)) &&& (3 : Int32)).toInt64) - (1 : Int64)))])) _
  refine XS.lstore X0.here hx rfl (hb hby at_45) rfl (l' := #[.val (.long q1), .second, .val (.long q2), .second, .val (.long q3), .second, .val (.long q4), .second, .val (.int p5), .val (.long (own_pA q1 p5)), .second, .val (.long ((((p5 >>> ((10 : Int32) &&& 31)) &&& (3 : Int32)).toInt64) - (1 : Int64))), .second, .unset, .unset, .unset, .unset, .unset, .unset, .unset, .unset, .unset]) rfl ?_
  exact kt
theorem pcs_B {p : Program} {l : Launch} {e : Env} {R : Room} {s : State} {m : MethodId} {args : Array Value} {below : List Frame} {meth : Method} {c : Code} {T0 : State} {locs : List Loc} {cells slots : Nat} (q1 : Int64) (q2 : Int64) (q3 : Int64) (q4 : Int64) (p5 : Int32) (X0 : Stand p l e R s m args below meth c T0 locs cells slots) (hx : p.tables.exec = Jvm.exec) (hby : c.code = code) (target : State) (kt : Steps p.tables e below (T0.setTop (mkF m 47 #[.val (.long q1), .second, .val (.long q2), .second, .val (.long q3), .second, .val (.long q4), .second, .val (.int p5), .val (.long (own_pA q1 p5)), .second, .val (.long (own_pB q2 p5)), .second, .unset, .unset, .unset, .unset, .unset, .unset, .unset, .unset, .unset] [])) target) : Steps p.tables e below (T0.setTop (mkF m 26 #[.val (.long q1), .second, .val (.long q2), .second, .val (.long q3), .second, .val (.long q4), .second, .val (.int p5), .val (.long (own_pA q1 p5)), .second, .val (.long q2), .second, .unset, .unset, .unset, .unset, .unset, .unset, .unset, .unset, .unset] [])) target := by
  by_cases q : (p5 &&& (512 : Int32)) = (0 : Int32)
  · have w : (own_pB q2 p5) = q2 := if_pos q
    rw [w] at kt
    exact pc_Bt q1 q2 q3 q4 p5 X0 hx hby q target kt
  · have w : (own_pB q2 p5) = ((((p5 >>> ((10 : Int32) &&& 31)) &&& (3 : Int32)).toInt64) - (1 : Int64)) := if_neg q
    rw [w] at kt
    exact pc_Bf q1 q2 q3 q4 p5 X0 hx hby q target kt
set_option maxRecDepth 65536 in
set_option maxHeartbeats 40000000 in
theorem pc_Ct {p : Program} {l : Launch} {e : Env} {R : Room} {s : State} {m : MethodId} {args : Array Value} {below : List Frame} {meth : Method} {c : Code} {T0 : State} {locs : List Loc} {cells slots : Nat} (q1 : Int64) (q2 : Int64) (q3 : Int64) (q4 : Int64) (p5 : Int32)
    (X0 : Stand p l e R s m args below meth c T0 locs cells slots) (hx : p.tables.exec = Jvm.exec) (hby : c.code = code) (hc59 : (p5 &&& (1 : Int32)) = (0 : Int32)) :
      ∀ target, Steps p.tables e below (T0.setTop (mkF m 76 #[.val (.long q1), .second, .val (.long q2), .second, .val (.long q3), .second, .val (.long q4), .second, .val (.int p5), .val (.long (own_pA q1 p5)), .second, .val (.long (own_pB q2 p5)), .second, .val (.long q3), .second, .val (.long q4), .second, .unset, .unset, .unset, .unset, .unset] [])) target → Steps p.tables e below (T0.setTop (mkF m 47 #[.val (.long q1), .second, .val (.long q2), .second, .val (.long q3), .second, .val (.long q4), .second, .val (.int p5), .val (.long (own_pA q1 p5)), .second, .val (.long (own_pB q2 p5)), .second, .unset, .unset, .unset, .unset, .unset, .unset, .unset, .unset, .unset] [])) target := by
  intro target kt
  show Steps p.tables e below (T0.setTop (mkF m 47 #[.val (.long q1), .second, .val (.long q2), .second, .val (.long q3), .second, .val (.long q4), .second, .val (.int p5), .val (.long (own_pA q1 p5)), .second, .val (.long (own_pB q2 p5)), .second, .unset, .unset, .unset, .unset, .unset, .unset, .unset, .unset, .unset] [])) _
  refine XS.lload X0.here hx rfl (hb hby at_47) rfl ?_
  show Steps p.tables e below (T0.setTop (mkF m 49 #[.val (.long q1), .second, .val (.long q2), .second, .val (.long q3), .second, .val (.long q4), .second, .val (.int p5), .val (.long (own_pA q1 p5)), .second, .val (.long (own_pB q2 p5)), .second, .unset, .unset, .unset, .unset, .unset, .unset, .unset, .unset, .unset] [(.long q3)])) _
  refine XS.lstore X0.here hx rfl (hb hby at_49) rfl (l' := #[.val (.long q1), .second, .val (.long q2), .second, .val (.long q3), .second, .val (.long q4), .second, .val (.int p5), .val (.long (own_pA q1 p5)), .second, .val (.long (own_pB q2 p5)), .second, .val (.long q3), .second, .unset, .unset, .unset, .unset, .unset, .unset, .unset]) rfl ?_
  show Steps p.tables e below (T0.setTop (mkF m 51 #[.val (.long q1), .second, .val (.long q2), .second, .val (.long q3), .second, .val (.long q4), .second, .val (.int p5), .val (.long (own_pA q1 p5)), .second, .val (.long (own_pB q2 p5)), .second, .val (.long q3), .second, .unset, .unset, .unset, .unset, .unset, .unset, .unset] [])) _
  refine XS.lload X0.here hx rfl (hb hby at_51) rfl ?_
  show Steps p.tables e below (T0.setTop (mkF m 53 #[.val (.long q1), .second, .val (.long q2), .second, .val (.long q3), .second, .val (.long q4), .second, .val (.int p5), .val (.long (own_pA q1 p5)), .second, .val (.long (own_pB q2 p5)), .second, .val (.long q3), .second, .unset, .unset, .unset, .unset, .unset, .unset, .unset] [(.long q4)])) _
  refine XS.lstore X0.here hx rfl (hb hby at_53) rfl (l' := #[.val (.long q1), .second, .val (.long q2), .second, .val (.long q3), .second, .val (.long q4), .second, .val (.int p5), .val (.long (own_pA q1 p5)), .second, .val (.long (own_pB q2 p5)), .second, .val (.long q3), .second, .val (.long q4), .second, .unset, .unset, .unset, .unset, .unset]) rfl ?_
  show Steps p.tables e below (T0.setTop (mkF m 55 #[.val (.long q1), .second, .val (.long q2), .second, .val (.long q3), .second, .val (.long q4), .second, .val (.int p5), .val (.long (own_pA q1 p5)), .second, .val (.long (own_pB q2 p5)), .second, .val (.long q3), .second, .val (.long q4), .second, .unset, .unset, .unset, .unset, .unset] [])) _
  refine XS.iload X0.here hx rfl (hb hby at_55) rfl ?_
  show Steps p.tables e below (T0.setTop (mkF m 57 #[.val (.long q1), .second, .val (.long q2), .second, .val (.long q3), .second, .val (.long q4), .second, .val (.int p5), .val (.long (own_pA q1 p5)), .second, .val (.long (own_pB q2 p5)), .second, .val (.long q3), .second, .val (.long q4), .second, .unset, .unset, .unset, .unset, .unset] [(.int p5)])) _
  refine XS.iconst X0.here hx rfl (hb hby at_57) ?_
  show Steps p.tables e below (T0.setTop (mkF m 58 #[.val (.long q1), .second, .val (.long q2), .second, .val (.long q3), .second, .val (.long q4), .second, .val (.int p5), .val (.long (own_pA q1 p5)), .second, .val (.long (own_pB q2 p5)), .second, .val (.long q3), .second, .val (.long q4), .second, .unset, .unset, .unset, .unset, .unset] [(.int (1 : Int32)), (.int p5)])) _
  refine XS.iand X0.here hx rfl (hb hby at_58) rfl ?_
  show Steps p.tables e below (T0.setTop (mkF m 59 #[.val (.long q1), .second, .val (.long q2), .second, .val (.long q3), .second, .val (.long q4), .second, .val (.int p5), .val (.long (own_pA q1 p5)), .second, .val (.long (own_pB q2 p5)), .second, .val (.long q3), .second, .val (.long q4), .second, .unset, .unset, .unset, .unset, .unset] [(.int (p5 &&& (1 : Int32)))])) _
  refine XS.ifYes X0.here hx rfl (pc0 := 59) (pc' := 76) rfl (hb hby at_59) rfl ((if0 _ _).trans (teq hc59).1) (by decide) (by decide) ?_
  exact kt
set_option maxRecDepth 65536 in
set_option maxHeartbeats 40000000 in
theorem pc_Cf {p : Program} {l : Launch} {e : Env} {R : Room} {s : State} {m : MethodId} {args : Array Value} {below : List Frame} {meth : Method} {c : Code} {T0 : State} {locs : List Loc} {cells slots : Nat} (q1 : Int64) (q2 : Int64) (q3 : Int64) (q4 : Int64) (p5 : Int32)
    (X0 : Stand p l e R s m args below meth c T0 locs cells slots) (hx : p.tables.exec = Jvm.exec) (hby : c.code = code) (hc59 : ¬ ((p5 &&& (1 : Int32)) = (0 : Int32))) :
      ∀ target, Steps p.tables e below (T0.setTop (mkF m 76 #[.val (.long q1), .second, .val (.long q2), .second, .val (.long q3), .second, .val (.long q4), .second, .val (.int p5), .val (.long (own_pA q1 p5)), .second, .val (.long (own_pB q2 p5)), .second, .val (.long (((own_pA q1 p5) + (((p5 >>> ((1 : Int32) &&& 31)) &&& (3 : Int32)).toInt64)) - (1 : Int64))), .second, .val (.long q4), .second, .unset, .unset, .unset, .unset, .unset] [])) target → Steps p.tables e below (T0.setTop (mkF m 47 #[.val (.long q1), .second, .val (.long q2), .second, .val (.long q3), .second, .val (.long q4), .second, .val (.int p5), .val (.long (own_pA q1 p5)), .second, .val (.long (own_pB q2 p5)), .second, .unset, .unset, .unset, .unset, .unset, .unset, .unset, .unset, .unset] [])) target := by
  intro target kt
  show Steps p.tables e below (T0.setTop (mkF m 47 #[.val (.long q1), .second, .val (.long q2), .second, .val (.long q3), .second, .val (.long q4), .second, .val (.int p5), .val (.long (own_pA q1 p5)), .second, .val (.long (own_pB q2 p5)), .second, .unset, .unset, .unset, .unset, .unset, .unset, .unset, .unset, .unset] [])) _
  refine XS.lload X0.here hx rfl (hb hby at_47) rfl ?_
  show Steps p.tables e below (T0.setTop (mkF m 49 #[.val (.long q1), .second, .val (.long q2), .second, .val (.long q3), .second, .val (.long q4), .second, .val (.int p5), .val (.long (own_pA q1 p5)), .second, .val (.long (own_pB q2 p5)), .second, .unset, .unset, .unset, .unset, .unset, .unset, .unset, .unset, .unset] [(.long q3)])) _
  refine XS.lstore X0.here hx rfl (hb hby at_49) rfl (l' := #[.val (.long q1), .second, .val (.long q2), .second, .val (.long q3), .second, .val (.long q4), .second, .val (.int p5), .val (.long (own_pA q1 p5)), .second, .val (.long (own_pB q2 p5)), .second, .val (.long q3), .second, .unset, .unset, .unset, .unset, .unset, .unset, .unset]) rfl ?_
  show Steps p.tables e below (T0.setTop (mkF m 51 #[.val (.long q1), .second, .val (.long q2), .second, .val (.long q3), .second, .val (.long q4), .second, .val (.int p5), .val (.long (own_pA q1 p5)), .second, .val (.long (own_pB q2 p5)), .second, .val (.long q3), .second, .unset, .unset, .unset, .unset, .unset, .unset, .unset] [])) _
  refine XS.lload X0.here hx rfl (hb hby at_51) rfl ?_
  show Steps p.tables e below (T0.setTop (mkF m 53 #[.val (.long q1), .second, .val (.long q2), .second, .val (.long q3), .second, .val (.long q4), .second, .val (.int p5), .val (.long (own_pA q1 p5)), .second, .val (.long (own_pB q2 p5)), .second, .val (.long q3), .second, .unset, .unset, .unset, .unset, .unset, .unset, .unset] [(.long q4)])) _
  refine XS.lstore X0.here hx rfl (hb hby at_53) rfl (l' := #[.val (.long q1), .second, .val (.long q2), .second, .val (.long q3), .second, .val (.long q4), .second, .val (.int p5), .val (.long (own_pA q1 p5)), .second, .val (.long (own_pB q2 p5)), .second, .val (.long q3), .second, .val (.long q4), .second, .unset, .unset, .unset, .unset, .unset]) rfl ?_
  show Steps p.tables e below (T0.setTop (mkF m 55 #[.val (.long q1), .second, .val (.long q2), .second, .val (.long q3), .second, .val (.long q4), .second, .val (.int p5), .val (.long (own_pA q1 p5)), .second, .val (.long (own_pB q2 p5)), .second, .val (.long q3), .second, .val (.long q4), .second, .unset, .unset, .unset, .unset, .unset] [])) _
  refine XS.iload X0.here hx rfl (hb hby at_55) rfl ?_
  show Steps p.tables e below (T0.setTop (mkF m 57 #[.val (.long q1), .second, .val (.long q2), .second, .val (.long q3), .second, .val (.long q4), .second, .val (.int p5), .val (.long (own_pA q1 p5)), .second, .val (.long (own_pB q2 p5)), .second, .val (.long q3), .second, .val (.long q4), .second, .unset, .unset, .unset, .unset, .unset] [(.int p5)])) _
  refine XS.iconst X0.here hx rfl (hb hby at_57) ?_
  show Steps p.tables e below (T0.setTop (mkF m 58 #[.val (.long q1), .second, .val (.long q2), .second, .val (.long q3), .second, .val (.long q4), .second, .val (.int p5), .val (.long (own_pA q1 p5)), .second, .val (.long (own_pB q2 p5)), .second, .val (.long q3), .second, .val (.long q4), .second, .unset, .unset, .unset, .unset, .unset] [(.int (1 : Int32)), (.int p5)])) _
  refine XS.iand X0.here hx rfl (hb hby at_58) rfl ?_
  show Steps p.tables e below (T0.setTop (mkF m 59 #[.val (.long q1), .second, .val (.long q2), .second, .val (.long q3), .second, .val (.long q4), .second, .val (.int p5), .val (.long (own_pA q1 p5)), .second, .val (.long (own_pB q2 p5)), .second, .val (.long q3), .second, .val (.long q4), .second, .unset, .unset, .unset, .unset, .unset] [(.int (p5 &&& (1 : Int32)))])) _
  refine XS.ifNo X0.here hx rfl (hb hby at_59) rfl ((if0 _ _).trans (feq hc59).1) ?_
  show Steps p.tables e below (T0.setTop (mkF m 62 #[.val (.long q1), .second, .val (.long q2), .second, .val (.long q3), .second, .val (.long q4), .second, .val (.int p5), .val (.long (own_pA q1 p5)), .second, .val (.long (own_pB q2 p5)), .second, .val (.long q3), .second, .val (.long q4), .second, .unset, .unset, .unset, .unset, .unset] [])) _
  refine XS.lload X0.here hx rfl (hb hby at_62) rfl ?_
  show Steps p.tables e below (T0.setTop (mkF m 64 #[.val (.long q1), .second, .val (.long q2), .second, .val (.long q3), .second, .val (.long q4), .second, .val (.int p5), .val (.long (own_pA q1 p5)), .second, .val (.long (own_pB q2 p5)), .second, .val (.long q3), .second, .val (.long q4), .second, .unset, .unset, .unset, .unset, .unset] [(.long (own_pA q1 p5))])) _
  refine XS.iload X0.here hx rfl (hb hby at_64) rfl ?_
  show Steps p.tables e below (T0.setTop (mkF m 66 #[.val (.long q1), .second, .val (.long q2), .second, .val (.long q3), .second, .val (.long q4), .second, .val (.int p5), .val (.long (own_pA q1 p5)), .second, .val (.long (own_pB q2 p5)), .second, .val (.long q3), .second, .val (.long q4), .second, .unset, .unset, .unset, .unset, .unset] [(.int p5), (.long (own_pA q1 p5))])) _
  refine XS.iconst X0.here hx rfl (hb hby at_66) ?_
  show Steps p.tables e below (T0.setTop (mkF m 67 #[.val (.long q1), .second, .val (.long q2), .second, .val (.long q3), .second, .val (.long q4), .second, .val (.int p5), .val (.long (own_pA q1 p5)), .second, .val (.long (own_pB q2 p5)), .second, .val (.long q3), .second, .val (.long q4), .second, .unset, .unset, .unset, .unset, .unset] [(.int (1 : Int32)), (.int p5), (.long (own_pA q1 p5))])) _
  refine XS.ishr X0.here hx rfl (hb hby at_67) rfl ?_
  show Steps p.tables e below (T0.setTop (mkF m 68 #[.val (.long q1), .second, .val (.long q2), .second, .val (.long q3), .second, .val (.long q4), .second, .val (.int p5), .val (.long (own_pA q1 p5)), .second, .val (.long (own_pB q2 p5)), .second, .val (.long q3), .second, .val (.long q4), .second, .unset, .unset, .unset, .unset, .unset] [(.int (p5 >>> ((1 : Int32) &&& 31))), (.long (own_pA q1 p5))])) _
  refine XS.iconst X0.here hx rfl (hb hby at_68) ?_
  show Steps p.tables e below (T0.setTop (mkF m 69 #[.val (.long q1), .second, .val (.long q2), .second, .val (.long q3), .second, .val (.long q4), .second, .val (.int p5), .val (.long (own_pA q1 p5)), .second, .val (.long (own_pB q2 p5)), .second, .val (.long q3), .second, .val (.long q4), .second, .unset, .unset, .unset, .unset, .unset] [(.int (3 : Int32)), (.int (p5 >>> ((1 : Int32) &&& 31))), (.long (own_pA q1 p5))])) _
  refine XS.iand X0.here hx rfl (hb hby at_69) rfl ?_
  show Steps p.tables e below (T0.setTop (mkF m 70 #[.val (.long q1), .second, .val (.long q2), .second, .val (.long q3), .second, .val (.long q4), .second, .val (.int p5), .val (.long (own_pA q1 p5)), .second, .val (.long (own_pB q2 p5)), .second, .val (.long q3), .second, .val (.long q4), .second, .unset, .unset, .unset, .unset, .unset] [(.int ((p5 >>> ((1 : Int32) &&& 31)) &&& (3 : Int32))), (.long (own_pA q1 p5))])) _
  refine XS.i2l X0.here hx rfl (hb hby at_70) rfl ?_
  show Steps p.tables e below (T0.setTop (mkF m 71 #[.val (.long q1), .second, .val (.long q2), .second, .val (.long q3), .second, .val (.long q4), .second, .val (.int p5), .val (.long (own_pA q1 p5)), .second, .val (.long (own_pB q2 p5)), .second, .val (.long q3), .second, .val (.long q4), .second, .unset, .unset, .unset, .unset, .unset] [(.long (((p5 >>> ((1 : Int32) &&& 31)) &&& (3 : Int32)).toInt64)), (.long (own_pA q1 p5))])) _
  refine XS.ladd X0.here hx rfl (hb hby at_71) rfl ?_
  show Steps p.tables e below (T0.setTop (mkF m 72 #[.val (.long q1), .second, .val (.long q2), .second, .val (.long q3), .second, .val (.long q4), .second, .val (.int p5), .val (.long (own_pA q1 p5)), .second, .val (.long (own_pB q2 p5)), .second, .val (.long q3), .second, .val (.long q4), .second, .unset, .unset, .unset, .unset, .unset] [(.long ((own_pA q1 p5) + (((p5 >>> ((1 : Int32) &&& 31)) &&& (3 : Int32)).toInt64)))])) _
  refine XS.lconst X0.here hx rfl (hb hby at_72) ?_
  show Steps p.tables e below (T0.setTop (mkF m 73 #[.val (.long q1), .second, .val (.long q2), .second, .val (.long q3), .second, .val (.long q4), .second, .val (.int p5), .val (.long (own_pA q1 p5)), .second, .val (.long (own_pB q2 p5)), .second, .val (.long q3), .second, .val (.long q4), .second, .unset, .unset, .unset, .unset, .unset] [(.long (1 : Int64)), (.long ((own_pA q1 p5) + (((p5 >>> ((1 : Int32) &&& 31)) &&& (3 : Int32)).toInt64)))])) _
  refine XS.lsub X0.here hx rfl (hb hby at_73) rfl ?_
  show Steps p.tables e below (T0.setTop (mkF m 74 #[.val (.long q1), .second, .val (.long q2), .second, .val (.long q3), .second, .val (.long q4), .second, .val (.int p5), .val (.long (own_pA q1 p5)), .second, .val (.long (own_pB q2 p5)), .second, .val (.long q3), .second, .val (.long q4), .second, .unset, .unset, .unset, .unset, .unset] [(.long (((own_pA q1 p5) + (((p5 >>> ((1 : Int32) &&& 31)) &&& (3 : Int32)).toInt64)) - (1 : Int64)))])) _
  refine XS.lstore X0.here hx rfl (hb hby at_74) rfl (l' := #[.val (.long q1), .second, .val (.long q2), .second, .val (.long q3), .second, .val (.long q4), .second, .val (.int p5), .val (.long (own_pA q1 p5)), .second, .val (.long (own_pB q2 p5)), .second, .val (.long (((own_pA q1 p5) + (((p5 >>> ((1 : Int32) &&& 31)) &&& (3 : Int32)).toInt64)) - (1 : Int64))), .second, .val (.long q4), .second, .unset, .unset, .unset, .unset, .unset]) rfl ?_
  exact kt
theorem pcs_C {p : Program} {l : Launch} {e : Env} {R : Room} {s : State} {m : MethodId} {args : Array Value} {below : List Frame} {meth : Method} {c : Code} {T0 : State} {locs : List Loc} {cells slots : Nat} (q1 : Int64) (q2 : Int64) (q3 : Int64) (q4 : Int64) (p5 : Int32) (X0 : Stand p l e R s m args below meth c T0 locs cells slots) (hx : p.tables.exec = Jvm.exec) (hby : c.code = code) (target : State) (kt : Steps p.tables e below (T0.setTop (mkF m 76 #[.val (.long q1), .second, .val (.long q2), .second, .val (.long q3), .second, .val (.long q4), .second, .val (.int p5), .val (.long (own_pA q1 p5)), .second, .val (.long (own_pB q2 p5)), .second, .val (.long (own_pC q1 q3 p5)), .second, .val (.long q4), .second, .unset, .unset, .unset, .unset, .unset] [])) target) : Steps p.tables e below (T0.setTop (mkF m 47 #[.val (.long q1), .second, .val (.long q2), .second, .val (.long q3), .second, .val (.long q4), .second, .val (.int p5), .val (.long (own_pA q1 p5)), .second, .val (.long (own_pB q2 p5)), .second, .unset, .unset, .unset, .unset, .unset, .unset, .unset, .unset, .unset] [])) target := by
  by_cases q : (p5 &&& (1 : Int32)) = (0 : Int32)
  · have w : (own_pC q1 q3 p5) = q3 := if_pos q
    rw [w] at kt
    exact pc_Ct q1 q2 q3 q4 p5 X0 hx hby q target kt
  · have w : (own_pC q1 q3 p5) = (((own_pA q1 p5) + (((p5 >>> ((1 : Int32) &&& 31)) &&& (3 : Int32)).toInt64)) - (1 : Int64)) := if_neg q
    rw [w] at kt
    exact pc_Cf q1 q2 q3 q4 p5 X0 hx hby q target kt
set_option maxRecDepth 65536 in
set_option maxHeartbeats 40000000 in
theorem pc_Dt {p : Program} {l : Launch} {e : Env} {R : Room} {s : State} {m : MethodId} {args : Array Value} {below : List Frame} {meth : Method} {c : Code} {T0 : State} {locs : List Loc} {cells slots : Nat} (q1 : Int64) (q2 : Int64) (q3 : Int64) (q4 : Int64) (p5 : Int32)
    (X0 : Stand p l e R s m args below meth c T0 locs cells slots) (hx : p.tables.exec = Jvm.exec) (hby : c.code = code) (hc81 : (p5 &&& (8 : Int32)) = (0 : Int32)) :
      ∀ target, Steps p.tables e below (T0.setTop (mkF m 98 #[.val (.long q1), .second, .val (.long q2), .second, .val (.long q3), .second, .val (.long q4), .second, .val (.int p5), .val (.long (own_pA q1 p5)), .second, .val (.long (own_pB q2 p5)), .second, .val (.long (own_pC q1 q3 p5)), .second, .val (.long q4), .second, .unset, .unset, .unset, .unset, .unset] [])) target → Steps p.tables e below (T0.setTop (mkF m 76 #[.val (.long q1), .second, .val (.long q2), .second, .val (.long q3), .second, .val (.long q4), .second, .val (.int p5), .val (.long (own_pA q1 p5)), .second, .val (.long (own_pB q2 p5)), .second, .val (.long (own_pC q1 q3 p5)), .second, .val (.long q4), .second, .unset, .unset, .unset, .unset, .unset] [])) target := by
  intro target kt
  show Steps p.tables e below (T0.setTop (mkF m 76 #[.val (.long q1), .second, .val (.long q2), .second, .val (.long q3), .second, .val (.long q4), .second, .val (.int p5), .val (.long (own_pA q1 p5)), .second, .val (.long (own_pB q2 p5)), .second, .val (.long (own_pC q1 q3 p5)), .second, .val (.long q4), .second, .unset, .unset, .unset, .unset, .unset] [])) _
  refine XS.iload X0.here hx rfl (hb hby at_76) rfl ?_
  show Steps p.tables e below (T0.setTop (mkF m 78 #[.val (.long q1), .second, .val (.long q2), .second, .val (.long q3), .second, .val (.long q4), .second, .val (.int p5), .val (.long (own_pA q1 p5)), .second, .val (.long (own_pB q2 p5)), .second, .val (.long (own_pC q1 q3 p5)), .second, .val (.long q4), .second, .unset, .unset, .unset, .unset, .unset] [(.int p5)])) _
  refine XS.bipush X0.here hx rfl (hb hby at_78) ?_
  show Steps p.tables e below (T0.setTop (mkF m 80 #[.val (.long q1), .second, .val (.long q2), .second, .val (.long q3), .second, .val (.long q4), .second, .val (.int p5), .val (.long (own_pA q1 p5)), .second, .val (.long (own_pB q2 p5)), .second, .val (.long (own_pC q1 q3 p5)), .second, .val (.long q4), .second, .unset, .unset, .unset, .unset, .unset] [(.int (8 : Int32)), (.int p5)])) _
  refine XS.iand X0.here hx rfl (hb hby at_80) rfl ?_
  show Steps p.tables e below (T0.setTop (mkF m 81 #[.val (.long q1), .second, .val (.long q2), .second, .val (.long q3), .second, .val (.long q4), .second, .val (.int p5), .val (.long (own_pA q1 p5)), .second, .val (.long (own_pB q2 p5)), .second, .val (.long (own_pC q1 q3 p5)), .second, .val (.long q4), .second, .unset, .unset, .unset, .unset, .unset] [(.int (p5 &&& (8 : Int32)))])) _
  refine XS.ifYes X0.here hx rfl (pc0 := 81) (pc' := 98) rfl (hb hby at_81) rfl ((if0 _ _).trans (teq hc81).1) (by decide) (by decide) ?_
  exact kt
set_option maxRecDepth 65536 in
set_option maxHeartbeats 40000000 in
theorem pc_Df {p : Program} {l : Launch} {e : Env} {R : Room} {s : State} {m : MethodId} {args : Array Value} {below : List Frame} {meth : Method} {c : Code} {T0 : State} {locs : List Loc} {cells slots : Nat} (q1 : Int64) (q2 : Int64) (q3 : Int64) (q4 : Int64) (p5 : Int32)
    (X0 : Stand p l e R s m args below meth c T0 locs cells slots) (hx : p.tables.exec = Jvm.exec) (hby : c.code = code) (hc81 : ¬ ((p5 &&& (8 : Int32)) = (0 : Int32))) :
      ∀ target, Steps p.tables e below (T0.setTop (mkF m 98 #[.val (.long q1), .second, .val (.long q2), .second, .val (.long q3), .second, .val (.long q4), .second, .val (.int p5), .val (.long (own_pA q1 p5)), .second, .val (.long (own_pB q2 p5)), .second, .val (.long (own_pC q1 q3 p5)), .second, .val (.long (((own_pB q2 p5) + (((p5 >>> ((4 : Int32) &&& 31)) &&& (3 : Int32)).toInt64)) - (1 : Int64))), .second, .unset, .unset, .unset, .unset, .unset] [])) target → Steps p.tables e below (T0.setTop (mkF m 76 #[.val (.long q1), .second, .val (.long q2), .second, .val (.long q3), .second, .val (.long q4), .second, .val (.int p5), .val (.long (own_pA q1 p5)), .second, .val (.long (own_pB q2 p5)), .second, .val (.long (own_pC q1 q3 p5)), .second, .val (.long q4), .second, .unset, .unset, .unset, .unset, .unset] [])) target := by
  intro target kt
  show Steps p.tables e below (T0.setTop (mkF m 76 #[.val (.long q1), .second, .val (.long q2), .second, .val (.long q3), .second, .val (.long q4), .second, .val (.int p5), .val (.long (own_pA q1 p5)), .second, .val (.long (own_pB q2 p5)), .second, .val (.long (own_pC q1 q3 p5)), .second, .val (.long q4), .second, .unset, .unset, .unset, .unset, .unset] [])) _
  refine XS.iload X0.here hx rfl (hb hby at_76) rfl ?_
  show Steps p.tables e below (T0.setTop (mkF m 78 #[.val (.long q1), .second, .val (.long q2), .second, .val (.long q3), .second, .val (.long q4), .second, .val (.int p5), .val (.long (own_pA q1 p5)), .second, .val (.long (own_pB q2 p5)), .second, .val (.long (own_pC q1 q3 p5)), .second, .val (.long q4), .second, .unset, .unset, .unset, .unset, .unset] [(.int p5)])) _
  refine XS.bipush X0.here hx rfl (hb hby at_78) ?_
  show Steps p.tables e below (T0.setTop (mkF m 80 #[.val (.long q1), .second, .val (.long q2), .second, .val (.long q3), .second, .val (.long q4), .second, .val (.int p5), .val (.long (own_pA q1 p5)), .second, .val (.long (own_pB q2 p5)), .second, .val (.long (own_pC q1 q3 p5)), .second, .val (.long q4), .second, .unset, .unset, .unset, .unset, .unset] [(.int (8 : Int32)), (.int p5)])) _
  refine XS.iand X0.here hx rfl (hb hby at_80) rfl ?_
  show Steps p.tables e below (T0.setTop (mkF m 81 #[.val (.long q1), .second, .val (.long q2), .second, .val (.long q3), .second, .val (.long q4), .second, .val (.int p5), .val (.long (own_pA q1 p5)), .second, .val (.long (own_pB q2 p5)), .second, .val (.long (own_pC q1 q3 p5)), .second, .val (.long q4), .second, .unset, .unset, .unset, .unset, .unset] [(.int (p5 &&& (8 : Int32)))])) _
  refine XS.ifNo X0.here hx rfl (hb hby at_81) rfl ((if0 _ _).trans (feq hc81).1) ?_
  show Steps p.tables e below (T0.setTop (mkF m 84 #[.val (.long q1), .second, .val (.long q2), .second, .val (.long q3), .second, .val (.long q4), .second, .val (.int p5), .val (.long (own_pA q1 p5)), .second, .val (.long (own_pB q2 p5)), .second, .val (.long (own_pC q1 q3 p5)), .second, .val (.long q4), .second, .unset, .unset, .unset, .unset, .unset] [])) _
  refine XS.lload X0.here hx rfl (hb hby at_84) rfl ?_
  show Steps p.tables e below (T0.setTop (mkF m 86 #[.val (.long q1), .second, .val (.long q2), .second, .val (.long q3), .second, .val (.long q4), .second, .val (.int p5), .val (.long (own_pA q1 p5)), .second, .val (.long (own_pB q2 p5)), .second, .val (.long (own_pC q1 q3 p5)), .second, .val (.long q4), .second, .unset, .unset, .unset, .unset, .unset] [(.long (own_pB q2 p5))])) _
  refine XS.iload X0.here hx rfl (hb hby at_86) rfl ?_
  show Steps p.tables e below (T0.setTop (mkF m 88 #[.val (.long q1), .second, .val (.long q2), .second, .val (.long q3), .second, .val (.long q4), .second, .val (.int p5), .val (.long (own_pA q1 p5)), .second, .val (.long (own_pB q2 p5)), .second, .val (.long (own_pC q1 q3 p5)), .second, .val (.long q4), .second, .unset, .unset, .unset, .unset, .unset] [(.int p5), (.long (own_pB q2 p5))])) _
  refine XS.iconst X0.here hx rfl (hb hby at_88) ?_
  show Steps p.tables e below (T0.setTop (mkF m 89 #[.val (.long q1), .second, .val (.long q2), .second, .val (.long q3), .second, .val (.long q4), .second, .val (.int p5), .val (.long (own_pA q1 p5)), .second, .val (.long (own_pB q2 p5)), .second, .val (.long (own_pC q1 q3 p5)), .second, .val (.long q4), .second, .unset, .unset, .unset, .unset, .unset] [(.int (4 : Int32)), (.int p5), (.long (own_pB q2 p5))])) _
  refine XS.ishr X0.here hx rfl (hb hby at_89) rfl ?_
  show Steps p.tables e below (T0.setTop (mkF m 90 #[.val (.long q1), .second, .val (.long q2), .second, .val (.long q3), .second, .val (.long q4), .second, .val (.int p5), .val (.long (own_pA q1 p5)), .second, .val (.long (own_pB q2 p5)), .second, .val (.long (own_pC q1 q3 p5)), .second, .val (.long q4), .second, .unset, .unset, .unset, .unset, .unset] [(.int (p5 >>> ((4 : Int32) &&& 31))), (.long (own_pB q2 p5))])) _
  refine XS.iconst X0.here hx rfl (hb hby at_90) ?_
  show Steps p.tables e below (T0.setTop (mkF m 91 #[.val (.long q1), .second, .val (.long q2), .second, .val (.long q3), .second, .val (.long q4), .second, .val (.int p5), .val (.long (own_pA q1 p5)), .second, .val (.long (own_pB q2 p5)), .second, .val (.long (own_pC q1 q3 p5)), .second, .val (.long q4), .second, .unset, .unset, .unset, .unset, .unset] [(.int (3 : Int32)), (.int (p5 >>> ((4 : Int32) &&& 31))), (.long (own_pB q2 p5))])) _
  refine XS.iand X0.here hx rfl (hb hby at_91) rfl ?_
  show Steps p.tables e below (T0.setTop (mkF m 92 #[.val (.long q1), .second, .val (.long q2), .second, .val (.long q3), .second, .val (.long q4), .second, .val (.int p5), .val (.long (own_pA q1 p5)), .second, .val (.long (own_pB q2 p5)), .second, .val (.long (own_pC q1 q3 p5)), .second, .val (.long q4), .second, .unset, .unset, .unset, .unset, .unset] [(.int ((p5 >>> ((4 : Int32) &&& 31)) &&& (3 : Int32))), (.long (own_pB q2 p5))])) _
  refine XS.i2l X0.here hx rfl (hb hby at_92) rfl ?_
  show Steps p.tables e below (T0.setTop (mkF m 93 #[.val (.long q1), .second, .val (.long q2), .second, .val (.long q3), .second, .val (.long q4), .second, .val (.int p5), .val (.long (own_pA q1 p5)), .second, .val (.long (own_pB q2 p5)), .second, .val (.long (own_pC q1 q3 p5)), .second, .val (.long q4), .second, .unset, .unset, .unset, .unset, .unset] [(.long (((p5 >>> ((4 : Int32) &&& 31)) &&& (3 : Int32)).toInt64)), (.long (own_pB q2 p5))])) _
  refine XS.ladd X0.here hx rfl (hb hby at_93) rfl ?_
  show Steps p.tables e below (T0.setTop (mkF m 94 #[.val (.long q1), .second, .val (.long q2), .second, .val (.long q3), .second, .val (.long q4), .second, .val (.int p5), .val (.long (own_pA q1 p5)), .second, .val (.long (own_pB q2 p5)), .second, .val (.long (own_pC q1 q3 p5)), .second, .val (.long q4), .second, .unset, .unset, .unset, .unset, .unset] [(.long ((own_pB q2 p5) + (((p5 >>> ((4 : Int32) &&& 31)) &&& (3 : Int32)).toInt64)))])) _
  refine XS.lconst X0.here hx rfl (hb hby at_94) ?_
  show Steps p.tables e below (T0.setTop (mkF m 95 #[.val (.long q1), .second, .val (.long q2), .second, .val (.long q3), .second, .val (.long q4), .second, .val (.int p5), .val (.long (own_pA q1 p5)), .second, .val (.long (own_pB q2 p5)), .second, .val (.long (own_pC q1 q3 p5)), .second, .val (.long q4), .second, .unset, .unset, .unset, .unset, .unset] [(.long (1 : Int64)), (.long ((own_pB q2 p5) + (((p5 >>> ((4 : Int32) &&& 31)) &&& (3 : Int32)).toInt64)))])) _
  refine XS.lsub X0.here hx rfl (hb hby at_95) rfl ?_
  show Steps p.tables e below (T0.setTop (mkF m 96 #[.val (.long q1), .second, .val (.long q2), .second, .val (.long q3), .second, .val (.long q4), .second, .val (.int p5), .val (.long (own_pA q1 p5)), .second, .val (.long (own_pB q2 p5)), .second, .val (.long (own_pC q1 q3 p5)), .second, .val (.long q4), .second, .unset, .unset, .unset, .unset, .unset] [(.long (((own_pB q2 p5) + (((p5 >>> ((4 : Int32) &&& 31)) &&& (3 : Int32)).toInt64)) - (1 : Int64)))])) _
  refine XS.lstore X0.here hx rfl (hb hby at_96) rfl (l' := #[.val (.long q1), .second, .val (.long q2), .second, .val (.long q3), .second, .val (.long q4), .second, .val (.int p5), .val (.long (own_pA q1 p5)), .second, .val (.long (own_pB q2 p5)), .second, .val (.long (own_pC q1 q3 p5)), .second, .val (.long (((own_pB q2 p5) + (((p5 >>> ((4 : Int32) &&& 31)) &&& (3 : Int32)).toInt64)) - (1 : Int64))), .second, .unset, .unset, .unset, .unset, .unset]) rfl ?_
  exact kt
theorem pcs_D {p : Program} {l : Launch} {e : Env} {R : Room} {s : State} {m : MethodId} {args : Array Value} {below : List Frame} {meth : Method} {c : Code} {T0 : State} {locs : List Loc} {cells slots : Nat} (q1 : Int64) (q2 : Int64) (q3 : Int64) (q4 : Int64) (p5 : Int32) (X0 : Stand p l e R s m args below meth c T0 locs cells slots) (hx : p.tables.exec = Jvm.exec) (hby : c.code = code) (target : State) (kt : Steps p.tables e below (T0.setTop (mkF m 98 #[.val (.long q1), .second, .val (.long q2), .second, .val (.long q3), .second, .val (.long q4), .second, .val (.int p5), .val (.long (own_pA q1 p5)), .second, .val (.long (own_pB q2 p5)), .second, .val (.long (own_pC q1 q3 p5)), .second, .val (.long (own_pD q2 q4 p5)), .second, .unset, .unset, .unset, .unset, .unset] [])) target) : Steps p.tables e below (T0.setTop (mkF m 76 #[.val (.long q1), .second, .val (.long q2), .second, .val (.long q3), .second, .val (.long q4), .second, .val (.int p5), .val (.long (own_pA q1 p5)), .second, .val (.long (own_pB q2 p5)), .second, .val (.long (own_pC q1 q3 p5)), .second, .val (.long q4), .second, .unset, .unset, .unset, .unset, .unset] [])) target := by
  by_cases q : (p5 &&& (8 : Int32)) = (0 : Int32)
  · have w : (own_pD q2 q4 p5) = q4 := if_pos q
    rw [w] at kt
    exact pc_Dt q1 q2 q3 q4 p5 X0 hx hby q target kt
  · have w : (own_pD q2 q4 p5) = (((own_pB q2 p5) + (((p5 >>> ((4 : Int32) &&& 31)) &&& (3 : Int32)).toInt64)) - (1 : Int64)) := if_neg q
    rw [w] at kt
    exact pc_Df q1 q2 q3 q4 p5 X0 hx hby q target kt
theorem ef_0 (m : MethodId) (x0 : Int64) (x1 : Int64) (x2 : Int64) (x3 : Int64) (x4 : Int32) : entryFrame m #[(.long x0), (.long x1), (.long x2), (.long x3), (.int x4)] maxLocals = mkF m 0 #[.val (.long x0), .second, .val (.long x1), .second, .val (.long x2), .second, .val (.long x3), .second, .val (.int x4), .unset, .unset, .unset, .unset, .unset, .unset, .unset, .unset, .unset, .unset, .unset, .unset, .unset] [] := by first | (simp [entryFrame, mkF, argsToLocals, Value.category, maxLocals]; done) | rfl
theorem pn_0 : plainName "com/example/slotwise/slotwise/engine/ResourcesCanRunOnPinLaw" = true := by first | (simp [plainName, overriddenIn]; done) | decide +kernel
theorem pd_0_0 : parseMethodDescriptor "([J)V" = some ⟨[(.array .long)], none⟩ := by decide +kernel
theorem pd_0_2 : parseMethodDescriptor "(Lcom/example/slotwise/slotwise/engine/Resources;)Z" = some ⟨[(.object "com/example/slotwise/slotwise/engine/Resources")], some .boolean⟩ := by decide +kernel
def Q0 (Z : State) (q1 : Int64) (q2 : Int64) (q3 : Int64) (q4 : Int64) (p5 : Int32) (h0 : Heap) (n0 : Nat) (v : Option Value) (h : Heap) (L : List Loc) : Prop := v = some (.int (1 : Int32)) ∧ Fr n0 L
set_option maxRecDepth 65536 in
set_option maxHeartbeats 40000000 in
theorem rm0_0 (l : Launch) (Z : State) (a0 : Array Value) (hw : ∀ d ∈ tables_1, d.before a0 Z = true) (ws : List Jvm.Cond) (q1 : Int64) (q2 : Int64) (q3 : Int64) (q4 : Int64) (p5 : Int32) (h0 : Heap) (n0 : Nat) (Z0 : n0 ≤ h0.size) (O0 : Old Z n0 h0) (S_P : Sta Z Z.heap "com/example/slotwise/slotwise/engine/Resources" "PROCESSORS" "I" (.int (0 : Int32))) (bL : Addr) (kL : ClassId) (S_L : Sta Z Z.heap "com/example/slotwise/slotwise/engine/Resources" "LEAST" "[J" (.ref bL)) (V_L : Arv Z Z.heap bL kL .long (2 : Int32) [(.long (1 : Int64)), (.long (0 : Int64))] (.long (0 : Int64))) (hc158 : (lcmpW (own_pA q1 p5) (1 : Int64)) < (0 : Int32)) :
    MetFree l x (head1 (Jvm.Cond.code x code maxLocals ret :: ws) room_1) (fun a U => a = #[(.long q1), (.long q2), (.long q3), (.long q4), (.int p5)] ∧ Z.Warmed39 U.vm ∧ U.heap = h0) (fun _ _ _ _ _ => True) (fun _ U o U' => ∃ v L, o = .returned v ∧ Q0 Z q1 q2 q3 q4 p5 h0 n0 v U'.heap L ∧ FrameEnd U o U' L room_1.cells room_1.slots) := by
  refine MetFree.of_bodySF (plainFor_of_name pn_0) hisR ?_
  intro p e s m args below meth c s₁ Bd hml0 hP hK
  obtain ⟨rfl, hZ, hh⟩ := hP
  have hx := Bd.exec
  have hby := Bd.bytes
  have hml : c.maxLocals = 22 := hml0
  have hown : s.vm.findClass "com/example/slotwise/slotwise/engine/ResourcesCanRunOnPinLaw" = some m.cls := findClass_of_methodNamed Bd.named
  have hnm := (name_of_methodNamed Bd.named Bd.method).1
  have X0 : Stand p l e room_1 s m #[(.long q1), (.long q2), (.long q3), (.long q4), (.int p5)] below meth c s₁ [] 0 0 := Stand.of_body Bd
  have e0 : s₁.heap = h0 := by rw [← hh, Bd.state]; rfl
  have N0 := Fr.nil n0
  have pre0 : ∀ t, Steps p.tables e below (s₁.setTop (mkF m 98 #[.val (.long q1), .second, .val (.long q2), .second, .val (.long q3), .second, .val (.long q4), .second, .val (.int p5), .val (.long (own_pA q1 p5)), .second, .val (.long (own_pB q2 p5)), .second, .val (.long (own_pC q1 q3 p5)), .second, .val (.long (own_pD q2 q4 p5)), .second, .unset, .unset, .unset, .unset, .unset] [])) t → Steps p.tables e below (s₁.setTop (entryFrame m #[(.long q1), (.long q2), (.long q3), (.long q4), (.int p5)] maxLocals)) t := fun t k => castTop (ef_0 m q1 q2 q3 q4 p5) (pcs_A q1 q2 q3 q4 p5 X0 hx hby t (pcs_B q1 q2 q3 q4 p5 X0 hx hby t (pcs_C q1 q2 q3 q4 p5 X0 hx hby t (pcs_D q1 q2 q3 q4 p5 X0 hx hby t k))))
  obtain ⟨T6, h6, k6, X6, e6, E6, A6, st6⟩ := newP X0 hx hZ (hw _ (List.mem_of_getElem? (i := 0) rfl)) e0 (g := (mkF m 99 #[.val (.long q1), .second, .val (.long q2), .second, .val (.long q3), .second, .val (.long q4), .second, .val (.int p5), .val (.long (own_pA q1 p5)), .second, .val (.long (own_pB q2 p5)), .second, .val (.long (own_pC q1 q3 p5)), .second, .val (.long (own_pD q2 q4 p5)), .second, .unset, .unset, .unset, .unset, .unset] [(.int (2 : Int32))])) rfl (hb hby at_99) rfl (by decide) (cap := 2) (by decide) (by decide) (by decide) (by decide)
  obtain ⟨b6, g6⟩ : ∃ z, z = h0.size := ⟨_, rfl⟩
  rw [← g6] at A6 st6
  have V_b6 : Arv Z h6 b6 k6 .long (2 : Int32) [(.long (0 : Int64)), (.long (0 : Int64))] (.long (0 : Int64)) := (Arv.new A6 (by decide)).pad (pad_rep [] (.long (0 : Int64)) 2)
  have g_b6 : n0 ≤ b6 := Nat.le_trans Z0 (Nat.le_of_eq g6.symm)
  have sz_b6 : h0.size ≤ b6 := (Nat.le_trans (Keep.refl h0 []).1 (Nat.le_of_eq g6.symm))
  have K6 : Keep h0 h6 [] := (Keep.refl h0 []).ext E6
  obtain ⟨cl_b6_108, Ar_b6, q_b6, S_b6, N_b6, H_b6, G_b6⟩ := V_b6
  have hin108 : ¬ ((0 : Int32) < 0 ∨ cl_b6_108.slots.size ≤ ((0 : Int32)).toNatClampNeg) := inb_of S_b6 ⟨by decide, by decide⟩
  obtain ⟨T7, h7, X7, e7, W7, st7⟩ := stJ X6 hx hZ e6 Ar_b6 (j := (0 : Int32)) hin108 (g := (mkF m 108 #[.val (.long q1), .second, .val (.long q2), .second, .val (.long q3), .second, .val (.long q4), .second, .val (.int p5), .val (.long (own_pA q1 p5)), .second, .val (.long (own_pB q2 p5)), .second, .val (.long (own_pC q1 q3 p5)), .second, .val (.long (own_pD q2 q4 p5)), .second, .val (.ref b6), .unset, .unset, .unset, .unset] [(.long (own_pA q1 p5)), (.int (0 : Int32)), (.ref b6)])) rfl rfl (hb hby at_108)
  have V_b6_7 := Arv.set Ar_b6 q_b6 S_b6 N_b6 H_b6 G_b6 rfl W7 0 rfl (Nat.le_of_ble_eq_true rfl)
  have K7 : Keep h0 h7 [] := K6.wr W7 (Or.inr sz_b6)
  have N7 := Fr.snoc X7 N0 g_b6
  obtain ⟨cl_b6_114, Ar_b6, q_b6, S_b6, N_b6, H_b6, G_b6⟩ := V_b6_7
  have hin114 : ¬ ((1 : Int32) < 0 ∨ cl_b6_114.slots.size ≤ ((1 : Int32)).toNatClampNeg) := inb_of S_b6 ⟨by decide, by decide⟩
  obtain ⟨T8, h8, X8, e8, W8, st8⟩ := stJ X7 hx hZ e7 Ar_b6 (j := (1 : Int32)) hin114 (g := (mkF m 114 #[.val (.long q1), .second, .val (.long q2), .second, .val (.long q3), .second, .val (.long q4), .second, .val (.int p5), .val (.long (own_pA q1 p5)), .second, .val (.long (own_pB q2 p5)), .second, .val (.long (own_pC q1 q3 p5)), .second, .val (.long (own_pD q2 q4 p5)), .second, .val (.ref b6), .unset, .unset, .unset, .unset] [(.long (own_pB q2 p5)), (.int (1 : Int32)), (.ref b6)])) rfl rfl (hb hby at_114)
  have V_b6_8 := Arv.set Ar_b6 q_b6 S_b6 N_b6 H_b6 G_b6 rfl W8 1 rfl (Nat.le_of_ble_eq_true rfl)
  have K8 : Keep h0 h8 [] := K7.wr W8 (Or.inr sz_b6)
  have N8 := Fr.snoc X8 N7 g_b6
  obtain ⟨T9, h9, k9, X9, e9, E9, A9, st9⟩ := newP X8 hx hZ (hw _ (List.mem_of_getElem? (i := 0) rfl)) e8 (g := (mkF m 116 #[.val (.long q1), .second, .val (.long q2), .second, .val (.long q3), .second, .val (.long q4), .second, .val (.int p5), .val (.long (own_pA q1 p5)), .second, .val (.long (own_pB q2 p5)), .second, .val (.long (own_pC q1 q3 p5)), .second, .val (.long (own_pD q2 q4 p5)), .second, .val (.ref b6), .unset, .unset, .unset, .unset] [(.int (2 : Int32))])) rfl (hb hby at_116) rfl (by decide) (cap := 2) (by decide) (by decide) (by decide) (by decide)
  obtain ⟨b9, g9⟩ : ∃ z, z = h8.size := ⟨_, rfl⟩
  rw [← g9] at A9 st9
  have V_b9 : Arv Z h9 b9 k9 .long (2 : Int32) [(.long (0 : Int64)), (.long (0 : Int64))] (.long (0 : Int64)) := (Arv.new A9 (by decide)).pad (pad_rep [] (.long (0 : Int64)) 2)
  have g_b9 : n0 ≤ b9 := Nat.le_trans (Nat.le_trans (Nat.le_trans (Nat.le_trans Z0 E6.1) (Keep.of_wr W7).1) (Keep.of_wr W8).1) (Nat.le_of_eq g9.symm)
  have sz_b9 : h0.size ≤ b9 := (Nat.le_trans K8.1 (Nat.le_of_eq g9.symm))
  have K9 : Keep h0 h9 [] := K8.ext E9
  obtain ⟨cl_b9_125, Ar_b9, q_b9, S_b9, N_b9, H_b9, G_b9⟩ := V_b9
  have hin125 : ¬ ((0 : Int32) < 0 ∨ cl_b9_125.slots.size ≤ ((0 : Int32)).toNatClampNeg) := inb_of S_b9 ⟨by decide, by decide⟩
  obtain ⟨T10, h10, X10, e10, W10, st10⟩ := stJ X9 hx hZ e9 Ar_b9 (j := (0 : Int32)) hin125 (g := (mkF m 125 #[.val (.long q1), .second, .val (.long q2), .second, .val (.long q3), .second, .val (.long q4), .second, .val (.int p5), .val (.long (own_pA q1 p5)), .second, .val (.long (own_pB q2 p5)), .second, .val (.long (own_pC q1 q3 p5)), .second, .val (.long (own_pD q2 q4 p5)), .second, .val (.ref b6), .val (.ref b9), .unset, .unset, .unset] [(.long (own_pC q1 q3 p5)), (.int (0 : Int32)), (.ref b9)])) rfl rfl (hb hby at_125)
  have V_b9_10 := Arv.set Ar_b9 q_b9 S_b9 N_b9 H_b9 G_b9 rfl W10 0 rfl (Nat.le_of_ble_eq_true rfl)
  have K10 : Keep h0 h10 [] := K9.wr W10 (Or.inr sz_b9)
  have N10 := Fr.snoc X10 N8 g_b9
  obtain ⟨cl_b9_131, Ar_b9, q_b9, S_b9, N_b9, H_b9, G_b9⟩ := V_b9_10
  have hin131 : ¬ ((1 : Int32) < 0 ∨ cl_b9_131.slots.size ≤ ((1 : Int32)).toNatClampNeg) := inb_of S_b9 ⟨by decide, by decide⟩
  obtain ⟨T11, h11, X11, e11, W11, st11⟩ := stJ X10 hx hZ e10 Ar_b9 (j := (1 : Int32)) hin131 (g := (mkF m 131 #[.val (.long q1), .second, .val (.long q2), .second, .val (.long q3), .second, .val (.long q4), .second, .val (.int p5), .val (.long (own_pA q1 p5)), .second, .val (.long (own_pB q2 p5)), .second, .val (.long (own_pC q1 q3 p5)), .second, .val (.long (own_pD q2 q4 p5)), .second, .val (.ref b6), .val (.ref b9), .unset, .unset, .unset] [(.long (own_pD q2 q4 p5)), (.int (1 : Int32)), (.ref b9)])) rfl rfl (hb hby at_131)
  have V_b9_11 := Arv.set Ar_b9 q_b9 S_b9 N_b9 H_b9 G_b9 rfl W11 1 rfl (Nat.le_of_ble_eq_true rfl)
  have K11 : Keep h0 h11 [] := K10.wr W11 (Or.inr sz_b9)
  have N11 := Fr.snoc X11 N10 g_b9
  obtain ⟨T12, h12, X12, e12, E12, A12, D12, -, st12⟩ := newO X11 hx hZ hown (hw _ (List.mem_of_getElem? (i := 1) rfl)) (hw _ (List.mem_of_getElem? (i := 2) rfl)) (hw _ (List.mem_of_getElem? (i := 3) rfl)) e11 (g := (mkF m 132 #[.val (.long q1), .second, .val (.long q2), .second, .val (.long q3), .second, .val (.long q4), .second, .val (.int p5), .val (.long (own_pA q1 p5)), .second, .val (.long (own_pB q2 p5)), .second, .val (.long (own_pC q1 q3 p5)), .second, .val (.long (own_pD q2 q4 p5)), .second, .val (.ref b6), .val (.ref b9), .unset, .unset, .unset] [])) rfl (hb hby at_132) (by decide) (by decide)
  obtain ⟨b12, g12⟩ : ∃ z, z = h11.size := ⟨_, rfl⟩
  rw [← g12] at A12 D12 st12
  have F_amounts_b12 : Fld Z h12 b12 "com/example/slotwise/slotwise/engine/Resources" "amounts" "[J" .null := D12 (Or.inr (hw _ (List.mem_of_getElem? (i := 11) rfl))) (ty := (.array .long)) (by decide)
  have F_processorsAlone_b12 : Fld Z h12 b12 "com/example/slotwise/slotwise/engine/Resources" "processorsAlone" "Z" (.int (0 : Int32)) := D12 (Or.inr (hw _ (List.mem_of_getElem? (i := 15) rfl))) (ty := .boolean) (by decide)
  have E_b12 := A12
  have g_b12 : n0 ≤ b12 := Nat.le_trans (Nat.le_trans (Nat.le_trans (Nat.le_trans (Nat.le_trans (Nat.le_trans (Nat.le_trans Z0 E6.1) (Keep.of_wr W7).1) (Keep.of_wr W8).1) E9.1) (Keep.of_wr W10).1) (Keep.of_wr W11).1) (Nat.le_of_eq g12.symm)
  have sz_b12 : h0.size ≤ b12 := (Nat.le_trans K11.1 (Nat.le_of_eq g12.symm))
  have K12 : Keep h0 h12 [] := K11.ext E12
  have l_b6_b9 : b6 < b9 := by rw [g9]; exact V_b6_8.lt
  have l_b9_b12 : b9 < b12 := by rw [g12]; exact V_b9_11.lt
  have m_b6_b9 : b6 ≠ b9 := by omega
  have m_b6_b12 : b6 ≠ b12 := by omega
  have m_b9_b12 : b9 ≠ b12 := by omega
  have O12 : Old Z n0 h12 := ((((((O0.ext E6).wr W7 g_b6).wr W8 g_b6).ext E9).wr W10 g_b9).wr W11 g_b9).ext E12
  have Zc13 : n0 ≤ h12.size := by have q := O12.2.1; rw [O12.1] at q; exact q
  have VA12 := ((((V_b6_8.ext E9).other W10 (m_b6_b9)).other W11 (m_b6_b9)).ext E12)
  have VB12 := V_b9_11.ext E12
  obtain ⟨_, _, ⟨T13, L13, k13, n13⟩, -, X13, ⟨Lc13, hQ13, l13, y13, z13⟩, st13⟩ := X12.specialBack hx (y := (⟨"com/example/slotwise/slotwise/engine/Resources", "<init>", "([J)V"⟩ : MethodName)) rfl hown (mvT hZ (hw _ (List.mem_of_getElem? (i := 4) rfl))) (mvT hZ (hw _ (List.mem_of_getElem? (i := 5) rfl))) (mvT hZ (hw _ (List.mem_of_getElem? (i := 6) rfl))) (by decide) (backOf (W := 1) (rmC l Z a0 hw [] b12 b6 k6 (own_pA q1 p5) (own_pB q2 p5) h12 n0 Zc13 E_b12 F_amounts_b12 F_processorsAlone_b12 g_b12 VA12 (S_P.ext O12.2) m_b6_b12) hZ (hw _ (List.mem_of_getElem? (i := 6) rfl)) (hw _ (List.mem_of_getElem? (i := 3) rfl)) (by decide) (by decide)) (g := (mkF m 138 #[.val (.long q1), .second, .val (.long q2), .second, .val (.long q3), .second, .val (.long q4), .second, .val (.int p5), .val (.long (own_pA q1 p5)), .second, .val (.long (own_pB q2 p5)), .second, .val (.long (own_pC q1 q3 p5)), .second, .val (.long (own_pD q2 q4 p5)), .second, .val (.ref b6), .val (.ref b9), .unset, .unset, .unset] [(.ref b6), (.ref b12), (.ref b12)])) rfl (by rw [hml]; rfl) (Steps.refl _) (a := b12) (argsL := [(.ref b6)]) (rest := [(.ref b12)]) (lenOf pd_0_0 rfl) rfl (by show 2 * 0 + _ ≤ _; exact Nat.le_of_eq rfl) (hb hby at_138) (fun _ _ => ⟨rfl, e12, (by decide : 3 + 0 ≤ _), (by decide : 6 + 0 ≤ _)⟩)
  dsimp only [Pt.U, Pt.locs, Pt.cells, Pt.slots] at X13 l13 y13 z13 st13 hQ13
  subst l13 y13 z13
  obtain ⟨rfl, N13q, Kc13, Yc13, Fc13⟩ := hQ13
  have O13 : Old Z n0 T13.heap := O12.keep Kc13 (fun x hx => by rw [List.mem_singleton.mp hx]; exact g_b12)
  have KT13 : Keep h0 T13.heap [] := K12.trans Kc13 (own_allge sz_b12)
  have VA13 := VA12.keep Kc13 (own_notin m_b6_b12)
  have VB13 := VB12.keep Kc13 (own_notin m_b9_b12)
  have N13 := Fr.app N11 N13q
  obtain ⟨T14, h14, X14, e14, E14, A14, D14, -, st14⟩ := newO X13 hx hZ hown (hw _ (List.mem_of_getElem? (i := 1) rfl)) (hw _ (List.mem_of_getElem? (i := 2) rfl)) (hw _ (List.mem_of_getElem? (i := 3) rfl)) rfl (g := (mkF m 143 #[.val (.long q1), .second, .val (.long q2), .second, .val (.long q3), .second, .val (.long q4), .second, .val (.int p5), .val (.long (own_pA q1 p5)), .second, .val (.long (own_pB q2 p5)), .second, .val (.long (own_pC q1 q3 p5)), .second, .val (.long (own_pD q2 q4 p5)), .second, .val (.ref b6), .val (.ref b9), .val (.ref b12), .unset, .unset] [])) rfl (hb hby at_143) (by decide) (by decide)
  obtain ⟨b14, g14⟩ : ∃ z, z = T13.heap.size := ⟨_, rfl⟩
  rw [← g14] at A14 D14 st14
  have F_amounts_b14 : Fld Z h14 b14 "com/example/slotwise/slotwise/engine/Resources" "amounts" "[J" .null := D14 (Or.inr (hw _ (List.mem_of_getElem? (i := 11) rfl))) (ty := (.array .long)) (by decide)
  have F_processorsAlone_b14 : Fld Z h14 b14 "com/example/slotwise/slotwise/engine/Resources" "processorsAlone" "Z" (.int (0 : Int32)) := D14 (Or.inr (hw _ (List.mem_of_getElem? (i := 15) rfl))) (ty := .boolean) (by decide)
  have E_b14 := A14
  have g_b14 : n0 ≤ b14 := Nat.le_trans (Nat.le_trans (Nat.le_trans (Nat.le_trans (Nat.le_trans (Nat.le_trans (Nat.le_trans (Nat.le_trans (Nat.le_trans Z0 E6.1) (Keep.of_wr W7).1) (Keep.of_wr W8).1) E9.1) (Keep.of_wr W10).1) (Keep.of_wr W11).1) E12.1) Kc13.1) (Nat.le_of_eq g14.symm)
  have sz_b14 : h0.size ≤ b14 := (Nat.le_trans KT13.1 (Nat.le_of_eq g14.symm))
  have K14 : Keep h0 h14 [] := KT13.ext E14
  have l_b12_b14 : b12 < b14 := by rw [g14]; exact Yc13.lt
  have m_b6_b14 : b6 ≠ b14 := by omega
  have m_b9_b14 : b9 ≠ b14 := by omega
  have m_b12_b14 : b12 ≠ b14 := by omega
  have O14 : Old Z n0 h14 := O13.ext E14
  have Zc15 : n0 ≤ h14.size := by have q := O14.2.1; rw [O14.1] at q; exact q
  obtain ⟨_, _, ⟨T15, L15, k15, n15⟩, -, X15, ⟨Lc15, hQ15, l15, y15, z15⟩, st15⟩ := X14.specialBack hx (y := (⟨"com/example/slotwise/slotwise/engine/Resources", "<init>", "([J)V"⟩ : MethodName)) rfl hown (mvT hZ (hw _ (List.mem_of_getElem? (i := 4) rfl))) (mvT hZ (hw _ (List.mem_of_getElem? (i := 5) rfl))) (mvT hZ (hw _ (List.mem_of_getElem? (i := 6) rfl))) (by decide) (backOf (W := 1) (rmC l Z a0 hw [] b14 b9 k9 (own_pC q1 q3 p5) (own_pD q2 q4 p5) h14 n0 Zc15 E_b14 F_amounts_b14 F_processorsAlone_b14 g_b14 (VB13.ext E14) (S_P.ext O14.2) m_b9_b14) hZ (hw _ (List.mem_of_getElem? (i := 6) rfl)) (hw _ (List.mem_of_getElem? (i := 3) rfl)) (by decide) (by decide)) (g := (mkF m 149 #[.val (.long q1), .second, .val (.long q2), .second, .val (.long q3), .second, .val (.long q4), .second, .val (.int p5), .val (.long (own_pA q1 p5)), .second, .val (.long (own_pB q2 p5)), .second, .val (.long (own_pC q1 q3 p5)), .second, .val (.long (own_pD q2 q4 p5)), .second, .val (.ref b6), .val (.ref b9), .val (.ref b12), .unset, .unset] [(.ref b9), (.ref b14), (.ref b14)])) rfl (by rw [hml]; rfl) (Steps.refl _) (a := b14) (argsL := [(.ref b9)]) (rest := [(.ref b14)]) (lenOf pd_0_0 rfl) rfl (by show 2 * 0 + _ ≤ _; exact Nat.le_of_eq rfl) (hb hby at_149) (fun _ _ => ⟨rfl, e14, (by decide : 4 + 0 ≤ _), (by decide : 8 + 0 ≤ _)⟩)
  dsimp only [Pt.U, Pt.locs, Pt.cells, Pt.slots] at X15 l15 y15 z15 st15 hQ15
  subst l15 y15 z15
  obtain ⟨rfl, N15q, Kc15, Yc15, Fc15⟩ := hQ15
  have O15 : Old Z n0 T15.heap := O14.keep Kc15 (fun x hx => by rw [List.mem_singleton.mp hx]; exact g_b14)
  have VA15 := (VA13.ext E14).keep Kc15 (own_notin m_b6_b14)
  have VB15 := (VB13.ext E14).keep Kc15 (own_notin m_b9_b14)
  have GA15 := (Fc13.ext E14).keep Kc15 (own_notin m_b12_b14)
  have Zl : n0 ≤ T15.heap.size := by have q := O15.2.1; rw [O15.1] at q; exact q
  have N15 := Fr.app N13 N15q
  obtain ⟨cq16, kq16, q16a, q16b, q16c⟩ := isOf hZ rfl (((E_b12.keep Kc13).ext E14).keep Kc15)
  obtain ⟨_, _, ⟨T16, L16, k16, n16⟩, -, X16, ⟨Lc16, hQ16, l16, y16, z16⟩, st16⟩ := X15.virtualBack hx (y := (⟨"com/example/slotwise/slotwise/engine/Resources", "canRunOn", "(Lcom/example/slotwise/slotwise/engine/Resources;)Z"⟩ : MethodName)) (z := (⟨"com/example/slotwise/slotwise/engine/Resources", "canRunOn", "(Lcom/example/slotwise/slotwise/engine/Resources;)Z"⟩ : MethodName)) hown (mvT hZ (hw _ (List.mem_of_getElem? (i := 16) rfl))) (mvT hZ (hw _ (List.mem_of_getElem? (i := 17) rfl))) (notFace_of_selects (args := #[]) (mvT hZ (hw _ (List.mem_of_getElem? (i := 19) rfl)))) (mvT hZ (hw _ (List.mem_of_getElem? (i := 19) rfl))) (mvT hZ (hw _ (List.mem_of_getElem? (i := 18) rfl))) (by decide) (backOf (W := 0) (rmR0 l Z a0 hw [] b12 b14 b6 b9 bL k6 k9 kL (own_pA q1 p5) (own_pB q2 p5) (own_pC q1 q3 p5) (own_pD q2 q4 p5) T15.heap n0 Zl GA15 Fc15 (S_L.ext O15.2) VA15 VB15 (V_L.ext O15.2) (Or.inl hc158)) hZ (hw _ (List.mem_of_getElem? (i := 20) rfl)) (hw _ (List.mem_of_getElem? (i := 3) rfl)) (by decide) (by decide)) q16a q16c (g := (mkF m 195 #[.val (.long q1), .second, .val (.long q2), .second, .val (.long q3), .second, .val (.long q4), .second, .val (.int p5), .val (.long (own_pA q1 p5)), .second, .val (.long (own_pB q2 p5)), .second, .val (.long (own_pC q1 q3 p5)), .second, .val (.long (own_pD q2 q4 p5)), .second, .val (.ref b6), .val (.ref b9), .val (.ref b12), .val (.ref b14), .val (.int (0 : Int32))] [(.ref b14), (.ref b12)])) rfl (by rw [hml]; rfl) (Steps.refl _) (argsL := [(.ref b14)]) (rest := []) (lenOf pd_0_2 rfl) rfl (by show 2 * 0 + _ ≤ _; exact Nat.le_of_eq rfl) (hb hby at_195) (fun _ _ => ⟨rfl, rfl, (by decide : 4 + 0 ≤ _), (by decide : 8 + 0 ≤ _)⟩)
  dsimp only [Pt.U, Pt.locs, Pt.cells, Pt.slots] at X16 l16 y16 z16 st16 hQ16
  subst l16 y16 z16
  obtain ⟨rfl, N16q, e16q⟩ := hQ16
  have N16 := Fr.app N15 N16q
  obtain ⟨fs, hr, hrun, hended, hW, hsame⟩ := X16.leave (v := some (.int (1 : Int32))) (fun h => by rw [Bd.returns] at h; cases h)
  refine ⟨_, _, pre0 _ ?_, hrun, hended, _, _, rfl, ?_, ⟨_, rfl⟩, hW, hsame.mono (by decide) (by decide)⟩
  · show Steps p.tables e below (s₁.setTop (mkF m 98 #[.val (.long q1), .second, .val (.long q2), .second, .val (.long q3), .second, .val (.long q4), .second, .val (.int p5), .val (.long (own_pA q1 p5)), .second, .val (.long (own_pB q2 p5)), .second, .val (.long (own_pC q1 q3 p5)), .second, .val (.long (own_pD q2 q4 p5)), .second, .unset, .unset, .unset, .unset, .unset] [])) _
    refine XS.iconst X0.here hx rfl (hb hby at_98) ?_
    show Steps p.tables e below (s₁.setTop (mkF m 99 #[.val (.long q1), .second, .val (.long q2), .second, .val (.long q3), .second, .val (.long q4), .second, .val (.int p5), .val (.long (own_pA q1 p5)), .second, .val (.long (own_pB q2 p5)), .second, .val (.long (own_pC q1 q3 p5)), .second, .val (.long (own_pD q2 q4 p5)), .second, .unset, .unset, .unset, .unset, .unset] [(.int (2 : Int32))])) _
    refine st6 _ ?_
    show Steps p.tables e below (T6.setTop (mkF m 101 #[.val (.long q1), .second, .val (.long q2), .second, .val (.long q3), .second, .val (.long q4), .second, .val (.int p5), .val (.long (own_pA q1 p5)), .second, .val (.long (own_pB q2 p5)), .second, .val (.long (own_pC q1 q3 p5)), .second, .val (.long (own_pD q2 q4 p5)), .second, .unset, .unset, .unset, .unset, .unset] [(.ref b6)])) _
    refine XS.astore X6.here hx rfl (hb hby at_101) rfl rfl (l' := #[.val (.long q1), .second, .val (.long q2), .second, .val (.long q3), .second, .val (.long q4), .second, .val (.int p5), .val (.long (own_pA q1 p5)), .second, .val (.long (own_pB q2 p5)), .second, .val (.long (own_pC q1 q3 p5)), .second, .val (.long (own_pD q2 q4 p5)), .second, .val (.ref b6), .unset, .unset, .unset, .unset]) rfl ?_
    show Steps p.tables e below (T6.setTop (mkF m 103 #[.val (.long q1), .second, .val (.long q2), .second, .val (.long q3), .second, .val (.long q4), .second, .val (.int p5), .val (.long (own_pA q1 p5)), .second, .val (.long (own_pB q2 p5)), .second, .val (.long (own_pC q1 q3 p5)), .second, .val (.long (own_pD q2 q4 p5)), .second, .val (.ref b6), .unset, .unset, .unset, .unset] [])) _
    refine XS.aload X6.here hx rfl (hb hby at_103) rfl rfl ?_
    show Steps p.tables e below (T6.setTop (mkF m 105 #[.val (.long q1), .second, .val (.long q2), .second, .val (.long q3), .second, .val (.long q4), .second, .val (.int p5), .val (.long (own_pA q1 p5)), .second, .val (.long (own_pB q2 p5)), .second, .val (.long (own_pC q1 q3 p5)), .second, .val (.long (own_pD q2 q4 p5)), .second, .val (.ref b6), .unset, .unset, .unset, .unset] [(.ref b6)])) _
    refine XS.iconst X6.here hx rfl (hb hby at_105) ?_
    show Steps p.tables e below (T6.setTop (mkF m 106 #[.val (.long q1), .second, .val (.long q2), .second, .val (.long q3), .second, .val (.long q4), .second, .val (.int p5), .val (.long (own_pA q1 p5)), .second, .val (.long (own_pB q2 p5)), .second, .val (.long (own_pC q1 q3 p5)), .second, .val (.long (own_pD q2 q4 p5)), .second, .val (.ref b6), .unset, .unset, .unset, .unset] [(.int (0 : Int32)), (.ref b6)])) _
    refine XS.lload X6.here hx rfl (hb hby at_106) rfl ?_
    show Steps p.tables e below (T6.setTop (mkF m 108 #[.val (.long q1), .second, .val (.long q2), .second, .val (.long q3), .second, .val (.long q4), .second, .val (.int p5), .val (.long (own_pA q1 p5)), .second, .val (.long (own_pB q2 p5)), .second, .val (.long (own_pC q1 q3 p5)), .second, .val (.long (own_pD q2 q4 p5)), .second, .val (.ref b6), .unset, .unset, .unset, .unset] [(.long (own_pA q1 p5)), (.int (0 : Int32)), (.ref b6)])) _
    refine st7 _ ?_
    show Steps p.tables e below (T7.setTop (mkF m 109 #[.val (.long q1), .second, .val (.long q2), .second, .val (.long q3), .second, .val (.long q4), .second, .val (.int p5), .val (.long (own_pA q1 p5)), .second, .val (.long (own_pB q2 p5)), .second, .val (.long (own_pC q1 q3 p5)), .second, .val (.long (own_pD q2 q4 p5)), .second, .val (.ref b6), .unset, .unset, .unset, .unset] [])) _
    refine XS.aload X7.here hx rfl (hb hby at_109) rfl rfl ?_
    show Steps p.tables e below (T7.setTop (mkF m 111 #[.val (.long q1), .second, .val (.long q2), .second, .val (.long q3), .second, .val (.long q4), .second, .val (.int p5), .val (.long (own_pA q1 p5)), .second, .val (.long (own_pB q2 p5)), .second, .val (.long (own_pC q1 q3 p5)), .second, .val (.long (own_pD q2 q4 p5)), .second, .val (.ref b6), .unset, .unset, .unset, .unset] [(.ref b6)])) _
    refine XS.iconst X7.here hx rfl (hb hby at_111) ?_
    show Steps p.tables e below (T7.setTop (mkF m 112 #[.val (.long q1), .second, .val (.long q2), .second, .val (.long q3), .second, .val (.long q4), .second, .val (.int p5), .val (.long (own_pA q1 p5)), .second, .val (.long (own_pB q2 p5)), .second, .val (.long (own_pC q1 q3 p5)), .second, .val (.long (own_pD q2 q4 p5)), .second, .val (.ref b6), .unset, .unset, .unset, .unset] [(.int (1 : Int32)), (.ref b6)])) _
    refine XS.lload X7.here hx rfl (hb hby at_112) rfl ?_
    show Steps p.tables e below (T7.setTop (mkF m 114 #[.val (.long q1), .second, .val (.long q2), .second, .val (.long q3), .second, .val (.long q4), .second, .val (.int p5), .val (.long (own_pA q1 p5)), .second, .val (.long (own_pB q2 p5)), .second, .val (.long (own_pC q1 q3 p5)), .second, .val (.long (own_pD q2 q4 p5)), .second, .val (.ref b6), .unset, .unset, .unset, .unset] [(.long (own_pB q2 p5)), (.int (1 : Int32)), (.ref b6)])) _
    refine st8 _ ?_
    show Steps p.tables e below (T8.setTop (mkF m 115 #[.val (.long q1), .second, .val (.long q2), .second, .val (.long q3), .second, .val (.long q4), .second, .val (.int p5), .val (.long (own_pA q1 p5)), .second, .val (.long (own_pB q2 p5)), .second, .val (.long (own_pC q1 q3 p5)), .second, .val (.long (own_pD q2 q4 p5)), .second, .val (.ref b6), .unset, .unset, .unset, .unset] [])) _
    refine XS.iconst X8.here hx rfl (hb hby at_115) ?_
    show Steps p.tables e below (T8.setTop (mkF m 116 #[.val (.long q1), .second, .val (.long q2), .second, .val (.long q3), .second, .val (.long q4), .second, .val (.int p5), .val (.long (own_pA q1 p5)), .second, .val (.long (own_pB q2 p5)), .second, .val (.long (own_pC q1 q3 p5)), .second, .val (.long (own_pD q2 q4 p5)), .second, .val (.ref b6), .unset, .unset, .unset, .unset] [(.int (2 : Int32))])) _
    refine st9 _ ?_
    show Steps p.tables e below (T9.setTop (mkF m 118 #[.val (.long q1), .second, .val (.long q2), .second, .val (.long q3), .second, .val (.long q4), .second, .val (.int p5), .val (.long (own_pA q1 p5)), .second, .val (.long (own_pB q2 p5)), .second, .val (.long (own_pC q1 q3 p5)), .second, .val (.long (own_pD q2 q4 p5)), .second, .val (.ref b6), .unset, .unset, .unset, .unset] [(.ref b9)])) _
    refine XS.astore X9.here hx rfl (hb hby at_118) rfl rfl (l' := #[.val (.long q1), .second, .val (.long q2), .second, .val (.long q3), .second, .val (.long q4), .second, .val (.int p5), .val (.long (own_pA q1 p5)), .second, .val (.long (own_pB q2 p5)), .second, .val (.long (own_pC q1 q3 p5)), .second, .val (.long (own_pD q2 q4 p5)), .second, .val (.ref b6), .val (.ref b9), .unset, .unset, .unset]) rfl ?_
    show Steps p.tables e below (T9.setTop (mkF m 120 #[.val (.long q1), .second, .val (.long q2), .second, .val (.long q3), .second, .val (.long q4), .second, .val (.int p5), .val (.long (own_pA q1 p5)), .second, .val (.long (own_pB q2 p5)), .second, .val (.long (own_pC q1 q3 p5)), .second, .val (.long (own_pD q2 q4 p5)), .second, .val (.ref b6), .val (.ref b9), .unset, .unset, .unset] [])) _
    refine XS.aload X9.here hx rfl (hb hby at_120) rfl rfl ?_
    show Steps p.tables e below (T9.setTop (mkF m 122 #[.val (.long q1), .second, .val (.long q2), .second, .val (.long q3), .second, .val (.long q4), .second, .val (.int p5), .val (.long (own_pA q1 p5)), .second, .val (.long (own_pB q2 p5)), .second, .val (.long (own_pC q1 q3 p5)), .second, .val (.long (own_pD q2 q4 p5)), .second, .val (.ref b6), .val (.ref b9), .unset, .unset, .unset] [(.ref b9)])) _
    refine XS.iconst X9.here hx rfl (hb hby at_122) ?_
    show Steps p.tables e below (T9.setTop (mkF m 123 #[.val (.long q1), .second, .val (.long q2), .second, .val (.long q3), .second, .val (.long q4), .second, .val (.int p5), .val (.long (own_pA q1 p5)), .second, .val (.long (own_pB q2 p5)), .second, .val (.long (own_pC q1 q3 p5)), .second, .val (.long (own_pD q2 q4 p5)), .second, .val (.ref b6), .val (.ref b9), .unset, .unset, .unset] [(.int (0 : Int32)), (.ref b9)])) _
    refine XS.lload X9.here hx rfl (hb hby at_123) rfl ?_
    show Steps p.tables e below (T9.setTop (mkF m 125 #[.val (.long q1), .second, .val (.long q2), .second, .val (.long q3), .second, .val (.long q4), .second, .val (.int p5), .val (.long (own_pA q1 p5)), .second, .val (.long (own_pB q2 p5)), .second, .val (.long (own_pC q1 q3 p5)), .second, .val (.long (own_pD q2 q4 p5)), .second, .val (.ref b6), .val (.ref b9), .unset, .unset, .unset] [(.long (own_pC q1 q3 p5)), (.int (0 : Int32)), (.ref b9)])) _
    refine st10 _ ?_
    show Steps p.tables e below (T10.setTop (mkF m 126 #[.val (.long q1), .second, .val (.long q2), .second, .val (.long q3), .second, .val (.long q4), .second, .val (.int p5), .val (.long (own_pA q1 p5)), .second, .val (.long (own_pB q2 p5)), .second, .val (.long (own_pC q1 q3 p5)), .second, .val (.long (own_pD q2 q4 p5)), .second, .val (.ref b6), .val (.ref b9), .unset, .unset, .unset] [])) _
    refine XS.aload X10.here hx rfl (hb hby at_126) rfl rfl ?_
    show Steps p.tables e below (T10.setTop (mkF m 128 #[.val (.long q1), .second, .val (.long q2), .second, .val (.long q3), .second, .val (.long q4), .second, .val (.int p5), .val (.long (own_pA q1 p5)), .second, .val (.long (own_pB q2 p5)), .second, .val (.long (own_pC q1 q3 p5)), .second, .val (.long (own_pD q2 q4 p5)), .second, .val (.ref b6), .val (.ref b9), .unset, .unset, .unset] [(.ref b9)])) _
    refine XS.iconst X10.here hx rfl (hb hby at_128) ?_
    show Steps p.tables e below (T10.setTop (mkF m 129 #[.val (.long q1), .second, .val (.long q2), .second, .val (.long q3), .second, .val (.long q4), .second, .val (.int p5), .val (.long (own_pA q1 p5)), .second, .val (.long (own_pB q2 p5)), .second, .val (.long (own_pC q1 q3 p5)), .second, .val (.long (own_pD q2 q4 p5)), .second, .val (.ref b6), .val (.ref b9), .unset, .unset, .unset] [(.int (1 : Int32)), (.ref b9)])) _
    refine XS.lload X10.here hx rfl (hb hby at_129) rfl ?_
    show Steps p.tables e below (T10.setTop (mkF m 131 #[.val (.long q1), .second, .val (.long q2), .second, .val (.long q3), .second, .val (.long q4), .second, .val (.int p5), .val (.long (own_pA q1 p5)), .second, .val (.long (own_pB q2 p5)), .second, .val (.long (own_pC q1 q3 p5)), .second, .val (.long (own_pD q2 q4 p5)), .second, .val (.ref b6), .val (.ref b9), .unset, .unset, .unset] [(.long (own_pD q2 q4 p5)), (.int (1 : Int32)), (.ref b9)])) _
    refine st11 _ ?_
    show Steps p.tables e below (T11.setTop (mkF m 132 #[.val (.long q1), .second, .val (.long q2), .second, .val (.long q3), .second, .val (.long q4), .second, .val (.int p5), .val (.long (own_pA q1 p5)), .second, .val (.long (own_pB q2 p5)), .second, .val (.long (own_pC q1 q3 p5)), .second, .val (.long (own_pD q2 q4 p5)), .second, .val (.ref b6), .val (.ref b9), .unset, .unset, .unset] [])) _
    refine st12 _ ?_
    show Steps p.tables e below (T12.setTop (mkF m 135 #[.val (.long q1), .second, .val (.long q2), .second, .val (.long q3), .second, .val (.long q4), .second, .val (.int p5), .val (.long (own_pA q1 p5)), .second, .val (.long (own_pB q2 p5)), .second, .val (.long (own_pC q1 q3 p5)), .second, .val (.long (own_pD q2 q4 p5)), .second, .val (.ref b6), .val (.ref b9), .unset, .unset, .unset] [(.ref b12)])) _
    refine XS.dup X12.here hx rfl (hb hby at_135) rfl rfl ?_
    show Steps p.tables e below (T12.setTop (mkF m 136 #[.val (.long q1), .second, .val (.long q2), .second, .val (.long q3), .second, .val (.long q4), .second, .val (.int p5), .val (.long (own_pA q1 p5)), .second, .val (.long (own_pB q2 p5)), .second, .val (.long (own_pC q1 q3 p5)), .second, .val (.long (own_pD q2 q4 p5)), .second, .val (.ref b6), .val (.ref b9), .unset, .unset, .unset] [(.ref b12), (.ref b12)])) _
    refine XS.aload X12.here hx rfl (hb hby at_136) rfl rfl ?_
    show Steps p.tables e below (T12.setTop (mkF m 138 #[.val (.long q1), .second, .val (.long q2), .second, .val (.long q3), .second, .val (.long q4), .second, .val (.int p5), .val (.long (own_pA q1 p5)), .second, .val (.long (own_pB q2 p5)), .second, .val (.long (own_pC q1 q3 p5)), .second, .val (.long (own_pD q2 q4 p5)), .second, .val (.ref b6), .val (.ref b9), .unset, .unset, .unset] [(.ref b6), (.ref b12), (.ref b12)])) _
    refine st13.trans ?_
    show Steps p.tables e below (T13.setTop (mkF m 141 #[.val (.long q1), .second, .val (.long q2), .second, .val (.long q3), .second, .val (.long q4), .second, .val (.int p5), .val (.long (own_pA q1 p5)), .second, .val (.long (own_pB q2 p5)), .second, .val (.long (own_pC q1 q3 p5)), .second, .val (.long (own_pD q2 q4 p5)), .second, .val (.ref b6), .val (.ref b9), .unset, .unset, .unset] [(.ref b12)])) _
    refine XS.astore X13.here hx rfl (hb hby at_141) rfl rfl (l' := #[.val (.long q1), .second, .val (.long q2), .second, .val (.long q3), .second, .val (.long q4), .second, .val (.int p5), .val (.long (own_pA q1 p5)), .second, .val (.long (own_pB q2 p5)), .second, .val (.long (own_pC q1 q3 p5)), .second, .val (.long (own_pD q2 q4 p5)), .second, .val (.ref b6), .val (.ref b9), .val (.ref b12), .unset, .unset]) rfl ?_
    show Steps p.tables e below (T13.setTop (mkF m 143 #[.val (.long q1), .second, .val (.long q2), .second, .val (.long q3), .second, .val (.long q4), .second, .val (.int p5), .val (.long (own_pA q1 p5)), .second, .val (.long (own_pB q2 p5)), .second, .val (.long (own_pC q1 q3 p5)), .second, .val (.long (own_pD q2 q4 p5)), .second, .val (.ref b6), .val (.ref b9), .val (.ref b12), .unset, .unset] [])) _
    refine st14 _ ?_
    show Steps p.tables e below (T14.setTop (mkF m 146 #[.val (.long q1), .second, .val (.long q2), .second, .val (.long q3), .second, .val (.long q4), .second, .val (.int p5), .val (.long (own_pA q1 p5)), .second, .val (.long (own_pB q2 p5)), .second, .val (.long (own_pC q1 q3 p5)), .second, .val (.long (own_pD q2 q4 p5)), .second, .val (.ref b6), .val (.ref b9), .val (.ref b12), .unset, .unset] [(.ref b14)])) _
    refine XS.dup X14.here hx rfl (hb hby at_146) rfl rfl ?_
    show Steps p.tables e below (T14.setTop (mkF m 147 #[.val (.long q1), .second, .val (.long q2), .second, .val (.long q3), .second, .val (.long q4), .second, .val (.int p5), .val (.long (own_pA q1 p5)), .second, .val (.long (own_pB q2 p5)), .second, .val (.long (own_pC q1 q3 p5)), .second, .val (.long (own_pD q2 q4 p5)), .second, .val (.ref b6), .val (.ref b9), .val (.ref b12), .unset, .unset] [(.ref b14), (.ref b14)])) _
    refine XS.aload X14.here hx rfl (hb hby at_147) rfl rfl ?_
    show Steps p.tables e below (T14.setTop (mkF m 149 #[.val (.long q1), .second, .val (.long q2), .second, .val (.long q3), .second, .val (.long q4), .second, .val (.int p5), .val (.long (own_pA q1 p5)), .second, .val (.long (own_pB q2 p5)), .second, .val (.long (own_pC q1 q3 p5)), .second, .val (.long (own_pD q2 q4 p5)), .second, .val (.ref b6), .val (.ref b9), .val (.ref b12), .unset, .unset] [(.ref b9), (.ref b14), (.ref b14)])) _
    refine st15.trans ?_
    show Steps p.tables e below (T15.setTop (mkF m 152 #[.val (.long q1), .second, .val (.long q2), .second, .val (.long q3), .second, .val (.long q4), .second, .val (.int p5), .val (.long (own_pA q1 p5)), .second, .val (.long (own_pB q2 p5)), .second, .val (.long (own_pC q1 q3 p5)), .second, .val (.long (own_pD q2 q4 p5)), .second, .val (.ref b6), .val (.ref b9), .val (.ref b12), .unset, .unset] [(.ref b14)])) _
    refine XS.astore X15.here hx rfl (hb hby at_152) rfl rfl (l' := #[.val (.long q1), .second, .val (.long q2), .second, .val (.long q3), .second, .val (.long q4), .second, .val (.int p5), .val (.long (own_pA q1 p5)), .second, .val (.long (own_pB q2 p5)), .second, .val (.long (own_pC q1 q3 p5)), .second, .val (.long (own_pD q2 q4 p5)), .second, .val (.ref b6), .val (.ref b9), .val (.ref b12), .val (.ref b14), .unset]) rfl ?_
    show Steps p.tables e below (T15.setTop (mkF m 154 #[.val (.long q1), .second, .val (.long q2), .second, .val (.long q3), .second, .val (.long q4), .second, .val (.int p5), .val (.long (own_pA q1 p5)), .second, .val (.long (own_pB q2 p5)), .second, .val (.long (own_pC q1 q3 p5)), .second, .val (.long (own_pD q2 q4 p5)), .second, .val (.ref b6), .val (.ref b9), .val (.ref b12), .val (.ref b14), .unset] [])) _
    refine XS.lload X15.here hx rfl (hb hby at_154) rfl ?_
    show Steps p.tables e below (T15.setTop (mkF m 156 #[.val (.long q1), .second, .val (.long q2), .second, .val (.long q3), .second, .val (.long q4), .second, .val (.int p5), .val (.long (own_pA q1 p5)), .second, .val (.long (own_pB q2 p5)), .second, .val (.long (own_pC q1 q3 p5)), .second, .val (.long (own_pD q2 q4 p5)), .second, .val (.ref b6), .val (.ref b9), .val (.ref b12), .val (.ref b14), .unset] [(.long (own_pA q1 p5))])) _
    refine XS.lconst X15.here hx rfl (hb hby at_156) ?_
    show Steps p.tables e below (T15.setTop (mkF m 157 #[.val (.long q1), .second, .val (.long q2), .second, .val (.long q3), .second, .val (.long q4), .second, .val (.int p5), .val (.long (own_pA q1 p5)), .second, .val (.long (own_pB q2 p5)), .second, .val (.long (own_pC q1 q3 p5)), .second, .val (.long (own_pD q2 q4 p5)), .second, .val (.ref b6), .val (.ref b9), .val (.ref b12), .val (.ref b14), .unset] [(.long (1 : Int64)), (.long (own_pA q1 p5))])) _
    refine XS.lcmp X15.here hx rfl (hb hby at_157) rfl ?_
    show Steps p.tables e below (T15.setTop (mkF m 158 #[.val (.long q1), .second, .val (.long q2), .second, .val (.long q3), .second, .val (.long q4), .second, .val (.int p5), .val (.long (own_pA q1 p5)), .second, .val (.long (own_pB q2 p5)), .second, .val (.long (own_pC q1 q3 p5)), .second, .val (.long (own_pD q2 q4 p5)), .second, .val (.ref b6), .val (.ref b9), .val (.ref b12), .val (.ref b14), .unset] [(.int (lcmpW (own_pA q1 p5) (1 : Int64)))])) _
    refine XS.ifYes X15.here hx rfl (pc0 := 158) (pc' := 188) rfl (hb hby at_158) rfl ((if0 _ _).trans (tlt hc158).1) (by decide) (by decide) ?_
    show Steps p.tables e below (T15.setTop (mkF m 188 #[.val (.long q1), .second, .val (.long q2), .second, .val (.long q3), .second, .val (.long q4), .second, .val (.int p5), .val (.long (own_pA q1 p5)), .second, .val (.long (own_pB q2 p5)), .second, .val (.long (own_pC q1 q3 p5)), .second, .val (.long (own_pD q2 q4 p5)), .second, .val (.ref b6), .val (.ref b9), .val (.ref b12), .val (.ref b14), .unset] [])) _
    refine XS.iconst X15.here hx rfl (hb hby at_188) ?_
    show Steps p.tables e below (T15.setTop (mkF m 189 #[.val (.long q1), .second, .val (.long q2), .second, .val (.long q3), .second, .val (.long q4), .second, .val (.int p5), .val (.long (own_pA q1 p5)), .second, .val (.long (own_pB q2 p5)), .second, .val (.long (own_pC q1 q3 p5)), .second, .val (.long (own_pD q2 q4 p5)), .second, .val (.ref b6), .val (.ref b9), .val (.ref b12), .val (.ref b14), .unset] [(.int (0 : Int32))])) _
    refine XS.istore X15.here hx rfl (hb hby at_189) rfl (l' := #[.val (.long q1), .second, .val (.long q2), .second, .val (.long q3), .second, .val (.long q4), .second, .val (.int p5), .val (.long (own_pA q1 p5)), .second, .val (.long (own_pB q2 p5)), .second, .val (.long (own_pC q1 q3 p5)), .second, .val (.long (own_pD q2 q4 p5)), .second, .val (.ref b6), .val (.ref b9), .val (.ref b12), .val (.ref b14), .val (.int (0 : Int32))]) rfl ?_
    show Steps p.tables e below (T15.setTop (mkF m 191 #[.val (.long q1), .second, .val (.long q2), .second, .val (.long q3), .second, .val (.long q4), .second, .val (.int p5), .val (.long (own_pA q1 p5)), .second, .val (.long (own_pB q2 p5)), .second, .val (.long (own_pC q1 q3 p5)), .second, .val (.long (own_pD q2 q4 p5)), .second, .val (.ref b6), .val (.ref b9), .val (.ref b12), .val (.ref b14), .val (.int (0 : Int32))] [])) _
    refine XS.aload X15.here hx rfl (hb hby at_191) rfl rfl ?_
    show Steps p.tables e below (T15.setTop (mkF m 193 #[.val (.long q1), .second, .val (.long q2), .second, .val (.long q3), .second, .val (.long q4), .second, .val (.int p5), .val (.long (own_pA q1 p5)), .second, .val (.long (own_pB q2 p5)), .second, .val (.long (own_pC q1 q3 p5)), .second, .val (.long (own_pD q2 q4 p5)), .second, .val (.ref b6), .val (.ref b9), .val (.ref b12), .val (.ref b14), .val (.int (0 : Int32))] [(.ref b12)])) _
    refine XS.aload X15.here hx rfl (hb hby at_193) rfl rfl ?_
    show Steps p.tables e below (T15.setTop (mkF m 195 #[.val (.long q1), .second, .val (.long q2), .second, .val (.long q3), .second, .val (.long q4), .second, .val (.int p5), .val (.long (own_pA q1 p5)), .second, .val (.long (own_pB q2 p5)), .second, .val (.long (own_pC q1 q3 p5)), .second, .val (.long (own_pD q2 q4 p5)), .second, .val (.ref b6), .val (.ref b9), .val (.ref b12), .val (.ref b14), .val (.int (0 : Int32))] [(.ref b14), (.ref b12)])) _
    refine st16.trans ?_
    show Steps p.tables e below (T16.setTop (mkF m 198 #[.val (.long q1), .second, .val (.long q2), .second, .val (.long q3), .second, .val (.long q4), .second, .val (.int p5), .val (.long (own_pA q1 p5)), .second, .val (.long (own_pB q2 p5)), .second, .val (.long (own_pC q1 q3 p5)), .second, .val (.long (own_pD q2 q4 p5)), .second, .val (.ref b6), .val (.ref b9), .val (.ref b12), .val (.ref b14), .val (.int (0 : Int32))] [(.int (0 : Int32))])) _
    refine XS.iload X16.here hx rfl (hb hby at_198) rfl ?_
    show Steps p.tables e below (T16.setTop (mkF m 200 #[.val (.long q1), .second, .val (.long q2), .second, .val (.long q3), .second, .val (.long q4), .second, .val (.int p5), .val (.long (own_pA q1 p5)), .second, .val (.long (own_pB q2 p5)), .second, .val (.long (own_pC q1 q3 p5)), .second, .val (.long (own_pD q2 q4 p5)), .second, .val (.ref b6), .val (.ref b9), .val (.ref b12), .val (.ref b14), .val (.int (0 : Int32))] [(.int (0 : Int32)), (.int (0 : Int32))])) _
    refine XS.icmpNo X16.here hx rfl (hb hby at_200) rfl (teq (rfl : (0 : Int32) = (0 : Int32))).2 ?_
    show Steps p.tables e below (T16.setTop (mkF m 203 #[.val (.long q1), .second, .val (.long q2), .second, .val (.long q3), .second, .val (.long q4), .second, .val (.int p5), .val (.long (own_pA q1 p5)), .second, .val (.long (own_pB q2 p5)), .second, .val (.long (own_pC q1 q3 p5)), .second, .val (.long (own_pD q2 q4 p5)), .second, .val (.ref b6), .val (.ref b9), .val (.ref b12), .val (.ref b14), .val (.int (0 : Int32))] [])) _
    refine XS.iconst X16.here hx rfl (hb hby at_203) ?_
    show Steps p.tables e below (T16.setTop (mkF m 204 #[.val (.long q1), .second, .val (.long q2), .second, .val (.long q3), .second, .val (.long q4), .second, .val (.int p5), .val (.long (own_pA q1 p5)), .second, .val (.long (own_pB q2 p5)), .second, .val (.long (own_pC q1 q3 p5)), .second, .val (.long (own_pD q2 q4 p5)), .second, .val (.ref b6), .val (.ref b9), .val (.ref b12), .val (.ref b14), .val (.int (0 : Int32))] [(.int (1 : Int32))])) _
    refine XS.goto X16.here hx rfl (pc0 := 204) (pc' := 208) rfl (hb hby at_204) (by decide) (by decide) ?_
    show Steps p.tables e below (T16.setTop (mkF m 208 #[.val (.long q1), .second, .val (.long q2), .second, .val (.long q3), .second, .val (.long q4), .second, .val (.int p5), .val (.long (own_pA q1 p5)), .second, .val (.long (own_pB q2 p5)), .second, .val (.long (own_pC q1 q3 p5)), .second, .val (.long (own_pD q2 q4 p5)), .second, .val (.ref b6), .val (.ref b9), .val (.ref b12), .val (.ref b14), .val (.int (0 : Int32))] [(.int (1 : Int32))])) _
    exact retN X16 hx (t := .boolean) Bd.returns (by simp) (hb hby at_208) hr
  · show Q0 Z q1 q2 q3 q4 p5 h0 n0 _ T16.heap _
    exact ⟨rfl, N16⟩
set_option maxRecDepth 65536 in
set_option maxHeartbeats 40000000 in
theorem rm0_1 (l : Launch) (Z : State) (a0 : Array Value) (hw : ∀ d ∈ tables_1, d.before a0 Z = true) (ws : List Jvm.Cond) (q1 : Int64) (q2 : Int64) (q3 : Int64) (q4 : Int64) (p5 : Int32) (h0 : Heap) (n0 : Nat) (Z0 : n0 ≤ h0.size) (O0 : Old Z n0 h0) (S_P : Sta Z Z.heap "com/example/slotwise/slotwise/engine/Resources" "PROCESSORS" "I" (.int (0 : Int32))) (bL : Addr) (kL : ClassId) (S_L : Sta Z Z.heap "com/example/slotwise/slotwise/engine/Resources" "LEAST" "[J" (.ref bL)) (V_L : Arv Z Z.heap bL kL .long (2 : Int32) [(.long (1 : Int64)), (.long (0 : Int64))] (.long (0 : Int64))) (hc158 : ¬ ((lcmpW (own_pA q1 p5) (1 : Int64)) < (0 : Int32))) (hc165 : (lcmpW (own_pB q2 p5) (0 : Int64)) < (0 : Int32)) :
    MetFree l x (head1 (Jvm.Cond.code x code maxLocals ret :: ws) room_1) (fun a U => a = #[(.long q1), (.long q2), (.long q3), (.long q4), (.int p5)] ∧ Z.Warmed39 U.vm ∧ U.heap = h0) (fun _ _ _ _ _ => True) (fun _ U o U' => ∃ v L, o = .returned v ∧ Q0 Z q1 q2 q3 q4 p5 h0 n0 v U'.heap L ∧ FrameEnd U o U' L room_1.cells room_1.slots) := by
  refine MetFree.of_bodySF (plainFor_of_name pn_0) hisR ?_
  intro p e s m args below meth c s₁ Bd hml0 hP hK
  obtain ⟨rfl, hZ, hh⟩ := hP
  have hx := Bd.exec
  have hby := Bd.bytes
  have hml : c.maxLocals = 22 := hml0
  have hown : s.vm.findClass "com/example/slotwise/slotwise/engine/ResourcesCanRunOnPinLaw" = some m.cls := findClass_of_methodNamed Bd.named
  have hnm := (name_of_methodNamed Bd.named Bd.method).1
  have X0 : Stand p l e room_1 s m #[(.long q1), (.long q2), (.long q3), (.long q4), (.int p5)] below meth c s₁ [] 0 0 := Stand.of_body Bd
  have e0 : s₁.heap = h0 := by rw [← hh, Bd.state]; rfl
  have N0 := Fr.nil n0
  have pre0 : ∀ t, Steps p.tables e below (s₁.setTop (mkF m 98 #[.val (.long q1), .second, .val (.long q2), .second, .val (.long q3), .second, .val (.long q4), .second, .val (.int p5), .val (.long (own_pA q1 p5)), .second, .val (.long (own_pB q2 p5)), .second, .val (.long (own_pC q1 q3 p5)), .second, .val (.long (own_pD q2 q4 p5)), .second, .unset, .unset, .unset, .unset, .unset] [])) t → Steps p.tables e below (s₁.setTop (entryFrame m #[(.long q1), (.long q2), (.long q3), (.long q4), (.int p5)] maxLocals)) t := fun t k => castTop (ef_0 m q1 q2 q3 q4 p5) (pcs_A q1 q2 q3 q4 p5 X0 hx hby t (pcs_B q1 q2 q3 q4 p5 X0 hx hby t (pcs_C q1 q2 q3 q4 p5 X0 hx hby t (pcs_D q1 q2 q3 q4 p5 X0 hx hby t k))))
  obtain ⟨T6, h6, k6, X6, e6, E6, A6, st6⟩ := newP X0 hx hZ (hw _ (List.mem_of_getElem? (i := 0) rfl)) e0 (g := (mkF m 99 #[.val (.long q1), .second, .val (.long q2), .second, .val (.long q3), .second, .val (.long q4), .second, .val (.int p5), .val (.long (own_pA q1 p5)), .second, .val (.long (own_pB q2 p5)), .second, .val (.long (own_pC q1 q3 p5)), .second, .val (.long (own_pD q2 q4 p5)), .second, .unset, .unset, .unset, .unset, .unset] [(.int (2 : Int32))])) rfl (hb hby at_99) rfl (by decide) (cap := 2) (by decide) (by decide) (by decide) (by decide)
  obtain ⟨b6, g6⟩ : ∃ z, z = h0.size := ⟨_, rfl⟩
  rw [← g6] at A6 st6
  have V_b6 : Arv Z h6 b6 k6 .long (2 : Int32) [(.long (0 : Int64)), (.long (0 : Int64))] (.long (0 : Int64)) := (Arv.new A6 (by decide)).pad (pad_rep [] (.long (0 : Int64)) 2)
  have g_b6 : n0 ≤ b6 := Nat.le_trans Z0 (Nat.le_of_eq g6.symm)
  have sz_b6 : h0.size ≤ b6 := (Nat.le_trans (Keep.refl h0 []).1 (Nat.le_of_eq g6.symm))
  have K6 : Keep h0 h6 [] := (Keep.refl h0 []).ext E6
  obtain ⟨cl_b6_108, Ar_b6, q_b6, S_b6, N_b6, H_b6, G_b6⟩ := V_b6
  have hin108 : ¬ ((0 : Int32) < 0 ∨ cl_b6_108.slots.size ≤ ((0 : Int32)).toNatClampNeg) := inb_of S_b6 ⟨by decide, by decide⟩
  obtain ⟨T7, h7, X7, e7, W7, st7⟩ := stJ X6 hx hZ e6 Ar_b6 (j := (0 : Int32)) hin108 (g := (mkF m 108 #[.val (.long q1), .second, .val (.long q2), .second, .val (.long q3), .second, .val (.long q4), .second, .val (.int p5), .val (.long (own_pA q1 p5)), .second, .val (.long (own_pB q2 p5)), .second, .val (.long (own_pC q1 q3 p5)), .second, .val (.long (own_pD q2 q4 p5)), .second, .val (.ref b6), .unset, .unset, .unset, .unset] [(.long (own_pA q1 p5)), (.int (0 : Int32)), (.ref b6)])) rfl rfl (hb hby at_108)
  have V_b6_7 := Arv.set Ar_b6 q_b6 S_b6 N_b6 H_b6 G_b6 rfl W7 0 rfl (Nat.le_of_ble_eq_true rfl)
  have K7 : Keep h0 h7 [] := K6.wr W7 (Or.inr sz_b6)
  have N7 := Fr.snoc X7 N0 g_b6
  obtain ⟨cl_b6_114, Ar_b6, q_b6, S_b6, N_b6, H_b6, G_b6⟩ := V_b6_7
  have hin114 : ¬ ((1 : Int32) < 0 ∨ cl_b6_114.slots.size ≤ ((1 : Int32)).toNatClampNeg) := inb_of S_b6 ⟨by decide, by decide⟩
  obtain ⟨T8, h8, X8, e8, W8, st8⟩ := stJ X7 hx hZ e7 Ar_b6 (j := (1 : Int32)) hin114 (g := (mkF m 114 #[.val (.long q1), .second, .val (.long q2), .second, .val (.long q3), .second, .val (.long q4), .second, .val (.int p5), .val (.long (own_pA q1 p5)), .second, .val (.long (own_pB q2 p5)), .second, .val (.long (own_pC q1 q3 p5)), .second, .val (.long (own_pD q2 q4 p5)), .second, .val (.ref b6), .unset, .unset, .unset, .unset] [(.long (own_pB q2 p5)), (.int (1 : Int32)), (.ref b6)])) rfl rfl (hb hby at_114)
  have V_b6_8 := Arv.set Ar_b6 q_b6 S_b6 N_b6 H_b6 G_b6 rfl W8 1 rfl (Nat.le_of_ble_eq_true rfl)
  have K8 : Keep h0 h8 [] := K7.wr W8 (Or.inr sz_b6)
  have N8 := Fr.snoc X8 N7 g_b6
  obtain ⟨T9, h9, k9, X9, e9, E9, A9, st9⟩ := newP X8 hx hZ (hw _ (List.mem_of_getElem? (i := 0) rfl)) e8 (g := (mkF m 116 #[.val (.long q1), .second, .val (.long q2), .second, .val (.long q3), .second, .val (.long q4), .second, .val (.int p5), .val (.long (own_pA q1 p5)), .second, .val (.long (own_pB q2 p5)), .second, .val (.long (own_pC q1 q3 p5)), .second, .val (.long (own_pD q2 q4 p5)), .second, .val (.ref b6), .unset, .unset, .unset, .unset] [(.int (2 : Int32))])) rfl (hb hby at_116) rfl (by decide) (cap := 2) (by decide) (by decide) (by decide) (by decide)
  obtain ⟨b9, g9⟩ : ∃ z, z = h8.size := ⟨_, rfl⟩
  rw [← g9] at A9 st9
  have V_b9 : Arv Z h9 b9 k9 .long (2 : Int32) [(.long (0 : Int64)), (.long (0 : Int64))] (.long (0 : Int64)) := (Arv.new A9 (by decide)).pad (pad_rep [] (.long (0 : Int64)) 2)
  have g_b9 : n0 ≤ b9 := Nat.le_trans (Nat.le_trans (Nat.le_trans (Nat.le_trans Z0 E6.1) (Keep.of_wr W7).1) (Keep.of_wr W8).1) (Nat.le_of_eq g9.symm)
  have sz_b9 : h0.size ≤ b9 := (Nat.le_trans K8.1 (Nat.le_of_eq g9.symm))
  have K9 : Keep h0 h9 [] := K8.ext E9
  obtain ⟨cl_b9_125, Ar_b9, q_b9, S_b9, N_b9, H_b9, G_b9⟩ := V_b9
  have hin125 : ¬ ((0 : Int32) < 0 ∨ cl_b9_125.slots.size ≤ ((0 : Int32)).toNatClampNeg) := inb_of S_b9 ⟨by decide, by decide⟩
  obtain ⟨T10, h10, X10, e10, W10, st10⟩ := stJ X9 hx hZ e9 Ar_b9 (j := (0 : Int32)) hin125 (g := (mkF m 125 #[.val (.long q1), .second, .val (.long q2), .second, .val (.long q3), .second, .val (.long q4), .second, .val (.int p5), .val (.long (own_pA q1 p5)), .second, .val (.long (own_pB q2 p5)), .second, .val (.long (own_pC q1 q3 p5)), .second, .val (.long (own_pD q2 q4 p5)), .second, .val (.ref b6), .val (.ref b9), .unset, .unset, .unset] [(.long (own_pC q1 q3 p5)), (.int (0 : Int32)), (.ref b9)])) rfl rfl (hb hby at_125)
  have V_b9_10 := Arv.set Ar_b9 q_b9 S_b9 N_b9 H_b9 G_b9 rfl W10 0 rfl (Nat.le_of_ble_eq_true rfl)
  have K10 : Keep h0 h10 [] := K9.wr W10 (Or.inr sz_b9)
  have N10 := Fr.snoc X10 N8 g_b9
  obtain ⟨cl_b9_131, Ar_b9, q_b9, S_b9, N_b9, H_b9, G_b9⟩ := V_b9_10
  have hin131 : ¬ ((1 : Int32) < 0 ∨ cl_b9_131.slots.size ≤ ((1 : Int32)).toNatClampNeg) := inb_of S_b9 ⟨by decide, by decide⟩
  obtain ⟨T11, h11, X11, e11, W11, st11⟩ := stJ X10 hx hZ e10 Ar_b9 (j := (1 : Int32)) hin131 (g := (mkF m 131 #[.val (.long q1), .second, .val (.long q2), .second, .val (.long q3), .second, .val (.long q4), .second, .val (.int p5), .val (.long (own_pA q1 p5)), .second, .val (.long (own_pB q2 p5)), .second, .val (.long (own_pC q1 q3 p5)), .second, .val (.long (own_pD q2 q4 p5)), .second, .val (.ref b6), .val (.ref b9), .unset, .unset, .unset] [(.long (own_pD q2 q4 p5)), (.int (1 : Int32)), (.ref b9)])) rfl rfl (hb hby at_131)
  have V_b9_11 := Arv.set Ar_b9 q_b9 S_b9 N_b9 H_b9 G_b9 rfl W11 1 rfl (Nat.le_of_ble_eq_true rfl)
  have K11 : Keep h0 h11 [] := K10.wr W11 (Or.inr sz_b9)
  have N11 := Fr.snoc X11 N10 g_b9
  obtain ⟨T12, h12, X12, e12, E12, A12, D12, -, st12⟩ := newO X11 hx hZ hown (hw _ (List.mem_of_getElem? (i := 1) rfl)) (hw _ (List.mem_of_getElem? (i := 2) rfl)) (hw _ (List.mem_of_getElem? (i := 3) rfl)) e11 (g := (mkF m 132 #[.val (.long q1), .second, .val (.long q2), .second, .val (.long q3), .second, .val (.long q4), .second, .val (.int p5), .val (.long (own_pA q1 p5)), .second, .val (.long (own_pB q2 p5)), .second, .val (.long (own_pC q1 q3 p5)), .second, .val (.long (own_pD q2 q4 p5)), .second, .val (.ref b6), .val (.ref b9), .unset, .unset, .unset] [])) rfl (hb hby at_132) (by decide) (by decide)
  obtain ⟨b12, g12⟩ : ∃ z, z = h11.size := ⟨_, rfl⟩
  rw [← g12] at A12 D12 st12
  have F_amounts_b12 : Fld Z h12 b12 "com/example/slotwise/slotwise/engine/Resources" "amounts" "[J" .null := D12 (Or.inr (hw _ (List.mem_of_getElem? (i := 11) rfl))) (ty := (.array .long)) (by decide)
  have F_processorsAlone_b12 : Fld Z h12 b12 "com/example/slotwise/slotwise/engine/Resources" "processorsAlone" "Z" (.int (0 : Int32)) := D12 (Or.inr (hw _ (List.mem_of_getElem? (i := 15) rfl))) (ty := .boolean) (by decide)
  have E_b12 := A12
  have g_b12 : n0 ≤ b12 := Nat.le_trans (Nat.le_trans (Nat.le_trans (Nat.le_trans (Nat.le_trans (Nat.le_trans (Nat.le_trans Z0 E6.1) (Keep.of_wr W7).1) (Keep.of_wr W8).1) E9.1) (Keep.of_wr W10).1) (Keep.of_wr W11).1) (Nat.le_of_eq g12.symm)
  have sz_b12 : h0.size ≤ b12 := (Nat.le_trans K11.1 (Nat.le_of_eq g12.symm))
  have K12 : Keep h0 h12 [] := K11.ext E12
  have l_b6_b9 : b6 < b9 := by rw [g9]; exact V_b6_8.lt
  have l_b9_b12 : b9 < b12 := by rw [g12]; exact V_b9_11.lt
  have m_b6_b9 : b6 ≠ b9 := by omega
  have m_b6_b12 : b6 ≠ b12 := by omega
  have m_b9_b12 : b9 ≠ b12 := by omega
  have O12 : Old Z n0 h12 := ((((((O0.ext E6).wr W7 g_b6).wr W8 g_b6).ext E9).wr W10 g_b9).wr W11 g_b9).ext E12
  have Zc13 : n0 ≤ h12.size := by have q := O12.2.1; rw [O12.1] at q; exact q
  have VA12 := ((((V_b6_8.ext E9).other W10 (m_b6_b9)).other W11 (m_b6_b9)).ext E12)
  have VB12 := V_b9_11.ext E12
  obtain ⟨_, _, ⟨T13, L13, k13, n13⟩, -, X13, ⟨Lc13, hQ13, l13, y13, z13⟩, st13⟩ := X12.specialBack hx (y := (⟨"com/example/slotwise/slotwise/engine/Resources", "<init>", "([J)V"⟩ : MethodName)) rfl hown (mvT hZ (hw _ (List.mem_of_getElem? (i := 4) rfl))) (mvT hZ (hw _ (List.mem_of_getElem? (i := 5) rfl))) (mvT hZ (hw _ (List.mem_of_getElem? (i := 6) rfl))) (by decide) (backOf (W := 1) (rmC l Z a0 hw [] b12 b6 k6 (own_pA q1 p5) (own_pB q2 p5) h12 n0 Zc13 E_b12 F_amounts_b12 F_processorsAlone_b12 g_b12 VA12 (S_P.ext O12.2) m_b6_b12) hZ (hw _ (List.mem_of_getElem? (i := 6) rfl)) (hw _ (List.mem_of_getElem? (i := 3) rfl)) (by decide) (by decide)) (g := (mkF m 138 #[.val (.long q1), .second, .val (.long q2), .second, .val (.long q3), .second, .val (.long q4), .second, .val (.int p5), .val (.long (own_pA q1 p5)), .second, .val (.long (own_pB q2 p5)), .second, .val (.long (own_pC q1 q3 p5)), .second, .val (.long (own_pD q2 q4 p5)), .second, .val (.ref b6), .val (.ref b9), .unset, .unset, .unset] [(.ref b6), (.ref b12), (.ref b12)])) rfl (by rw [hml]; rfl) (Steps.refl _) (a := b12) (argsL := [(.ref b6)]) (rest := [(.ref b12)]) (lenOf pd_0_0 rfl) rfl (by show 2 * 0 + _ ≤ _; exact Nat.le_of_eq rfl) (hb hby at_138) (fun _ _ => ⟨rfl, e12, (by decide : 3 + 0 ≤ _), (by decide : 6 + 0 ≤ _)⟩)
  dsimp only [Pt.U, Pt.locs, Pt.cells, Pt.slots] at X13 l13 y13 z13 st13 hQ13
  subst l13 y13 z13
  obtain ⟨rfl, N13q, Kc13, Yc13, Fc13⟩ := hQ13
  have O13 : Old Z n0 T13.heap := O12.keep Kc13 (fun x hx => by rw [List.mem_singleton.mp hx]; exact g_b12)
  have KT13 : Keep h0 T13.heap [] := K12.trans Kc13 (own_allge sz_b12)
  have VA13 := VA12.keep Kc13 (own_notin m_b6_b12)
  have VB13 := VB12.keep Kc13 (own_notin m_b9_b12)
  have N13 := Fr.app N11 N13q
  obtain ⟨T14, h14, X14, e14, E14, A14, D14, -, st14⟩ := newO X13 hx hZ hown (hw _ (List.mem_of_getElem? (i := 1) rfl)) (hw _ (List.mem_of_getElem? (i := 2) rfl)) (hw _ (List.mem_of_getElem? (i := 3) rfl)) rfl (g := (mkF m 143 #[.val (.long q1), .second, .val (.long q2), .second, .val (.long q3), .second, .val (.long q4), .second, .val (.int p5), .val (.long (own_pA q1 p5)), .second, .val (.long (own_pB q2 p5)), .second, .val (.long (own_pC q1 q3 p5)), .second, .val (.long (own_pD q2 q4 p5)), .second, .val (.ref b6), .val (.ref b9), .val (.ref b12), .unset, .unset] [])) rfl (hb hby at_143) (by decide) (by decide)
  obtain ⟨b14, g14⟩ : ∃ z, z = T13.heap.size := ⟨_, rfl⟩
  rw [← g14] at A14 D14 st14
  have F_amounts_b14 : Fld Z h14 b14 "com/example/slotwise/slotwise/engine/Resources" "amounts" "[J" .null := D14 (Or.inr (hw _ (List.mem_of_getElem? (i := 11) rfl))) (ty := (.array .long)) (by decide)
  have F_processorsAlone_b14 : Fld Z h14 b14 "com/example/slotwise/slotwise/engine/Resources" "processorsAlone" "Z" (.int (0 : Int32)) := D14 (Or.inr (hw _ (List.mem_of_getElem? (i := 15) rfl))) (ty := .boolean) (by decide)
  have E_b14 := A14
  have g_b14 : n0 ≤ b14 := Nat.le_trans (Nat.le_trans (Nat.le_trans (Nat.le_trans (Nat.le_trans (Nat.le_trans (Nat.le_trans (Nat.le_trans (Nat.le_trans Z0 E6.1) (Keep.of_wr W7).1) (Keep.of_wr W8).1) E9.1) (Keep.of_wr W10).1) (Keep.of_wr W11).1) E12.1) Kc13.1) (Nat.le_of_eq g14.symm)
  have sz_b14 : h0.size ≤ b14 := (Nat.le_trans KT13.1 (Nat.le_of_eq g14.symm))
  have K14 : Keep h0 h14 [] := KT13.ext E14
  have l_b12_b14 : b12 < b14 := by rw [g14]; exact Yc13.lt
  have m_b6_b14 : b6 ≠ b14 := by omega
  have m_b9_b14 : b9 ≠ b14 := by omega
  have m_b12_b14 : b12 ≠ b14 := by omega
  have O14 : Old Z n0 h14 := O13.ext E14
  have Zc15 : n0 ≤ h14.size := by have q := O14.2.1; rw [O14.1] at q; exact q
  obtain ⟨_, _, ⟨T15, L15, k15, n15⟩, -, X15, ⟨Lc15, hQ15, l15, y15, z15⟩, st15⟩ := X14.specialBack hx (y := (⟨"com/example/slotwise/slotwise/engine/Resources", "<init>", "([J)V"⟩ : MethodName)) rfl hown (mvT hZ (hw _ (List.mem_of_getElem? (i := 4) rfl))) (mvT hZ (hw _ (List.mem_of_getElem? (i := 5) rfl))) (mvT hZ (hw _ (List.mem_of_getElem? (i := 6) rfl))) (by decide) (backOf (W := 1) (rmC l Z a0 hw [] b14 b9 k9 (own_pC q1 q3 p5) (own_pD q2 q4 p5) h14 n0 Zc15 E_b14 F_amounts_b14 F_processorsAlone_b14 g_b14 (VB13.ext E14) (S_P.ext O14.2) m_b9_b14) hZ (hw _ (List.mem_of_getElem? (i := 6) rfl)) (hw _ (List.mem_of_getElem? (i := 3) rfl)) (by decide) (by decide)) (g := (mkF m 149 #[.val (.long q1), .second, .val (.long q2), .second, .val (.long q3), .second, .val (.long q4), .second, .val (.int p5), .val (.long (own_pA q1 p5)), .second, .val (.long (own_pB q2 p5)), .second, .val (.long (own_pC q1 q3 p5)), .second, .val (.long (own_pD q2 q4 p5)), .second, .val (.ref b6), .val (.ref b9), .val (.ref b12), .unset, .unset] [(.ref b9), (.ref b14), (.ref b14)])) rfl (by rw [hml]; rfl) (Steps.refl _) (a := b14) (argsL := [(.ref b9)]) (rest := [(.ref b14)]) (lenOf pd_0_0 rfl) rfl (by show 2 * 0 + _ ≤ _; exact Nat.le_of_eq rfl) (hb hby at_149) (fun _ _ => ⟨rfl, e14, (by decide : 4 + 0 ≤ _), (by decide : 8 + 0 ≤ _)⟩)
  dsimp only [Pt.U, Pt.locs, Pt.cells, Pt.slots] at X15 l15 y15 z15 st15 hQ15
  subst l15 y15 z15
  obtain ⟨rfl, N15q, Kc15, Yc15, Fc15⟩ := hQ15
  have O15 : Old Z n0 T15.heap := O14.keep Kc15 (fun x hx => by rw [List.mem_singleton.mp hx]; exact g_b14)
  have VA15 := (VA13.ext E14).keep Kc15 (own_notin m_b6_b14)
  have VB15 := (VB13.ext E14).keep Kc15 (own_notin m_b9_b14)
  have GA15 := (Fc13.ext E14).keep Kc15 (own_notin m_b12_b14)
  have Zl : n0 ≤ T15.heap.size := by have q := O15.2.1; rw [O15.1] at q; exact q
  have N15 := Fr.app N13 N15q
  obtain ⟨cq16, kq16, q16a, q16b, q16c⟩ := isOf hZ rfl (((E_b12.keep Kc13).ext E14).keep Kc15)
  obtain ⟨_, _, ⟨T16, L16, k16, n16⟩, -, X16, ⟨Lc16, hQ16, l16, y16, z16⟩, st16⟩ := X15.virtualBack hx (y := (⟨"com/example/slotwise/slotwise/engine/Resources", "canRunOn", "(Lcom/example/slotwise/slotwise/engine/Resources;)Z"⟩ : MethodName)) (z := (⟨"com/example/slotwise/slotwise/engine/Resources", "canRunOn", "(Lcom/example/slotwise/slotwise/engine/Resources;)Z"⟩ : MethodName)) hown (mvT hZ (hw _ (List.mem_of_getElem? (i := 16) rfl))) (mvT hZ (hw _ (List.mem_of_getElem? (i := 17) rfl))) (notFace_of_selects (args := #[]) (mvT hZ (hw _ (List.mem_of_getElem? (i := 19) rfl)))) (mvT hZ (hw _ (List.mem_of_getElem? (i := 19) rfl))) (mvT hZ (hw _ (List.mem_of_getElem? (i := 18) rfl))) (by decide) (backOf (W := 0) (rmR0 l Z a0 hw [] b12 b14 b6 b9 bL k6 k9 kL (own_pA q1 p5) (own_pB q2 p5) (own_pC q1 q3 p5) (own_pD q2 q4 p5) T15.heap n0 Zl GA15 Fc15 (S_L.ext O15.2) VA15 VB15 (V_L.ext O15.2) (Or.inr (Or.inl hc165))) hZ (hw _ (List.mem_of_getElem? (i := 20) rfl)) (hw _ (List.mem_of_getElem? (i := 3) rfl)) (by decide) (by decide)) q16a q16c (g := (mkF m 195 #[.val (.long q1), .second, .val (.long q2), .second, .val (.long q3), .second, .val (.long q4), .second, .val (.int p5), .val (.long (own_pA q1 p5)), .second, .val (.long (own_pB q2 p5)), .second, .val (.long (own_pC q1 q3 p5)), .second, .val (.long (own_pD q2 q4 p5)), .second, .val (.ref b6), .val (.ref b9), .val (.ref b12), .val (.ref b14), .val (.int (0 : Int32))] [(.ref b14), (.ref b12)])) rfl (by rw [hml]; rfl) (Steps.refl _) (argsL := [(.ref b14)]) (rest := []) (lenOf pd_0_2 rfl) rfl (by show 2 * 0 + _ ≤ _; exact Nat.le_of_eq rfl) (hb hby at_195) (fun _ _ => ⟨rfl, rfl, (by decide : 4 + 0 ≤ _), (by decide : 8 + 0 ≤ _)⟩)
  dsimp only [Pt.U, Pt.locs, Pt.cells, Pt.slots] at X16 l16 y16 z16 st16 hQ16
  subst l16 y16 z16
  obtain ⟨rfl, N16q, e16q⟩ := hQ16
  have N16 := Fr.app N15 N16q
  obtain ⟨fs, hr, hrun, hended, hW, hsame⟩ := X16.leave (v := some (.int (1 : Int32))) (fun h => by rw [Bd.returns] at h; cases h)
  refine ⟨_, _, pre0 _ ?_, hrun, hended, _, _, rfl, ?_, ⟨_, rfl⟩, hW, hsame.mono (by decide) (by decide)⟩
  · show Steps p.tables e below (s₁.setTop (mkF m 98 #[.val (.long q1), .second, .val (.long q2), .second, .val (.long q3), .second, .val (.long q4), .second, .val (.int p5), .val (.long (own_pA q1 p5)), .second, .val (.long (own_pB q2 p5)), .second, .val (.long (own_pC q1 q3 p5)), .second, .val (.long (own_pD q2 q4 p5)), .second, .unset, .unset, .unset, .unset, .unset] [])) _
    refine XS.iconst X0.here hx rfl (hb hby at_98) ?_
    show Steps p.tables e below (s₁.setTop (mkF m 99 #[.val (.long q1), .second, .val (.long q2), .second, .val (.long q3), .second, .val (.long q4), .second, .val (.int p5), .val (.long (own_pA q1 p5)), .second, .val (.long (own_pB q2 p5)), .second, .val (.long (own_pC q1 q3 p5)), .second, .val (.long (own_pD q2 q4 p5)), .second, .unset, .unset, .unset, .unset, .unset] [(.int (2 : Int32))])) _
    refine st6 _ ?_
    show Steps p.tables e below (T6.setTop (mkF m 101 #[.val (.long q1), .second, .val (.long q2), .second, .val (.long q3), .second, .val (.long q4), .second, .val (.int p5), .val (.long (own_pA q1 p5)), .second, .val (.long (own_pB q2 p5)), .second, .val (.long (own_pC q1 q3 p5)), .second, .val (.long (own_pD q2 q4 p5)), .second, .unset, .unset, .unset, .unset, .unset] [(.ref b6)])) _
    refine XS.astore X6.here hx rfl (hb hby at_101) rfl rfl (l' := #[.val (.long q1), .second, .val (.long q2), .second, .val (.long q3), .second, .val (.long q4), .second, .val (.int p5), .val (.long (own_pA q1 p5)), .second, .val (.long (own_pB q2 p5)), .second, .val (.long (own_pC q1 q3 p5)), .second, .val (.long (own_pD q2 q4 p5)), .second, .val (.ref b6), .unset, .unset, .unset, .unset]) rfl ?_
    show Steps p.tables e below (T6.setTop (mkF m 103 #[.val (.long q1), .second, .val (.long q2), .second, .val (.long q3), .second, .val (.long q4), .second, .val (.int p5), .val (.long (own_pA q1 p5)), .second, .val (.long (own_pB q2 p5)), .second, .val (.long (own_pC q1 q3 p5)), .second, .val (.long (own_pD q2 q4 p5)), .second, .val (.ref b6), .unset, .unset, .unset, .unset] [])) _
    refine XS.aload X6.here hx rfl (hb hby at_103) rfl rfl ?_
    show Steps p.tables e below (T6.setTop (mkF m 105 #[.val (.long q1), .second, .val (.long q2), .second, .val (.long q3), .second, .val (.long q4), .second, .val (.int p5), .val (.long (own_pA q1 p5)), .second, .val (.long (own_pB q2 p5)), .second, .val (.long (own_pC q1 q3 p5)), .second, .val (.long (own_pD q2 q4 p5)), .second, .val (.ref b6), .unset, .unset, .unset, .unset] [(.ref b6)])) _
    refine XS.iconst X6.here hx rfl (hb hby at_105) ?_
    show Steps p.tables e below (T6.setTop (mkF m 106 #[.val (.long q1), .second, .val (.long q2), .second, .val (.long q3), .second, .val (.long q4), .second, .val (.int p5), .val (.long (own_pA q1 p5)), .second, .val (.long (own_pB q2 p5)), .second, .val (.long (own_pC q1 q3 p5)), .second, .val (.long (own_pD q2 q4 p5)), .second, .val (.ref b6), .unset, .unset, .unset, .unset] [(.int (0 : Int32)), (.ref b6)])) _
    refine XS.lload X6.here hx rfl (hb hby at_106) rfl ?_
    show Steps p.tables e below (T6.setTop (mkF m 108 #[.val (.long q1), .second, .val (.long q2), .second, .val (.long q3), .second, .val (.long q4), .second, .val (.int p5), .val (.long (own_pA q1 p5)), .second, .val (.long (own_pB q2 p5)), .second, .val (.long (own_pC q1 q3 p5)), .second, .val (.long (own_pD q2 q4 p5)), .second, .val (.ref b6), .unset, .unset, .unset, .unset] [(.long (own_pA q1 p5)), (.int (0 : Int32)), (.ref b6)])) _
    refine st7 _ ?_
    show Steps p.tables e below (T7.setTop (mkF m 109 #[.val (.long q1), .second, .val (.long q2), .second, .val (.long q3), .second, .val (.long q4), .second, .val (.int p5), .val (.long (own_pA q1 p5)), .second, .val (.long (own_pB q2 p5)), .second, .val (.long (own_pC q1 q3 p5)), .second, .val (.long (own_pD q2 q4 p5)), .second, .val (.ref b6), .unset, .unset, .unset, .unset] [])) _
    refine XS.aload X7.here hx rfl (hb hby at_109) rfl rfl ?_
    show Steps p.tables e below (T7.setTop (mkF m 111 #[.val (.long q1), .second, .val (.long q2), .second, .val (.long q3), .second, .val (.long q4), .second, .val (.int p5), .val (.long (own_pA q1 p5)), .second, .val (.long (own_pB q2 p5)), .second, .val (.long (own_pC q1 q3 p5)), .second, .val (.long (own_pD q2 q4 p5)), .second, .val (.ref b6), .unset, .unset, .unset, .unset] [(.ref b6)])) _
    refine XS.iconst X7.here hx rfl (hb hby at_111) ?_
    show Steps p.tables e below (T7.setTop (mkF m 112 #[.val (.long q1), .second, .val (.long q2), .second, .val (.long q3), .second, .val (.long q4), .second, .val (.int p5), .val (.long (own_pA q1 p5)), .second, .val (.long (own_pB q2 p5)), .second, .val (.long (own_pC q1 q3 p5)), .second, .val (.long (own_pD q2 q4 p5)), .second, .val (.ref b6), .unset, .unset, .unset, .unset] [(.int (1 : Int32)), (.ref b6)])) _
    refine XS.lload X7.here hx rfl (hb hby at_112) rfl ?_
    show Steps p.tables e below (T7.setTop (mkF m 114 #[.val (.long q1), .second, .val (.long q2), .second, .val (.long q3), .second, .val (.long q4), .second, .val (.int p5), .val (.long (own_pA q1 p5)), .second, .val (.long (own_pB q2 p5)), .second, .val (.long (own_pC q1 q3 p5)), .second, .val (.long (own_pD q2 q4 p5)), .second, .val (.ref b6), .unset, .unset, .unset, .unset] [(.long (own_pB q2 p5)), (.int (1 : Int32)), (.ref b6)])) _
    refine st8 _ ?_
    show Steps p.tables e below (T8.setTop (mkF m 115 #[.val (.long q1), .second, .val (.long q2), .second, .val (.long q3), .second, .val (.long q4), .second, .val (.int p5), .val (.long (own_pA q1 p5)), .second, .val (.long (own_pB q2 p5)), .second, .val (.long (own_pC q1 q3 p5)), .second, .val (.long (own_pD q2 q4 p5)), .second, .val (.ref b6), .unset, .unset, .unset, .unset] [])) _
    refine XS.iconst X8.here hx rfl (hb hby at_115) ?_
    show Steps p.tables e below (T8.setTop (mkF m 116 #[.val (.long q1), .second, .val (.long q2), .second, .val (.long q3), .second, .val (.long q4), .second, .val (.int p5), .val (.long (own_pA q1 p5)), .second, .val (.long (own_pB q2 p5)), .second, .val (.long (own_pC q1 q3 p5)), .second, .val (.long (own_pD q2 q4 p5)), .second, .val (.ref b6), .unset, .unset, .unset, .unset] [(.int (2 : Int32))])) _
    refine st9 _ ?_
    show Steps p.tables e below (T9.setTop (mkF m 118 #[.val (.long q1), .second, .val (.long q2), .second, .val (.long q3), .second, .val (.long q4), .second, .val (.int p5), .val (.long (own_pA q1 p5)), .second, .val (.long (own_pB q2 p5)), .second, .val (.long (own_pC q1 q3 p5)), .second, .val (.long (own_pD q2 q4 p5)), .second, .val (.ref b6), .unset, .unset, .unset, .unset] [(.ref b9)])) _
    refine XS.astore X9.here hx rfl (hb hby at_118) rfl rfl (l' := #[.val (.long q1), .second, .val (.long q2), .second, .val (.long q3), .second, .val (.long q4), .second, .val (.int p5), .val (.long (own_pA q1 p5)), .second, .val (.long (own_pB q2 p5)), .second, .val (.long (own_pC q1 q3 p5)), .second, .val (.long (own_pD q2 q4 p5)), .second, .val (.ref b6), .val (.ref b9), .unset, .unset, .unset]) rfl ?_
    show Steps p.tables e below (T9.setTop (mkF m 120 #[.val (.long q1), .second, .val (.long q2), .second, .val (.long q3), .second, .val (.long q4), .second, .val (.int p5), .val (.long (own_pA q1 p5)), .second, .val (.long (own_pB q2 p5)), .second, .val (.long (own_pC q1 q3 p5)), .second, .val (.long (own_pD q2 q4 p5)), .second, .val (.ref b6), .val (.ref b9), .unset, .unset, .unset] [])) _
    refine XS.aload X9.here hx rfl (hb hby at_120) rfl rfl ?_
    show Steps p.tables e below (T9.setTop (mkF m 122 #[.val (.long q1), .second, .val (.long q2), .second, .val (.long q3), .second, .val (.long q4), .second, .val (.int p5), .val (.long (own_pA q1 p5)), .second, .val (.long (own_pB q2 p5)), .second, .val (.long (own_pC q1 q3 p5)), .second, .val (.long (own_pD q2 q4 p5)), .second, .val (.ref b6), .val (.ref b9), .unset, .unset, .unset] [(.ref b9)])) _
    refine XS.iconst X9.here hx rfl (hb hby at_122) ?_
    show Steps p.tables e below (T9.setTop (mkF m 123 #[.val (.long q1), .second, .val (.long q2), .second, .val (.long q3), .second, .val (.long q4), .second, .val (.int p5), .val (.long (own_pA q1 p5)), .second, .val (.long (own_pB q2 p5)), .second, .val (.long (own_pC q1 q3 p5)), .second, .val (.long (own_pD q2 q4 p5)), .second, .val (.ref b6), .val (.ref b9), .unset, .unset, .unset] [(.int (0 : Int32)), (.ref b9)])) _
    refine XS.lload X9.here hx rfl (hb hby at_123) rfl ?_
    show Steps p.tables e below (T9.setTop (mkF m 125 #[.val (.long q1), .second, .val (.long q2), .second, .val (.long q3), .second, .val (.long q4), .second, .val (.int p5), .val (.long (own_pA q1 p5)), .second, .val (.long (own_pB q2 p5)), .second, .val (.long (own_pC q1 q3 p5)), .second, .val (.long (own_pD q2 q4 p5)), .second, .val (.ref b6), .val (.ref b9), .unset, .unset, .unset] [(.long (own_pC q1 q3 p5)), (.int (0 : Int32)), (.ref b9)])) _
    refine st10 _ ?_
    show Steps p.tables e below (T10.setTop (mkF m 126 #[.val (.long q1), .second, .val (.long q2), .second, .val (.long q3), .second, .val (.long q4), .second, .val (.int p5), .val (.long (own_pA q1 p5)), .second, .val (.long (own_pB q2 p5)), .second, .val (.long (own_pC q1 q3 p5)), .second, .val (.long (own_pD q2 q4 p5)), .second, .val (.ref b6), .val (.ref b9), .unset, .unset, .unset] [])) _
    refine XS.aload X10.here hx rfl (hb hby at_126) rfl rfl ?_
    show Steps p.tables e below (T10.setTop (mkF m 128 #[.val (.long q1), .second, .val (.long q2), .second, .val (.long q3), .second, .val (.long q4), .second, .val (.int p5), .val (.long (own_pA q1 p5)), .second, .val (.long (own_pB q2 p5)), .second, .val (.long (own_pC q1 q3 p5)), .second, .val (.long (own_pD q2 q4 p5)), .second, .val (.ref b6), .val (.ref b9), .unset, .unset, .unset] [(.ref b9)])) _
    refine XS.iconst X10.here hx rfl (hb hby at_128) ?_
    show Steps p.tables e below (T10.setTop (mkF m 129 #[.val (.long q1), .second, .val (.long q2), .second, .val (.long q3), .second, .val (.long q4), .second, .val (.int p5), .val (.long (own_pA q1 p5)), .second, .val (.long (own_pB q2 p5)), .second, .val (.long (own_pC q1 q3 p5)), .second, .val (.long (own_pD q2 q4 p5)), .second, .val (.ref b6), .val (.ref b9), .unset, .unset, .unset] [(.int (1 : Int32)), (.ref b9)])) _
    refine XS.lload X10.here hx rfl (hb hby at_129) rfl ?_
    show Steps p.tables e below (T10.setTop (mkF m 131 #[.val (.long q1), .second, .val (.long q2), .second, .val (.long q3), .second, .val (.long q4), .second, .val (.int p5), .val (.long (own_pA q1 p5)), .second, .val (.long (own_pB q2 p5)), .second, .val (.long (own_pC q1 q3 p5)), .second, .val (.long (own_pD q2 q4 p5)), .second, .val (.ref b6), .val (.ref b9), .unset, .unset, .unset] [(.long (own_pD q2 q4 p5)), (.int (1 : Int32)), (.ref b9)])) _
    refine st11 _ ?_
    show Steps p.tables e below (T11.setTop (mkF m 132 #[.val (.long q1), .second, .val (.long q2), .second, .val (.long q3), .second, .val (.long q4), .second, .val (.int p5), .val (.long (own_pA q1 p5)), .second, .val (.long (own_pB q2 p5)), .second, .val (.long (own_pC q1 q3 p5)), .second, .val (.long (own_pD q2 q4 p5)), .second, .val (.ref b6), .val (.ref b9), .unset, .unset, .unset] [])) _
    refine st12 _ ?_
    show Steps p.tables e below (T12.setTop (mkF m 135 #[.val (.long q1), .second, .val (.long q2), .second, .val (.long q3), .second, .val (.long q4), .second, .val (.int p5), .val (.long (own_pA q1 p5)), .second, .val (.long (own_pB q2 p5)), .second, .val (.long (own_pC q1 q3 p5)), .second, .val (.long (own_pD q2 q4 p5)), .second, .val (.ref b6), .val (.ref b9), .unset, .unset, .unset] [(.ref b12)])) _
    refine XS.dup X12.here hx rfl (hb hby at_135) rfl rfl ?_
    show Steps p.tables e below (T12.setTop (mkF m 136 #[.val (.long q1), .second, .val (.long q2), .second, .val (.long q3), .second, .val (.long q4), .second, .val (.int p5), .val (.long (own_pA q1 p5)), .second, .val (.long (own_pB q2 p5)), .second, .val (.long (own_pC q1 q3 p5)), .second, .val (.long (own_pD q2 q4 p5)), .second, .val (.ref b6), .val (.ref b9), .unset, .unset, .unset] [(.ref b12), (.ref b12)])) _
    refine XS.aload X12.here hx rfl (hb hby at_136) rfl rfl ?_
    show Steps p.tables e below (T12.setTop (mkF m 138 #[.val (.long q1), .second, .val (.long q2), .second, .val (.long q3), .second, .val (.long q4), .second, .val (.int p5), .val (.long (own_pA q1 p5)), .second, .val (.long (own_pB q2 p5)), .second, .val (.long (own_pC q1 q3 p5)), .second, .val (.long (own_pD q2 q4 p5)), .second, .val (.ref b6), .val (.ref b9), .unset, .unset, .unset] [(.ref b6), (.ref b12), (.ref b12)])) _
    refine st13.trans ?_
    show Steps p.tables e below (T13.setTop (mkF m 141 #[.val (.long q1), .second, .val (.long q2), .second, .val (.long q3), .second, .val (.long q4), .second, .val (.int p5), .val (.long (own_pA q1 p5)), .second, .val (.long (own_pB q2 p5)), .second, .val (.long (own_pC q1 q3 p5)), .second, .val (.long (own_pD q2 q4 p5)), .second, .val (.ref b6), .val (.ref b9), .unset, .unset, .unset] [(.ref b12)])) _
    refine XS.astore X13.here hx rfl (hb hby at_141) rfl rfl (l' := #[.val (.long q1), .second, .val (.long q2), .second, .val (.long q3), .second, .val (.long q4), .second, .val (.int p5), .val (.long (own_pA q1 p5)), .second, .val (.long (own_pB q2 p5)), .second, .val (.long (own_pC q1 q3 p5)), .second, .val (.long (own_pD q2 q4 p5)), .second, .val (.ref b6), .val (.ref b9), .val (.ref b12), .unset, .unset]) rfl ?_
    show Steps p.tables e below (T13.setTop (mkF m 143 #[.val (.long q1), .second, .val (.long q2), .second, .val (.long q3), .second, .val (.long q4), .second, .val (.int p5), .val (.long (own_pA q1 p5)), .second, .val (.long (own_pB q2 p5)), .second, .val (.long (own_pC q1 q3 p5)), .second, .val (.long (own_pD q2 q4 p5)), .second, .val (.ref b6), .val (.ref b9), .val (.ref b12), .unset, .unset] [])) _
    refine st14 _ ?_
    show Steps p.tables e below (T14.setTop (mkF m 146 #[.val (.long q1), .second, .val (.long q2), .second, .val (.long q3), .second, .val (.long q4), .second, .val (.int p5), .val (.long (own_pA q1 p5)), .second, .val (.long (own_pB q2 p5)), .second, .val (.long (own_pC q1 q3 p5)), .second, .val (.long (own_pD q2 q4 p5)), .second, .val (.ref b6), .val (.ref b9), .val (.ref b12), .unset, .unset] [(.ref b14)])) _
    refine XS.dup X14.here hx rfl (hb hby at_146) rfl rfl ?_
    show Steps p.tables e below (T14.setTop (mkF m 147 #[.val (.long q1), .second, .val (.long q2), .second, .val (.long q3), .second, .val (.long q4), .second, .val (.int p5), .val (.long (own_pA q1 p5)), .second, .val (.long (own_pB q2 p5)), .second, .val (.long (own_pC q1 q3 p5)), .second, .val (.long (own_pD q2 q4 p5)), .second, .val (.ref b6), .val (.ref b9), .val (.ref b12), .unset, .unset] [(.ref b14), (.ref b14)])) _
    refine XS.aload X14.here hx rfl (hb hby at_147) rfl rfl ?_
    show Steps p.tables e below (T14.setTop (mkF m 149 #[.val (.long q1), .second, .val (.long q2), .second, .val (.long q3), .second, .val (.long q4), .second, .val (.int p5), .val (.long (own_pA q1 p5)), .second, .val (.long (own_pB q2 p5)), .second, .val (.long (own_pC q1 q3 p5)), .second, .val (.long (own_pD q2 q4 p5)), .second, .val (.ref b6), .val (.ref b9), .val (.ref b12), .unset, .unset] [(.ref b9), (.ref b14), (.ref b14)])) _
    refine st15.trans ?_
    show Steps p.tables e below (T15.setTop (mkF m 152 #[.val (.long q1), .second, .val (.long q2), .second, .val (.long q3), .second, .val (.long q4), .second, .val (.int p5), .val (.long (own_pA q1 p5)), .second, .val (.long (own_pB q2 p5)), .second, .val (.long (own_pC q1 q3 p5)), .second, .val (.long (own_pD q2 q4 p5)), .second, .val (.ref b6), .val (.ref b9), .val (.ref b12), .unset, .unset] [(.ref b14)])) _
    refine XS.astore X15.here hx rfl (hb hby at_152) rfl rfl (l' := #[.val (.long q1), .second, .val (.long q2), .second, .val (.long q3), .second, .val (.long q4), .second, .val (.int p5), .val (.long (own_pA q1 p5)), .second, .val (.long (own_pB q2 p5)), .second, .val (.long (own_pC q1 q3 p5)), .second, .val (.long (own_pD q2 q4 p5)), .second, .val (.ref b6), .val (.ref b9), .val (.ref b12), .val (.ref b14), .unset]) rfl ?_
    show Steps p.tables e below (T15.setTop (mkF m 154 #[.val (.long q1), .second, .val (.long q2), .second, .val (.long q3), .second, .val (.long q4), .second, .val (.int p5), .val (.long (own_pA q1 p5)), .second, .val (.long (own_pB q2 p5)), .second, .val (.long (own_pC q1 q3 p5)), .second, .val (.long (own_pD q2 q4 p5)), .second, .val (.ref b6), .val (.ref b9), .val (.ref b12), .val (.ref b14), .unset] [])) _
    refine XS.lload X15.here hx rfl (hb hby at_154) rfl ?_
    show Steps p.tables e below (T15.setTop (mkF m 156 #[.val (.long q1), .second, .val (.long q2), .second, .val (.long q3), .second, .val (.long q4), .second, .val (.int p5), .val (.long (own_pA q1 p5)), .second, .val (.long (own_pB q2 p5)), .second, .val (.long (own_pC q1 q3 p5)), .second, .val (.long (own_pD q2 q4 p5)), .second, .val (.ref b6), .val (.ref b9), .val (.ref b12), .val (.ref b14), .unset] [(.long (own_pA q1 p5))])) _
    refine XS.lconst X15.here hx rfl (hb hby at_156) ?_
    show Steps p.tables e below (T15.setTop (mkF m 157 #[.val (.long q1), .second, .val (.long q2), .second, .val (.long q3), .second, .val (.long q4), .second, .val (.int p5), .val (.long (own_pA q1 p5)), .second, .val (.long (own_pB q2 p5)), .second, .val (.long (own_pC q1 q3 p5)), .second, .val (.long (own_pD q2 q4 p5)), .second, .val (.ref b6), .val (.ref b9), .val (.ref b12), .val (.ref b14), .unset] [(.long (1 : Int64)), (.long (own_pA q1 p5))])) _
    refine XS.lcmp X15.here hx rfl (hb hby at_157) rfl ?_
    show Steps p.tables e below (T15.setTop (mkF m 158 #[.val (.long q1), .second, .val (.long q2), .second, .val (.long q3), .second, .val (.long q4), .second, .val (.int p5), .val (.long (own_pA q1 p5)), .second, .val (.long (own_pB q2 p5)), .second, .val (.long (own_pC q1 q3 p5)), .second, .val (.long (own_pD q2 q4 p5)), .second, .val (.ref b6), .val (.ref b9), .val (.ref b12), .val (.ref b14), .unset] [(.int (lcmpW (own_pA q1 p5) (1 : Int64)))])) _
    refine XS.ifNo X15.here hx rfl (hb hby at_158) rfl ((if0 _ _).trans (flt hc158).1) ?_
    show Steps p.tables e below (T15.setTop (mkF m 161 #[.val (.long q1), .second, .val (.long q2), .second, .val (.long q3), .second, .val (.long q4), .second, .val (.int p5), .val (.long (own_pA q1 p5)), .second, .val (.long (own_pB q2 p5)), .second, .val (.long (own_pC q1 q3 p5)), .second, .val (.long (own_pD q2 q4 p5)), .second, .val (.ref b6), .val (.ref b9), .val (.ref b12), .val (.ref b14), .unset] [])) _
    refine XS.lload X15.here hx rfl (hb hby at_161) rfl ?_
    show Steps p.tables e below (T15.setTop (mkF m 163 #[.val (.long q1), .second, .val (.long q2), .second, .val (.long q3), .second, .val (.long q4), .second, .val (.int p5), .val (.long (own_pA q1 p5)), .second, .val (.long (own_pB q2 p5)), .second, .val (.long (own_pC q1 q3 p5)), .second, .val (.long (own_pD q2 q4 p5)), .second, .val (.ref b6), .val (.ref b9), .val (.ref b12), .val (.ref b14), .unset] [(.long (own_pB q2 p5))])) _
    refine XS.lconst X15.here hx rfl (hb hby at_163) ?_
    show Steps p.tables e below (T15.setTop (mkF m 164 #[.val (.long q1), .second, .val (.long q2), .second, .val (.long q3), .second, .val (.long q4), .second, .val (.int p5), .val (.long (own_pA q1 p5)), .second, .val (.long (own_pB q2 p5)), .second, .val (.long (own_pC q1 q3 p5)), .second, .val (.long (own_pD q2 q4 p5)), .second, .val (.ref b6), .val (.ref b9), .val (.ref b12), .val (.ref b14), .unset] [(.long (0 : Int64)), (.long (own_pB q2 p5))])) _
    refine XS.lcmp X15.here hx rfl (hb hby at_164) rfl ?_
    show Steps p.tables e below (T15.setTop (mkF m 165 #[.val (.long q1), .second, .val (.long q2), .second, .val (.long q3), .second, .val (.long q4), .second, .val (.int p5), .val (.long (own_pA q1 p5)), .second, .val (.long (own_pB q2 p5)), .second, .val (.long (own_pC q1 q3 p5)), .second, .val (.long (own_pD q2 q4 p5)), .second, .val (.ref b6), .val (.ref b9), .val (.ref b12), .val (.ref b14), .unset] [(.int (lcmpW (own_pB q2 p5) (0 : Int64)))])) _
    refine XS.ifYes X15.here hx rfl (pc0 := 165) (pc' := 188) rfl (hb hby at_165) rfl ((if0 _ _).trans (tlt hc165).1) (by decide) (by decide) ?_
    show Steps p.tables e below (T15.setTop (mkF m 188 #[.val (.long q1), .second, .val (.long q2), .second, .val (.long q3), .second, .val (.long q4), .second, .val (.int p5), .val (.long (own_pA q1 p5)), .second, .val (.long (own_pB q2 p5)), .second, .val (.long (own_pC q1 q3 p5)), .second, .val (.long (own_pD q2 q4 p5)), .second, .val (.ref b6), .val (.ref b9), .val (.ref b12), .val (.ref b14), .unset] [])) _
    refine XS.iconst X15.here hx rfl (hb hby at_188) ?_
    show Steps p.tables e below (T15.setTop (mkF m 189 #[.val (.long q1), .second, .val (.long q2), .second, .val (.long q3), .second, .val (.long q4), .second, .val (.int p5), .val (.long (own_pA q1 p5)), .second, .val (.long (own_pB q2 p5)), .second, .val (.long (own_pC q1 q3 p5)), .second, .val (.long (own_pD q2 q4 p5)), .second, .val (.ref b6), .val (.ref b9), .val (.ref b12), .val (.ref b14), .unset] [(.int (0 : Int32))])) _
    refine XS.istore X15.here hx rfl (hb hby at_189) rfl (l' := #[.val (.long q1), .second, .val (.long q2), .second, .val (.long q3), .second, .val (.long q4), .second, .val (.int p5), .val (.long (own_pA q1 p5)), .second, .val (.long (own_pB q2 p5)), .second, .val (.long (own_pC q1 q3 p5)), .second, .val (.long (own_pD q2 q4 p5)), .second, .val (.ref b6), .val (.ref b9), .val (.ref b12), .val (.ref b14), .val (.int (0 : Int32))]) rfl ?_
    show Steps p.tables e below (T15.setTop (mkF m 191 #[.val (.long q1), .second, .val (.long q2), .second, .val (.long q3), .second, .val (.long q4), .second, .val (.int p5), .val (.long (own_pA q1 p5)), .second, .val (.long (own_pB q2 p5)), .second, .val (.long (own_pC q1 q3 p5)), .second, .val (.long (own_pD q2 q4 p5)), .second, .val (.ref b6), .val (.ref b9), .val (.ref b12), .val (.ref b14), .val (.int (0 : Int32))] [])) _
    refine XS.aload X15.here hx rfl (hb hby at_191) rfl rfl ?_
    show Steps p.tables e below (T15.setTop (mkF m 193 #[.val (.long q1), .second, .val (.long q2), .second, .val (.long q3), .second, .val (.long q4), .second, .val (.int p5), .val (.long (own_pA q1 p5)), .second, .val (.long (own_pB q2 p5)), .second, .val (.long (own_pC q1 q3 p5)), .second, .val (.long (own_pD q2 q4 p5)), .second, .val (.ref b6), .val (.ref b9), .val (.ref b12), .val (.ref b14), .val (.int (0 : Int32))] [(.ref b12)])) _
    refine XS.aload X15.here hx rfl (hb hby at_193) rfl rfl ?_
    show Steps p.tables e below (T15.setTop (mkF m 195 #[.val (.long q1), .second, .val (.long q2), .second, .val (.long q3), .second, .val (.long q4), .second, .val (.int p5), .val (.long (own_pA q1 p5)), .second, .val (.long (own_pB q2 p5)), .second, .val (.long (own_pC q1 q3 p5)), .second, .val (.long (own_pD q2 q4 p5)), .second, .val (.ref b6), .val (.ref b9), .val (.ref b12), .val (.ref b14), .val (.int (0 : Int32))] [(.ref b14), (.ref b12)])) _
    refine st16.trans ?_
    show Steps p.tables e below (T16.setTop (mkF m 198 #[.val (.long q1), .second, .val (.long q2), .second, .val (.long q3), .second, .val (.long q4), .second, .val (.int p5), .val (.long (own_pA q1 p5)), .second, .val (.long (own_pB q2 p5)), .second, .val (.long (own_pC q1 q3 p5)), .second, .val (.long (own_pD q2 q4 p5)), .second, .val (.ref b6), .val (.ref b9), .val (.ref b12), .val (.ref b14), .val (.int (0 : Int32))] [(.int (0 : Int32))])) _
    refine XS.iload X16.here hx rfl (hb hby at_198) rfl ?_
    show Steps p.tables e below (T16.setTop (mkF m 200 #[.val (.long q1), .second, .val (.long q2), .second, .val (.long q3), .second, .val (.long q4), .second, .val (.int p5), .val (.long (own_pA q1 p5)), .second, .val (.long (own_pB q2 p5)), .second, .val (.long (own_pC q1 q3 p5)), .second, .val (.long (own_pD q2 q4 p5)), .second, .val (.ref b6), .val (.ref b9), .val (.ref b12), .val (.ref b14), .val (.int (0 : Int32))] [(.int (0 : Int32)), (.int (0 : Int32))])) _
    refine XS.icmpNo X16.here hx rfl (hb hby at_200) rfl (teq (rfl : (0 : Int32) = (0 : Int32))).2 ?_
    show Steps p.tables e below (T16.setTop (mkF m 203 #[.val (.long q1), .second, .val (.long q2), .second, .val (.long q3), .second, .val (.long q4), .second, .val (.int p5), .val (.long (own_pA q1 p5)), .second, .val (.long (own_pB q2 p5)), .second, .val (.long (own_pC q1 q3 p5)), .second, .val (.long (own_pD q2 q4 p5)), .second, .val (.ref b6), .val (.ref b9), .val (.ref b12), .val (.ref b14), .val (.int (0 : Int32))] [])) _
    refine XS.iconst X16.here hx rfl (hb hby at_203) ?_
    show Steps p.tables e below (T16.setTop (mkF m 204 #[.val (.long q1), .second, .val (.long q2), .second, .val (.long q3), .second, .val (.long q4), .second, .val (.int p5), .val (.long (own_pA q1 p5)), .second, .val (.long (own_pB q2 p5)), .second, .val (.long (own_pC q1 q3 p5)), .second, .val (.long (own_pD q2 q4 p5)), .second, .val (.ref b6), .val (.ref b9), .val (.ref b12), .val (.ref b14), .val (.int (0 : Int32))] [(.int (1 : Int32))])) _
    refine XS.goto X16.here hx rfl (pc0 := 204) (pc' := 208) rfl (hb hby at_204) (by decide) (by decide) ?_
    show Steps p.tables e below (T16.setTop (mkF m 208 #[.val (.long q1), .second, .val (.long q2), .second, .val (.long q3), .second, .val (.long q4), .second, .val (.int p5), .val (.long (own_pA q1 p5)), .second, .val (.long (own_pB q2 p5)), .second, .val (.long (own_pC q1 q3 p5)), .second, .val (.long (own_pD q2 q4 p5)), .second, .val (.ref b6), .val (.ref b9), .val (.ref b12), .val (.ref b14), .val (.int (0 : Int32))] [(.int (1 : Int32))])) _
    exact retN X16 hx (t := .boolean) Bd.returns (by simp) (hb hby at_208) hr
  · show Q0 Z q1 q2 q3 q4 p5 h0 n0 _ T16.heap _
    exact ⟨rfl, N16⟩
set_option maxRecDepth 65536 in
set_option maxHeartbeats 40000000 in
theorem rm0_2 (l : Launch) (Z : State) (a0 : Array Value) (hw : ∀ d ∈ tables_1, d.before a0 Z = true) (ws : List Jvm.Cond) (q1 : Int64) (q2 : Int64) (q3 : Int64) (q4 : Int64) (p5 : Int32) (h0 : Heap) (n0 : Nat) (Z0 : n0 ≤ h0.size) (O0 : Old Z n0 h0) (S_P : Sta Z Z.heap "com/example/slotwise/slotwise/engine/Resources" "PROCESSORS" "I" (.int (0 : Int32))) (bL : Addr) (kL : ClassId) (S_L : Sta Z Z.heap "com/example/slotwise/slotwise/engine/Resources" "LEAST" "[J" (.ref bL)) (V_L : Arv Z Z.heap bL kL .long (2 : Int32) [(.long (1 : Int64)), (.long (0 : Int64))] (.long (0 : Int64))) (hc158 : ¬ ((lcmpW (own_pA q1 p5) (1 : Int64)) < (0 : Int32))) (hc165 : ¬ ((lcmpW (own_pB q2 p5) (0 : Int64)) < (0 : Int32))) (hc173 : (0 : Int32) < (lcmpW (own_pA q1 p5) (own_pC q1 q3 p5))) :
    MetFree l x (head1 (Jvm.Cond.code x code maxLocals ret :: ws) room_1) (fun a U => a = #[(.long q1), (.long q2), (.long q3), (.long q4), (.int p5)] ∧ Z.Warmed39 U.vm ∧ U.heap = h0) (fun _ _ _ _ _ => True) (fun _ U o U' => ∃ v L, o = .returned v ∧ Q0 Z q1 q2 q3 q4 p5 h0 n0 v U'.heap L ∧ FrameEnd U o U' L room_1.cells room_1.slots) := by
  refine MetFree.of_bodySF (plainFor_of_name pn_0) hisR ?_
  intro p e s m args below meth c s₁ Bd hml0 hP hK
  obtain ⟨rfl, hZ, hh⟩ := hP
  have hx := Bd.exec
  have hby := Bd.bytes
  have hml : c.maxLocals = 22 := hml0
  have hown : s.vm.findClass "com/example/slotwise/slotwise/engine/ResourcesCanRunOnPinLaw" = some m.cls := findClass_of_methodNamed Bd.named
  have hnm := (name_of_methodNamed Bd.named Bd.method).1
  have X0 : Stand p l e room_1 s m #[(.long q1), (.long q2), (.long q3), (.long q4), (.int p5)] below meth c s₁ [] 0 0 := Stand.of_body Bd
  have e0 : s₁.heap = h0 := by rw [← hh, Bd.state]; rfl
  have N0 := Fr.nil n0
  have pre0 : ∀ t, Steps p.tables e below (s₁.setTop (mkF m 98 #[.val (.long q1), .second, .val (.long q2), .second, .val (.long q3), .second, .val (.long q4), .second, .val (.int p5), .val (.long (own_pA q1 p5)), .second, .val (.long (own_pB q2 p5)), .second, .val (.long (own_pC q1 q3 p5)), .second, .val (.long (own_pD q2 q4 p5)), .second, .unset, .unset, .unset, .unset, .unset] [])) t → Steps p.tables e below (s₁.setTop (entryFrame m #[(.long q1), (.long q2), (.long q3), (.long q4), (.int p5)] maxLocals)) t := fun t k => castTop (ef_0 m q1 q2 q3 q4 p5) (pcs_A q1 q2 q3 q4 p5 X0 hx hby t (pcs_B q1 q2 q3 q4 p5 X0 hx hby t (pcs_C q1 q2 q3 q4 p5 X0 hx hby t (pcs_D q1 q2 q3 q4 p5 X0 hx hby t k))))
  obtain ⟨T6, h6, k6, X6, e6, E6, A6, st6⟩ := newP X0 hx hZ (hw _ (List.mem_of_getElem? (i := 0) rfl)) e0 (g := (mkF m 99 #[.val (.long q1), .second, .val (.long q2), .second, .val (.long q3), .second, .val (.long q4), .second, .val (.int p5), .val (.long (own_pA q1 p5)), .second, .val (.long (own_pB q2 p5)), .second, .val (.long (own_pC q1 q3 p5)), .second, .val (.long (own_pD q2 q4 p5)), .second, .unset, .unset, .unset, .unset, .unset] [(.int (2 : Int32))])) rfl (hb hby at_99) rfl (by decide) (cap := 2) (by decide) (by decide) (by decide) (by decide)
  obtain ⟨b6, g6⟩ : ∃ z, z = h0.size := ⟨_, rfl⟩
  rw [← g6] at A6 st6
  have V_b6 : Arv Z h6 b6 k6 .long (2 : Int32) [(.long (0 : Int64)), (.long (0 : Int64))] (.long (0 : Int64)) := (Arv.new A6 (by decide)).pad (pad_rep [] (.long (0 : Int64)) 2)
  have g_b6 : n0 ≤ b6 := Nat.le_trans Z0 (Nat.le_of_eq g6.symm)
  have sz_b6 : h0.size ≤ b6 := (Nat.le_trans (Keep.refl h0 []).1 (Nat.le_of_eq g6.symm))
  have K6 : Keep h0 h6 [] := (Keep.refl h0 []).ext E6
  obtain ⟨cl_b6_108, Ar_b6, q_b6, S_b6, N_b6, H_b6, G_b6⟩ := V_b6
  have hin108 : ¬ ((0 : Int32) < 0 ∨ cl_b6_108.slots.size ≤ ((0 : Int32)).toNatClampNeg) := inb_of S_b6 ⟨by decide, by decide⟩
  obtain ⟨T7, h7, X7, e7, W7, st7⟩ := stJ X6 hx hZ e6 Ar_b6 (j := (0 : Int32)) hin108 (g := (mkF m 108 #[.val (.long q1), .second, .val (.long q2), .second, .val (.long q3), .second, .val (.long q4), .second, .val (.int p5), .val (.long (own_pA q1 p5)), .second, .val (.long (own_pB q2 p5)), .second, .val (.long (own_pC q1 q3 p5)), .second, .val (.long (own_pD q2 q4 p5)), .second, .val (.ref b6), .unset, .unset, .unset, .unset] [(.long (own_pA q1 p5)), (.int (0 : Int32)), (.ref b6)])) rfl rfl (hb hby at_108)
  have V_b6_7 := Arv.set Ar_b6 q_b6 S_b6 N_b6 H_b6 G_b6 rfl W7 0 rfl (Nat.le_of_ble_eq_true rfl)
  have K7 : Keep h0 h7 [] := K6.wr W7 (Or.inr sz_b6)
  have N7 := Fr.snoc X7 N0 g_b6
  obtain ⟨cl_b6_114, Ar_b6, q_b6, S_b6, N_b6, H_b6, G_b6⟩ := V_b6_7
  have hin114 : ¬ ((1 : Int32) < 0 ∨ cl_b6_114.slots.size ≤ ((1 : Int32)).toNatClampNeg) := inb_of S_b6 ⟨by decide, by decide⟩
  obtain ⟨T8, h8, X8, e8, W8, st8⟩ := stJ X7 hx hZ e7 Ar_b6 (j := (1 : Int32)) hin114 (g := (mkF m 114 #[.val (.long q1), .second, .val (.long q2), .second, .val (.long q3), .second, .val (.long q4), .second, .val (.int p5), .val (.long (own_pA q1 p5)), .second, .val (.long (own_pB q2 p5)), .second, .val (.long (own_pC q1 q3 p5)), .second, .val (.long (own_pD q2 q4 p5)), .second, .val (.ref b6), .unset, .unset, .unset, .unset] [(.long (own_pB q2 p5)), (.int (1 : Int32)), (.ref b6)])) rfl rfl (hb hby at_114)
  have V_b6_8 := Arv.set Ar_b6 q_b6 S_b6 N_b6 H_b6 G_b6 rfl W8 1 rfl (Nat.le_of_ble_eq_true rfl)
  have K8 : Keep h0 h8 [] := K7.wr W8 (Or.inr sz_b6)
  have N8 := Fr.snoc X8 N7 g_b6
  obtain ⟨T9, h9, k9, X9, e9, E9, A9, st9⟩ := newP X8 hx hZ (hw _ (List.mem_of_getElem? (i := 0) rfl)) e8 (g := (mkF m 116 #[.val (.long q1), .second, .val (.long q2), .second, .val (.long q3), .second, .val (.long q4), .second, .val (.int p5), .val (.long (own_pA q1 p5)), .second, .val (.long (own_pB q2 p5)), .second, .val (.long (own_pC q1 q3 p5)), .second, .val (.long (own_pD q2 q4 p5)), .second, .val (.ref b6), .unset, .unset, .unset, .unset] [(.int (2 : Int32))])) rfl (hb hby at_116) rfl (by decide) (cap := 2) (by decide) (by decide) (by decide) (by decide)
  obtain ⟨b9, g9⟩ : ∃ z, z = h8.size := ⟨_, rfl⟩
  rw [← g9] at A9 st9
  have V_b9 : Arv Z h9 b9 k9 .long (2 : Int32) [(.long (0 : Int64)), (.long (0 : Int64))] (.long (0 : Int64)) := (Arv.new A9 (by decide)).pad (pad_rep [] (.long (0 : Int64)) 2)
  have g_b9 : n0 ≤ b9 := Nat.le_trans (Nat.le_trans (Nat.le_trans (Nat.le_trans Z0 E6.1) (Keep.of_wr W7).1) (Keep.of_wr W8).1) (Nat.le_of_eq g9.symm)
  have sz_b9 : h0.size ≤ b9 := (Nat.le_trans K8.1 (Nat.le_of_eq g9.symm))
  have K9 : Keep h0 h9 [] := K8.ext E9
  obtain ⟨cl_b9_125, Ar_b9, q_b9, S_b9, N_b9, H_b9, G_b9⟩ := V_b9
  have hin125 : ¬ ((0 : Int32) < 0 ∨ cl_b9_125.slots.size ≤ ((0 : Int32)).toNatClampNeg) := inb_of S_b9 ⟨by decide, by decide⟩
  obtain ⟨T10, h10, X10, e10, W10, st10⟩ := stJ X9 hx hZ e9 Ar_b9 (j := (0 : Int32)) hin125 (g := (mkF m 125 #[.val (.long q1), .second, .val (.long q2), .second, .val (.long q3), .second, .val (.long q4), .second, .val (.int p5), .val (.long (own_pA q1 p5)), .second, .val (.long (own_pB q2 p5)), .second, .val (.long (own_pC q1 q3 p5)), .second, .val (.long (own_pD q2 q4 p5)), .second, .val (.ref b6), .val (.ref b9), .unset, .unset, .unset] [(.long (own_pC q1 q3 p5)), (.int (0 : Int32)), (.ref b9)])) rfl rfl (hb hby at_125)
  have V_b9_10 := Arv.set Ar_b9 q_b9 S_b9 N_b9 H_b9 G_b9 rfl W10 0 rfl (Nat.le_of_ble_eq_true rfl)
  have K10 : Keep h0 h10 [] := K9.wr W10 (Or.inr sz_b9)
  have N10 := Fr.snoc X10 N8 g_b9
  obtain ⟨cl_b9_131, Ar_b9, q_b9, S_b9, N_b9, H_b9, G_b9⟩ := V_b9_10
  have hin131 : ¬ ((1 : Int32) < 0 ∨ cl_b9_131.slots.size ≤ ((1 : Int32)).toNatClampNeg) := inb_of S_b9 ⟨by decide, by decide⟩
  obtain ⟨T11, h11, X11, e11, W11, st11⟩ := stJ X10 hx hZ e10 Ar_b9 (j := (1 : Int32)) hin131 (g := (mkF m 131 #[.val (.long q1), .second, .val (.long q2), .second, .val (.long q3), .second, .val (.long q4), .second, .val (.int p5), .val (.long (own_pA q1 p5)), .second, .val (.long (own_pB q2 p5)), .second, .val (.long (own_pC q1 q3 p5)), .second, .val (.long (own_pD q2 q4 p5)), .second, .val (.ref b6), .val (.ref b9), .unset, .unset, .unset] [(.long (own_pD q2 q4 p5)), (.int (1 : Int32)), (.ref b9)])) rfl rfl (hb hby at_131)
  have V_b9_11 := Arv.set Ar_b9 q_b9 S_b9 N_b9 H_b9 G_b9 rfl W11 1 rfl (Nat.le_of_ble_eq_true rfl)
  have K11 : Keep h0 h11 [] := K10.wr W11 (Or.inr sz_b9)
  have N11 := Fr.snoc X11 N10 g_b9
  obtain ⟨T12, h12, X12, e12, E12, A12, D12, -, st12⟩ := newO X11 hx hZ hown (hw _ (List.mem_of_getElem? (i := 1) rfl)) (hw _ (List.mem_of_getElem? (i := 2) rfl)) (hw _ (List.mem_of_getElem? (i := 3) rfl)) e11 (g := (mkF m 132 #[.val (.long q1), .second, .val (.long q2), .second, .val (.long q3), .second, .val (.long q4), .second, .val (.int p5), .val (.long (own_pA q1 p5)), .second, .val (.long (own_pB q2 p5)), .second, .val (.long (own_pC q1 q3 p5)), .second, .val (.long (own_pD q2 q4 p5)), .second, .val (.ref b6), .val (.ref b9), .unset, .unset, .unset] [])) rfl (hb hby at_132) (by decide) (by decide)
  obtain ⟨b12, g12⟩ : ∃ z, z = h11.size := ⟨_, rfl⟩
  rw [← g12] at A12 D12 st12
  have F_amounts_b12 : Fld Z h12 b12 "com/example/slotwise/slotwise/engine/Resources" "amounts" "[J" .null := D12 (Or.inr (hw _ (List.mem_of_getElem? (i := 11) rfl))) (ty := (.array .long)) (by decide)
  have F_processorsAlone_b12 : Fld Z h12 b12 "com/example/slotwise/slotwise/engine/Resources" "processorsAlone" "Z" (.int (0 : Int32)) := D12 (Or.inr (hw _ (List.mem_of_getElem? (i := 15) rfl))) (ty := .boolean) (by decide)
  have E_b12 := A12
  have g_b12 : n0 ≤ b12 := Nat.le_trans (Nat.le_trans (Nat.le_trans (Nat.le_trans (Nat.le_trans (Nat.le_trans (Nat.le_trans Z0 E6.1) (Keep.of_wr W7).1) (Keep.of_wr W8).1) E9.1) (Keep.of_wr W10).1) (Keep.of_wr W11).1) (Nat.le_of_eq g12.symm)
  have sz_b12 : h0.size ≤ b12 := (Nat.le_trans K11.1 (Nat.le_of_eq g12.symm))
  have K12 : Keep h0 h12 [] := K11.ext E12
  have l_b6_b9 : b6 < b9 := by rw [g9]; exact V_b6_8.lt
  have l_b9_b12 : b9 < b12 := by rw [g12]; exact V_b9_11.lt
  have m_b6_b9 : b6 ≠ b9 := by omega
  have m_b6_b12 : b6 ≠ b12 := by omega
  have m_b9_b12 : b9 ≠ b12 := by omega
  have O12 : Old Z n0 h12 := ((((((O0.ext E6).wr W7 g_b6).wr W8 g_b6).ext E9).wr W10 g_b9).wr W11 g_b9).ext E12
  have Zc13 : n0 ≤ h12.size := by have q := O12.2.1; rw [O12.1] at q; exact q
  have VA12 := ((((V_b6_8.ext E9).other W10 (m_b6_b9)).other W11 (m_b6_b9)).ext E12)
  have VB12 := V_b9_11.ext E12
  obtain ⟨_, _, ⟨T13, L13, k13, n13⟩, -, X13, ⟨Lc13, hQ13, l13, y13, z13⟩, st13⟩ := X12.specialBack hx (y := (⟨"com/example/slotwise/slotwise/engine/Resources", "<init>", "([J)V"⟩ : MethodName)) rfl hown (mvT hZ (hw _ (List.mem_of_getElem? (i := 4) rfl))) (mvT hZ (hw _ (List.mem_of_getElem? (i := 5) rfl))) (mvT hZ (hw _ (List.mem_of_getElem? (i := 6) rfl))) (by decide) (backOf (W := 1) (rmC l Z a0 hw [] b12 b6 k6 (own_pA q1 p5) (own_pB q2 p5) h12 n0 Zc13 E_b12 F_amounts_b12 F_processorsAlone_b12 g_b12 VA12 (S_P.ext O12.2) m_b6_b12) hZ (hw _ (List.mem_of_getElem? (i := 6) rfl)) (hw _ (List.mem_of_getElem? (i := 3) rfl)) (by decide) (by decide)) (g := (mkF m 138 #[.val (.long q1), .second, .val (.long q2), .second, .val (.long q3), .second, .val (.long q4), .second, .val (.int p5), .val (.long (own_pA q1 p5)), .second, .val (.long (own_pB q2 p5)), .second, .val (.long (own_pC q1 q3 p5)), .second, .val (.long (own_pD q2 q4 p5)), .second, .val (.ref b6), .val (.ref b9), .unset, .unset, .unset] [(.ref b6), (.ref b12), (.ref b12)])) rfl (by rw [hml]; rfl) (Steps.refl _) (a := b12) (argsL := [(.ref b6)]) (rest := [(.ref b12)]) (lenOf pd_0_0 rfl) rfl (by show 2 * 0 + _ ≤ _; exact Nat.le_of_eq rfl) (hb hby at_138) (fun _ _ => ⟨rfl, e12, (by decide : 3 + 0 ≤ _), (by decide : 6 + 0 ≤ _)⟩)
  dsimp only [Pt.U, Pt.locs, Pt.cells, Pt.slots] at X13 l13 y13 z13 st13 hQ13
  subst l13 y13 z13
  obtain ⟨rfl, N13q, Kc13, Yc13, Fc13⟩ := hQ13
  have O13 : Old Z n0 T13.heap := O12.keep Kc13 (fun x hx => by rw [List.mem_singleton.mp hx]; exact g_b12)
  have KT13 : Keep h0 T13.heap [] := K12.trans Kc13 (own_allge sz_b12)
  have VA13 := VA12.keep Kc13 (own_notin m_b6_b12)
  have VB13 := VB12.keep Kc13 (own_notin m_b9_b12)
  have N13 := Fr.app N11 N13q
  obtain ⟨T14, h14, X14, e14, E14, A14, D14, -, st14⟩ := newO X13 hx hZ hown (hw _ (List.mem_of_getElem? (i := 1) rfl)) (hw _ (List.mem_of_getElem? (i := 2) rfl)) (hw _ (List.mem_of_getElem? (i := 3) rfl)) rfl (g := (mkF m 143 #[.val (.long q1), .second, .val (.long q2), .second, .val (.long q3), .second, .val (.long q4), .second, .val (.int p5), .val (.long (own_pA q1 p5)), .second, .val (.long (own_pB q2 p5)), .second, .val (.long (own_pC q1 q3 p5)), .second, .val (.long (own_pD q2 q4 p5)), .second, .val (.ref b6), .val (.ref b9), .val (.ref b12), .unset, .unset] [])) rfl (hb hby at_143) (by decide) (by decide)
  obtain ⟨b14, g14⟩ : ∃ z, z = T13.heap.size := ⟨_, rfl⟩
  rw [← g14] at A14 D14 st14
  have F_amounts_b14 : Fld Z h14 b14 "com/example/slotwise/slotwise/engine/Resources" "amounts" "[J" .null := D14 (Or.inr (hw _ (List.mem_of_getElem? (i := 11) rfl))) (ty := (.array .long)) (by decide)
  have F_processorsAlone_b14 : Fld Z h14 b14 "com/example/slotwise/slotwise/engine/Resources" "processorsAlone" "Z" (.int (0 : Int32)) := D14 (Or.inr (hw _ (List.mem_of_getElem? (i := 15) rfl))) (ty := .boolean) (by decide)
  have E_b14 := A14
  have g_b14 : n0 ≤ b14 := Nat.le_trans (Nat.le_trans (Nat.le_trans (Nat.le_trans (Nat.le_trans (Nat.le_trans (Nat.le_trans (Nat.le_trans (Nat.le_trans Z0 E6.1) (Keep.of_wr W7).1) (Keep.of_wr W8).1) E9.1) (Keep.of_wr W10).1) (Keep.of_wr W11).1) E12.1) Kc13.1) (Nat.le_of_eq g14.symm)
  have sz_b14 : h0.size ≤ b14 := (Nat.le_trans KT13.1 (Nat.le_of_eq g14.symm))
  have K14 : Keep h0 h14 [] := KT13.ext E14
  have l_b12_b14 : b12 < b14 := by rw [g14]; exact Yc13.lt
  have m_b6_b14 : b6 ≠ b14 := by omega
  have m_b9_b14 : b9 ≠ b14 := by omega
  have m_b12_b14 : b12 ≠ b14 := by omega
  have O14 : Old Z n0 h14 := O13.ext E14
  have Zc15 : n0 ≤ h14.size := by have q := O14.2.1; rw [O14.1] at q; exact q
  obtain ⟨_, _, ⟨T15, L15, k15, n15⟩, -, X15, ⟨Lc15, hQ15, l15, y15, z15⟩, st15⟩ := X14.specialBack hx (y := (⟨"com/example/slotwise/slotwise/engine/Resources", "<init>", "([J)V"⟩ : MethodName)) rfl hown (mvT hZ (hw _ (List.mem_of_getElem? (i := 4) rfl))) (mvT hZ (hw _ (List.mem_of_getElem? (i := 5) rfl))) (mvT hZ (hw _ (List.mem_of_getElem? (i := 6) rfl))) (by decide) (backOf (W := 1) (rmC l Z a0 hw [] b14 b9 k9 (own_pC q1 q3 p5) (own_pD q2 q4 p5) h14 n0 Zc15 E_b14 F_amounts_b14 F_processorsAlone_b14 g_b14 (VB13.ext E14) (S_P.ext O14.2) m_b9_b14) hZ (hw _ (List.mem_of_getElem? (i := 6) rfl)) (hw _ (List.mem_of_getElem? (i := 3) rfl)) (by decide) (by decide)) (g := (mkF m 149 #[.val (.long q1), .second, .val (.long q2), .second, .val (.long q3), .second, .val (.long q4), .second, .val (.int p5), .val (.long (own_pA q1 p5)), .second, .val (.long (own_pB q2 p5)), .second, .val (.long (own_pC q1 q3 p5)), .second, .val (.long (own_pD q2 q4 p5)), .second, .val (.ref b6), .val (.ref b9), .val (.ref b12), .unset, .unset] [(.ref b9), (.ref b14), (.ref b14)])) rfl (by rw [hml]; rfl) (Steps.refl _) (a := b14) (argsL := [(.ref b9)]) (rest := [(.ref b14)]) (lenOf pd_0_0 rfl) rfl (by show 2 * 0 + _ ≤ _; exact Nat.le_of_eq rfl) (hb hby at_149) (fun _ _ => ⟨rfl, e14, (by decide : 4 + 0 ≤ _), (by decide : 8 + 0 ≤ _)⟩)
  dsimp only [Pt.U, Pt.locs, Pt.cells, Pt.slots] at X15 l15 y15 z15 st15 hQ15
  subst l15 y15 z15
  obtain ⟨rfl, N15q, Kc15, Yc15, Fc15⟩ := hQ15
  have O15 : Old Z n0 T15.heap := O14.keep Kc15 (fun x hx => by rw [List.mem_singleton.mp hx]; exact g_b14)
  have VA15 := (VA13.ext E14).keep Kc15 (own_notin m_b6_b14)
  have VB15 := (VB13.ext E14).keep Kc15 (own_notin m_b9_b14)
  have GA15 := (Fc13.ext E14).keep Kc15 (own_notin m_b12_b14)
  have Zl : n0 ≤ T15.heap.size := by have q := O15.2.1; rw [O15.1] at q; exact q
  have N15 := Fr.app N13 N15q
  obtain ⟨cq16, kq16, q16a, q16b, q16c⟩ := isOf hZ rfl (((E_b12.keep Kc13).ext E14).keep Kc15)
  obtain ⟨_, _, ⟨T16, L16, k16, n16⟩, -, X16, ⟨Lc16, hQ16, l16, y16, z16⟩, st16⟩ := X15.virtualBack hx (y := (⟨"com/example/slotwise/slotwise/engine/Resources", "canRunOn", "(Lcom/example/slotwise/slotwise/engine/Resources;)Z"⟩ : MethodName)) (z := (⟨"com/example/slotwise/slotwise/engine/Resources", "canRunOn", "(Lcom/example/slotwise/slotwise/engine/Resources;)Z"⟩ : MethodName)) hown (mvT hZ (hw _ (List.mem_of_getElem? (i := 16) rfl))) (mvT hZ (hw _ (List.mem_of_getElem? (i := 17) rfl))) (notFace_of_selects (args := #[]) (mvT hZ (hw _ (List.mem_of_getElem? (i := 19) rfl)))) (mvT hZ (hw _ (List.mem_of_getElem? (i := 19) rfl))) (mvT hZ (hw _ (List.mem_of_getElem? (i := 18) rfl))) (by decide) (backOf (W := 0) (rmR0 l Z a0 hw [] b12 b14 b6 b9 bL k6 k9 kL (own_pA q1 p5) (own_pB q2 p5) (own_pC q1 q3 p5) (own_pD q2 q4 p5) T15.heap n0 Zl GA15 Fc15 (S_L.ext O15.2) VA15 VB15 (V_L.ext O15.2) (Or.inr (Or.inr (Or.inl hc173)))) hZ (hw _ (List.mem_of_getElem? (i := 20) rfl)) (hw _ (List.mem_of_getElem? (i := 3) rfl)) (by decide) (by decide)) q16a q16c (g := (mkF m 195 #[.val (.long q1), .second, .val (.long q2), .second, .val (.long q3), .second, .val (.long q4), .second, .val (.int p5), .val (.long (own_pA q1 p5)), .second, .val (.long (own_pB q2 p5)), .second, .val (.long (own_pC q1 q3 p5)), .second, .val (.long (own_pD q2 q4 p5)), .second, .val (.ref b6), .val (.ref b9), .val (.ref b12), .val (.ref b14), .val (.int (0 : Int32))] [(.ref b14), (.ref b12)])) rfl (by rw [hml]; rfl) (Steps.refl _) (argsL := [(.ref b14)]) (rest := []) (lenOf pd_0_2 rfl) rfl (by show 2 * 0 + _ ≤ _; exact Nat.le_of_eq rfl) (hb hby at_195) (fun _ _ => ⟨rfl, rfl, (by decide : 4 + 0 ≤ _), (by decide : 8 + 0 ≤ _)⟩)
  dsimp only [Pt.U, Pt.locs, Pt.cells, Pt.slots] at X16 l16 y16 z16 st16 hQ16
  subst l16 y16 z16
  obtain ⟨rfl, N16q, e16q⟩ := hQ16
  have N16 := Fr.app N15 N16q
  obtain ⟨fs, hr, hrun, hended, hW, hsame⟩ := X16.leave (v := some (.int (1 : Int32))) (fun h => by rw [Bd.returns] at h; cases h)
  refine ⟨_, _, pre0 _ ?_, hrun, hended, _, _, rfl, ?_, ⟨_, rfl⟩, hW, hsame.mono (by decide) (by decide)⟩
  · show Steps p.tables e below (s₁.setTop (mkF m 98 #[.val (.long q1), .second, .val (.long q2), .second, .val (.long q3), .second, .val (.long q4), .second, .val (.int p5), .val (.long (own_pA q1 p5)), .second, .val (.long (own_pB q2 p5)), .second, .val (.long (own_pC q1 q3 p5)), .second, .val (.long (own_pD q2 q4 p5)), .second, .unset, .unset, .unset, .unset, .unset] [])) _
    refine XS.iconst X0.here hx rfl (hb hby at_98) ?_
    show Steps p.tables e below (s₁.setTop (mkF m 99 #[.val (.long q1), .second, .val (.long q2), .second, .val (.long q3), .second, .val (.long q4), .second, .val (.int p5), .val (.long (own_pA q1 p5)), .second, .val (.long (own_pB q2 p5)), .second, .val (.long (own_pC q1 q3 p5)), .second, .val (.long (own_pD q2 q4 p5)), .second, .unset, .unset, .unset, .unset, .unset] [(.int (2 : Int32))])) _
    refine st6 _ ?_
    show Steps p.tables e below (T6.setTop (mkF m 101 #[.val (.long q1), .second, .val (.long q2), .second, .val (.long q3), .second, .val (.long q4), .second, .val (.int p5), .val (.long (own_pA q1 p5)), .second, .val (.long (own_pB q2 p5)), .second, .val (.long (own_pC q1 q3 p5)), .second, .val (.long (own_pD q2 q4 p5)), .second, .unset, .unset, .unset, .unset, .unset] [(.ref b6)])) _
    refine XS.astore X6.here hx rfl (hb hby at_101) rfl rfl (l' := #[.val (.long q1), .second, .val (.long q2), .second, .val (.long q3), .second, .val (.long q4), .second, .val (.int p5), .val (.long (own_pA q1 p5)), .second, .val (.long (own_pB q2 p5)), .second, .val (.long (own_pC q1 q3 p5)), .second, .val (.long (own_pD q2 q4 p5)), .second, .val (.ref b6), .unset, .unset, .unset, .unset]) rfl ?_
    show Steps p.tables e below (T6.setTop (mkF m 103 #[.val (.long q1), .second, .val (.long q2), .second, .val (.long q3), .second, .val (.long q4), .second, .val (.int p5), .val (.long (own_pA q1 p5)), .second, .val (.long (own_pB q2 p5)), .second, .val (.long (own_pC q1 q3 p5)), .second, .val (.long (own_pD q2 q4 p5)), .second, .val (.ref b6), .unset, .unset, .unset, .unset] [])) _
    refine XS.aload X6.here hx rfl (hb hby at_103) rfl rfl ?_
    show Steps p.tables e below (T6.setTop (mkF m 105 #[.val (.long q1), .second, .val (.long q2), .second, .val (.long q3), .second, .val (.long q4), .second, .val (.int p5), .val (.long (own_pA q1 p5)), .second, .val (.long (own_pB q2 p5)), .second, .val (.long (own_pC q1 q3 p5)), .second, .val (.long (own_pD q2 q4 p5)), .second, .val (.ref b6), .unset, .unset, .unset, .unset] [(.ref b6)])) _
    refine XS.iconst X6.here hx rfl (hb hby at_105) ?_
    show Steps p.tables e below (T6.setTop (mkF m 106 #[.val (.long q1), .second, .val (.long q2), .second, .val (.long q3), .second, .val (.long q4), .second, .val (.int p5), .val (.long (own_pA q1 p5)), .second, .val (.long (own_pB q2 p5)), .second, .val (.long (own_pC q1 q3 p5)), .second, .val (.long (own_pD q2 q4 p5)), .second, .val (.ref b6), .unset, .unset, .unset, .unset] [(.int (0 : Int32)), (.ref b6)])) _
    refine XS.lload X6.here hx rfl (hb hby at_106) rfl ?_
    show Steps p.tables e below (T6.setTop (mkF m 108 #[.val (.long q1), .second, .val (.long q2), .second, .val (.long q3), .second, .val (.long q4), .second, .val (.int p5), .val (.long (own_pA q1 p5)), .second, .val (.long (own_pB q2 p5)), .second, .val (.long (own_pC q1 q3 p5)), .second, .val (.long (own_pD q2 q4 p5)), .second, .val (.ref b6), .unset, .unset, .unset, .unset] [(.long (own_pA q1 p5)), (.int (0 : Int32)), (.ref b6)])) _
    refine st7 _ ?_
    show Steps p.tables e below (T7.setTop (mkF m 109 #[.val (.long q1), .second, .val (.long q2), .second, .val (.long q3), .second, .val (.long q4), .second, .val (.int p5), .val (.long (own_pA q1 p5)), .second, .val (.long (own_pB q2 p5)), .second, .val (.long (own_pC q1 q3 p5)), .second, .val (.long (own_pD q2 q4 p5)), .second, .val (.ref b6), .unset, .unset, .unset, .unset] [])) _
    refine XS.aload X7.here hx rfl (hb hby at_109) rfl rfl ?_
    show Steps p.tables e below (T7.setTop (mkF m 111 #[.val (.long q1), .second, .val (.long q2), .second, .val (.long q3), .second, .val (.long q4), .second, .val (.int p5), .val (.long (own_pA q1 p5)), .second, .val (.long (own_pB q2 p5)), .second, .val (.long (own_pC q1 q3 p5)), .second, .val (.long (own_pD q2 q4 p5)), .second, .val (.ref b6), .unset, .unset, .unset, .unset] [(.ref b6)])) _
    refine XS.iconst X7.here hx rfl (hb hby at_111) ?_
    show Steps p.tables e below (T7.setTop (mkF m 112 #[.val (.long q1), .second, .val (.long q2), .second, .val (.long q3), .second, .val (.long q4), .second, .val (.int p5), .val (.long (own_pA q1 p5)), .second, .val (.long (own_pB q2 p5)), .second, .val (.long (own_pC q1 q3 p5)), .second, .val (.long (own_pD q2 q4 p5)), .second, .val (.ref b6), .unset, .unset, .unset, .unset] [(.int (1 : Int32)), (.ref b6)])) _
    refine XS.lload X7.here hx rfl (hb hby at_112) rfl ?_
    show Steps p.tables e below (T7.setTop (mkF m 114 #[.val (.long q1), .second, .val (.long q2), .second, .val (.long q3), .second, .val (.long q4), .second, .val (.int p5), .val (.long (own_pA q1 p5)), .second, .val (.long (own_pB q2 p5)), .second, .val (.long (own_pC q1 q3 p5)), .second, .val (.long (own_pD q2 q4 p5)), .second, .val (.ref b6), .unset, .unset, .unset, .unset] [(.long (own_pB q2 p5)), (.int (1 : Int32)), (.ref b6)])) _
    refine st8 _ ?_
    show Steps p.tables e below (T8.setTop (mkF m 115 #[.val (.long q1), .second, .val (.long q2), .second, .val (.long q3), .second, .val (.long q4), .second, .val (.int p5), .val (.long (own_pA q1 p5)), .second, .val (.long (own_pB q2 p5)), .second, .val (.long (own_pC q1 q3 p5)), .second, .val (.long (own_pD q2 q4 p5)), .second, .val (.ref b6), .unset, .unset, .unset, .unset] [])) _
    refine XS.iconst X8.here hx rfl (hb hby at_115) ?_
    show Steps p.tables e below (T8.setTop (mkF m 116 #[.val (.long q1), .second, .val (.long q2), .second, .val (.long q3), .second, .val (.long q4), .second, .val (.int p5), .val (.long (own_pA q1 p5)), .second, .val (.long (own_pB q2 p5)), .second, .val (.long (own_pC q1 q3 p5)), .second, .val (.long (own_pD q2 q4 p5)), .second, .val (.ref b6), .unset, .unset, .unset, .unset] [(.int (2 : Int32))])) _
    refine st9 _ ?_
    show Steps p.tables e below (T9.setTop (mkF m 118 #[.val (.long q1), .second, .val (.long q2), .second, .val (.long q3), .second, .val (.long q4), .second, .val (.int p5), .val (.long (own_pA q1 p5)), .second, .val (.long (own_pB q2 p5)), .second, .val (.long (own_pC q1 q3 p5)), .second, .val (.long (own_pD q2 q4 p5)), .second, .val (.ref b6), .unset, .unset, .unset, .unset] [(.ref b9)])) _
    refine XS.astore X9.here hx rfl (hb hby at_118) rfl rfl (l' := #[.val (.long q1), .second, .val (.long q2), .second, .val (.long q3), .second, .val (.long q4), .second, .val (.int p5), .val (.long (own_pA q1 p5)), .second, .val (.long (own_pB q2 p5)), .second, .val (.long (own_pC q1 q3 p5)), .second, .val (.long (own_pD q2 q4 p5)), .second, .val (.ref b6), .val (.ref b9), .unset, .unset, .unset]) rfl ?_
    show Steps p.tables e below (T9.setTop (mkF m 120 #[.val (.long q1), .second, .val (.long q2), .second, .val (.long q3), .second, .val (.long q4), .second, .val (.int p5), .val (.long (own_pA q1 p5)), .second, .val (.long (own_pB q2 p5)), .second, .val (.long (own_pC q1 q3 p5)), .second, .val (.long (own_pD q2 q4 p5)), .second, .val (.ref b6), .val (.ref b9), .unset, .unset, .unset] [])) _
    refine XS.aload X9.here hx rfl (hb hby at_120) rfl rfl ?_
    show Steps p.tables e below (T9.setTop (mkF m 122 #[.val (.long q1), .second, .val (.long q2), .second, .val (.long q3), .second, .val (.long q4), .second, .val (.int p5), .val (.long (own_pA q1 p5)), .second, .val (.long (own_pB q2 p5)), .second, .val (.long (own_pC q1 q3 p5)), .second, .val (.long (own_pD q2 q4 p5)), .second, .val (.ref b6), .val (.ref b9), .unset, .unset, .unset] [(.ref b9)])) _
    refine XS.iconst X9.here hx rfl (hb hby at_122) ?_
    show Steps p.tables e below (T9.setTop (mkF m 123 #[.val (.long q1), .second, .val (.long q2), .second, .val (.long q3), .second, .val (.long q4), .second, .val (.int p5), .val (.long (own_pA q1 p5)), .second, .val (.long (own_pB q2 p5)), .second, .val (.long (own_pC q1 q3 p5)), .second, .val (.long (own_pD q2 q4 p5)), .second, .val (.ref b6), .val (.ref b9), .unset, .unset, .unset] [(.int (0 : Int32)), (.ref b9)])) _
    refine XS.lload X9.here hx rfl (hb hby at_123) rfl ?_
    show Steps p.tables e below (T9.setTop (mkF m 125 #[.val (.long q1), .second, .val (.long q2), .second, .val (.long q3), .second, .val (.long q4), .second, .val (.int p5), .val (.long (own_pA q1 p5)), .second, .val (.long (own_pB q2 p5)), .second, .val (.long (own_pC q1 q3 p5)), .second, .val (.long (own_pD q2 q4 p5)), .second, .val (.ref b6), .val (.ref b9), .unset, .unset, .unset] [(.long (own_pC q1 q3 p5)), (.int (0 : Int32)), (.ref b9)])) _
    refine st10 _ ?_
    show Steps p.tables e below (T10.setTop (mkF m 126 #[.val (.long q1), .second, .val (.long q2), .second, .val (.long q3), .second, .val (.long q4), .second, .val (.int p5), .val (.long (own_pA q1 p5)), .second, .val (.long (own_pB q2 p5)), .second, .val (.long (own_pC q1 q3 p5)), .second, .val (.long (own_pD q2 q4 p5)), .second, .val (.ref b6), .val (.ref b9), .unset, .unset, .unset] [])) _
    refine XS.aload X10.here hx rfl (hb hby at_126) rfl rfl ?_
    show Steps p.tables e below (T10.setTop (mkF m 128 #[.val (.long q1), .second, .val (.long q2), .second, .val (.long q3), .second, .val (.long q4), .second, .val (.int p5), .val (.long (own_pA q1 p5)), .second, .val (.long (own_pB q2 p5)), .second, .val (.long (own_pC q1 q3 p5)), .second, .val (.long (own_pD q2 q4 p5)), .second, .val (.ref b6), .val (.ref b9), .unset, .unset, .unset] [(.ref b9)])) _
    refine XS.iconst X10.here hx rfl (hb hby at_128) ?_
    show Steps p.tables e below (T10.setTop (mkF m 129 #[.val (.long q1), .second, .val (.long q2), .second, .val (.long q3), .second, .val (.long q4), .second, .val (.int p5), .val (.long (own_pA q1 p5)), .second, .val (.long (own_pB q2 p5)), .second, .val (.long (own_pC q1 q3 p5)), .second, .val (.long (own_pD q2 q4 p5)), .second, .val (.ref b6), .val (.ref b9), .unset, .unset, .unset] [(.int (1 : Int32)), (.ref b9)])) _
    refine XS.lload X10.here hx rfl (hb hby at_129) rfl ?_
    show Steps p.tables e below (T10.setTop (mkF m 131 #[.val (.long q1), .second, .val (.long q2), .second, .val (.long q3), .second, .val (.long q4), .second, .val (.int p5), .val (.long (own_pA q1 p5)), .second, .val (.long (own_pB q2 p5)), .second, .val (.long (own_pC q1 q3 p5)), .second, .val (.long (own_pD q2 q4 p5)), .second, .val (.ref b6), .val (.ref b9), .unset, .unset, .unset] [(.long (own_pD q2 q4 p5)), (.int (1 : Int32)), (.ref b9)])) _
    refine st11 _ ?_
    show Steps p.tables e below (T11.setTop (mkF m 132 #[.val (.long q1), .second, .val (.long q2), .second, .val (.long q3), .second, .val (.long q4), .second, .val (.int p5), .val (.long (own_pA q1 p5)), .second, .val (.long (own_pB q2 p5)), .second, .val (.long (own_pC q1 q3 p5)), .second, .val (.long (own_pD q2 q4 p5)), .second, .val (.ref b6), .val (.ref b9), .unset, .unset, .unset] [])) _
    refine st12 _ ?_
    show Steps p.tables e below (T12.setTop (mkF m 135 #[.val (.long q1), .second, .val (.long q2), .second, .val (.long q3), .second, .val (.long q4), .second, .val (.int p5), .val (.long (own_pA q1 p5)), .second, .val (.long (own_pB q2 p5)), .second, .val (.long (own_pC q1 q3 p5)), .second, .val (.long (own_pD q2 q4 p5)), .second, .val (.ref b6), .val (.ref b9), .unset, .unset, .unset] [(.ref b12)])) _
    refine XS.dup X12.here hx rfl (hb hby at_135) rfl rfl ?_
    show Steps p.tables e below (T12.setTop (mkF m 136 #[.val (.long q1), .second, .val (.long q2), .second, .val (.long q3), .second, .val (.long q4), .second, .val (.int p5), .val (.long (own_pA q1 p5)), .second, .val (.long (own_pB q2 p5)), .second, .val (.long (own_pC q1 q3 p5)), .second, .val (.long (own_pD q2 q4 p5)), .second, .val (.ref b6), .val (.ref b9), .unset, .unset, .unset] [(.ref b12), (.ref b12)])) _
    refine XS.aload X12.here hx rfl (hb hby at_136) rfl rfl ?_
    show Steps p.tables e below (T12.setTop (mkF m 138 #[.val (.long q1), .second, .val (.long q2), .second, .val (.long q3), .second, .val (.long q4), .second, .val (.int p5), .val (.long (own_pA q1 p5)), .second, .val (.long (own_pB q2 p5)), .second, .val (.long (own_pC q1 q3 p5)), .second, .val (.long (own_pD q2 q4 p5)), .second, .val (.ref b6), .val (.ref b9), .unset, .unset, .unset] [(.ref b6), (.ref b12), (.ref b12)])) _
    refine st13.trans ?_
    show Steps p.tables e below (T13.setTop (mkF m 141 #[.val (.long q1), .second, .val (.long q2), .second, .val (.long q3), .second, .val (.long q4), .second, .val (.int p5), .val (.long (own_pA q1 p5)), .second, .val (.long (own_pB q2 p5)), .second, .val (.long (own_pC q1 q3 p5)), .second, .val (.long (own_pD q2 q4 p5)), .second, .val (.ref b6), .val (.ref b9), .unset, .unset, .unset] [(.ref b12)])) _
    refine XS.astore X13.here hx rfl (hb hby at_141) rfl rfl (l' := #[.val (.long q1), .second, .val (.long q2), .second, .val (.long q3), .second, .val (.long q4), .second, .val (.int p5), .val (.long (own_pA q1 p5)), .second, .val (.long (own_pB q2 p5)), .second, .val (.long (own_pC q1 q3 p5)), .second, .val (.long (own_pD q2 q4 p5)), .second, .val (.ref b6), .val (.ref b9), .val (.ref b12), .unset, .unset]) rfl ?_
    show Steps p.tables e below (T13.setTop (mkF m 143 #[.val (.long q1), .second, .val (.long q2), .second, .val (.long q3), .second, .val (.long q4), .second, .val (.int p5), .val (.long (own_pA q1 p5)), .second, .val (.long (own_pB q2 p5)), .second, .val (.long (own_pC q1 q3 p5)), .second, .val (.long (own_pD q2 q4 p5)), .second, .val (.ref b6), .val (.ref b9), .val (.ref b12), .unset, .unset] [])) _
    refine st14 _ ?_
    show Steps p.tables e below (T14.setTop (mkF m 146 #[.val (.long q1), .second, .val (.long q2), .second, .val (.long q3), .second, .val (.long q4), .second, .val (.int p5), .val (.long (own_pA q1 p5)), .second, .val (.long (own_pB q2 p5)), .second, .val (.long (own_pC q1 q3 p5)), .second, .val (.long (own_pD q2 q4 p5)), .second, .val (.ref b6), .val (.ref b9), .val (.ref b12), .unset, .unset] [(.ref b14)])) _
    refine XS.dup X14.here hx rfl (hb hby at_146) rfl rfl ?_
    show Steps p.tables e below (T14.setTop (mkF m 147 #[.val (.long q1), .second, .val (.long q2), .second, .val (.long q3), .second, .val (.long q4), .second, .val (.int p5), .val (.long (own_pA q1 p5)), .second, .val (.long (own_pB q2 p5)), .second, .val (.long (own_pC q1 q3 p5)), .second, .val (.long (own_pD q2 q4 p5)), .second, .val (.ref b6), .val (.ref b9), .val (.ref b12), .unset, .unset] [(.ref b14), (.ref b14)])) _
    refine XS.aload X14.here hx rfl (hb hby at_147) rfl rfl ?_
    show Steps p.tables e below (T14.setTop (mkF m 149 #[.val (.long q1), .second, .val (.long q2), .second, .val (.long q3), .second, .val (.long q4), .second, .val (.int p5), .val (.long (own_pA q1 p5)), .second, .val (.long (own_pB q2 p5)), .second, .val (.long (own_pC q1 q3 p5)), .second, .val (.long (own_pD q2 q4 p5)), .second, .val (.ref b6), .val (.ref b9), .val (.ref b12), .unset, .unset] [(.ref b9), (.ref b14), (.ref b14)])) _
    refine st15.trans ?_
    show Steps p.tables e below (T15.setTop (mkF m 152 #[.val (.long q1), .second, .val (.long q2), .second, .val (.long q3), .second, .val (.long q4), .second, .val (.int p5), .val (.long (own_pA q1 p5)), .second, .val (.long (own_pB q2 p5)), .second, .val (.long (own_pC q1 q3 p5)), .second, .val (.long (own_pD q2 q4 p5)), .second, .val (.ref b6), .val (.ref b9), .val (.ref b12), .unset, .unset] [(.ref b14)])) _
    refine XS.astore X15.here hx rfl (hb hby at_152) rfl rfl (l' := #[.val (.long q1), .second, .val (.long q2), .second, .val (.long q3), .second, .val (.long q4), .second, .val (.int p5), .val (.long (own_pA q1 p5)), .second, .val (.long (own_pB q2 p5)), .second, .val (.long (own_pC q1 q3 p5)), .second, .val (.long (own_pD q2 q4 p5)), .second, .val (.ref b6), .val (.ref b9), .val (.ref b12), .val (.ref b14), .unset]) rfl ?_
    show Steps p.tables e below (T15.setTop (mkF m 154 #[.val (.long q1), .second, .val (.long q2), .second, .val (.long q3), .second, .val (.long q4), .second, .val (.int p5), .val (.long (own_pA q1 p5)), .second, .val (.long (own_pB q2 p5)), .second, .val (.long (own_pC q1 q3 p5)), .second, .val (.long (own_pD q2 q4 p5)), .second, .val (.ref b6), .val (.ref b9), .val (.ref b12), .val (.ref b14), .unset] [])) _
    refine XS.lload X15.here hx rfl (hb hby at_154) rfl ?_
    show Steps p.tables e below (T15.setTop (mkF m 156 #[.val (.long q1), .second, .val (.long q2), .second, .val (.long q3), .second, .val (.long q4), .second, .val (.int p5), .val (.long (own_pA q1 p5)), .second, .val (.long (own_pB q2 p5)), .second, .val (.long (own_pC q1 q3 p5)), .second, .val (.long (own_pD q2 q4 p5)), .second, .val (.ref b6), .val (.ref b9), .val (.ref b12), .val (.ref b14), .unset] [(.long (own_pA q1 p5))])) _
    refine XS.lconst X15.here hx rfl (hb hby at_156) ?_
    show Steps p.tables e below (T15.setTop (mkF m 157 #[.val (.long q1), .second, .val (.long q2), .second, .val (.long q3), .second, .val (.long q4), .second, .val (.int p5), .val (.long (own_pA q1 p5)), .second, .val (.long (own_pB q2 p5)), .second, .val (.long (own_pC q1 q3 p5)), .second, .val (.long (own_pD q2 q4 p5)), .second, .val (.ref b6), .val (.ref b9), .val (.ref b12), .val (.ref b14), .unset] [(.long (1 : Int64)), (.long (own_pA q1 p5))])) _
    refine XS.lcmp X15.here hx rfl (hb hby at_157) rfl ?_
    show Steps p.tables e below (T15.setTop (mkF m 158 #[.val (.long q1), .second, .val (.long q2), .second, .val (.long q3), .second, .val (.long q4), .second, .val (.int p5), .val (.long (own_pA q1 p5)), .second, .val (.long (own_pB q2 p5)), .second, .val (.long (own_pC q1 q3 p5)), .second, .val (.long (own_pD q2 q4 p5)), .second, .val (.ref b6), .val (.ref b9), .val (.ref b12), .val (.ref b14), .unset] [(.int (lcmpW (own_pA q1 p5) (1 : Int64)))])) _
    refine XS.ifNo X15.here hx rfl (hb hby at_158) rfl ((if0 _ _).trans (flt hc158).1) ?_
    show Steps p.tables e below (T15.setTop (mkF m 161 #[.val (.long q1), .second, .val (.long q2), .second, .val (.long q3), .second, .val (.long q4), .second, .val (.int p5), .val (.long (own_pA q1 p5)), .second, .val (.long (own_pB q2 p5)), .second, .val (.long (own_pC q1 q3 p5)), .second, .val (.long (own_pD q2 q4 p5)), .second, .val (.ref b6), .val (.ref b9), .val (.ref b12), .val (.ref b14), .unset] [])) _
    refine XS.lload X15.here hx rfl (hb hby at_161) rfl ?_
    show Steps p.tables e below (T15.setTop (mkF m 163 #[.val (.long q1), .second, .val (.long q2), .second, .val (.long q3), .second, .val (.long q4), .second, .val (.int p5), .val (.long (own_pA q1 p5)), .second, .val (.long (own_pB q2 p5)), .second, .val (.long (own_pC q1 q3 p5)), .second, .val (.long (own_pD q2 q4 p5)), .second, .val (.ref b6), .val (.ref b9), .val (.ref b12), .val (.ref b14), .unset] [(.long (own_pB q2 p5))])) _
    refine XS.lconst X15.here hx rfl (hb hby at_163) ?_
    show Steps p.tables e below (T15.setTop (mkF m 164 #[.val (.long q1), .second, .val (.long q2), .second, .val (.long q3), .second, .val (.long q4), .second, .val (.int p5), .val (.long (own_pA q1 p5)), .second, .val (.long (own_pB q2 p5)), .second, .val (.long (own_pC q1 q3 p5)), .second, .val (.long (own_pD q2 q4 p5)), .second, .val (.ref b6), .val (.ref b9), .val (.ref b12), .val (.ref b14), .unset] [(.long (0 : Int64)), (.long (own_pB q2 p5))])) _
    refine XS.lcmp X15.here hx rfl (hb hby at_164) rfl ?_
    show Steps p.tables e below (T15.setTop (mkF m 165 #[.val (.long q1), .second, .val (.long q2), .second, .val (.long q3), .second, .val (.long q4), .second, .val (.int p5), .val (.long (own_pA q1 p5)), .second, .val (.long (own_pB q2 p5)), .second, .val (.long (own_pC q1 q3 p5)), .second, .val (.long (own_pD q2 q4 p5)), .second, .val (.ref b6), .val (.ref b9), .val (.ref b12), .val (.ref b14), .unset] [(.int (lcmpW (own_pB q2 p5) (0 : Int64)))])) _
    refine XS.ifNo X15.here hx rfl (hb hby at_165) rfl ((if0 _ _).trans (flt hc165).1) ?_
    show Steps p.tables e below (T15.setTop (mkF m 168 #[.val (.long q1), .second, .val (.long q2), .second, .val (.long q3), .second, .val (.long q4), .second, .val (.int p5), .val (.long (own_pA q1 p5)), .second, .val (.long (own_pB q2 p5)), .second, .val (.long (own_pC q1 q3 p5)), .second, .val (.long (own_pD q2 q4 p5)), .second, .val (.ref b6), .val (.ref b9), .val (.ref b12), .val (.ref b14), .unset] [])) _
    refine XS.lload X15.here hx rfl (hb hby at_168) rfl ?_
    show Steps p.tables e below (T15.setTop (mkF m 170 #[.val (.long q1), .second, .val (.long q2), .second, .val (.long q3), .second, .val (.long q4), .second, .val (.int p5), .val (.long (own_pA q1 p5)), .second, .val (.long (own_pB q2 p5)), .second, .val (.long (own_pC q1 q3 p5)), .second, .val (.long (own_pD q2 q4 p5)), .second, .val (.ref b6), .val (.ref b9), .val (.ref b12), .val (.ref b14), .unset] [(.long (own_pA q1 p5))])) _
    refine XS.lload X15.here hx rfl (hb hby at_170) rfl ?_
    show Steps p.tables e below (T15.setTop (mkF m 172 #[.val (.long q1), .second, .val (.long q2), .second, .val (.long q3), .second, .val (.long q4), .second, .val (.int p5), .val (.long (own_pA q1 p5)), .second, .val (.long (own_pB q2 p5)), .second, .val (.long (own_pC q1 q3 p5)), .second, .val (.long (own_pD q2 q4 p5)), .second, .val (.ref b6), .val (.ref b9), .val (.ref b12), .val (.ref b14), .unset] [(.long (own_pC q1 q3 p5)), (.long (own_pA q1 p5))])) _
    refine XS.lcmp X15.here hx rfl (hb hby at_172) rfl ?_
    show Steps p.tables e below (T15.setTop (mkF m 173 #[.val (.long q1), .second, .val (.long q2), .second, .val (.long q3), .second, .val (.long q4), .second, .val (.int p5), .val (.long (own_pA q1 p5)), .second, .val (.long (own_pB q2 p5)), .second, .val (.long (own_pC q1 q3 p5)), .second, .val (.long (own_pD q2 q4 p5)), .second, .val (.ref b6), .val (.ref b9), .val (.ref b12), .val (.ref b14), .unset] [(.int (lcmpW (own_pA q1 p5) (own_pC q1 q3 p5)))])) _
    refine XS.ifYes X15.here hx rfl (pc0 := 173) (pc' := 188) rfl (hb hby at_173) rfl ((if0 _ _).trans (tlt hc173).2.2.1) (by decide) (by decide) ?_
    show Steps p.tables e below (T15.setTop (mkF m 188 #[.val (.long q1), .second, .val (.long q2), .second, .val (.long q3), .second, .val (.long q4), .second, .val (.int p5), .val (.long (own_pA q1 p5)), .second, .val (.long (own_pB q2 p5)), .second, .val (.long (own_pC q1 q3 p5)), .second, .val (.long (own_pD q2 q4 p5)), .second, .val (.ref b6), .val (.ref b9), .val (.ref b12), .val (.ref b14), .unset] [])) _
    refine XS.iconst X15.here hx rfl (hb hby at_188) ?_
    show Steps p.tables e below (T15.setTop (mkF m 189 #[.val (.long q1), .second, .val (.long q2), .second, .val (.long q3), .second, .val (.long q4), .second, .val (.int p5), .val (.long (own_pA q1 p5)), .second, .val (.long (own_pB q2 p5)), .second, .val (.long (own_pC q1 q3 p5)), .second, .val (.long (own_pD q2 q4 p5)), .second, .val (.ref b6), .val (.ref b9), .val (.ref b12), .val (.ref b14), .unset] [(.int (0 : Int32))])) _
    refine XS.istore X15.here hx rfl (hb hby at_189) rfl (l' := #[.val (.long q1), .second, .val (.long q2), .second, .val (.long q3), .second, .val (.long q4), .second, .val (.int p5), .val (.long (own_pA q1 p5)), .second, .val (.long (own_pB q2 p5)), .second, .val (.long (own_pC q1 q3 p5)), .second, .val (.long (own_pD q2 q4 p5)), .second, .val (.ref b6), .val (.ref b9), .val (.ref b12), .val (.ref b14), .val (.int (0 : Int32))]) rfl ?_
    show Steps p.tables e below (T15.setTop (mkF m 191 #[.val (.long q1), .second, .val (.long q2), .second, .val (.long q3), .second, .val (.long q4), .second, .val (.int p5), .val (.long (own_pA q1 p5)), .second, .val (.long (own_pB q2 p5)), .second, .val (.long (own_pC q1 q3 p5)), .second, .val (.long (own_pD q2 q4 p5)), .second, .val (.ref b6), .val (.ref b9), .val (.ref b12), .val (.ref b14), .val (.int (0 : Int32))] [])) _
    refine XS.aload X15.here hx rfl (hb hby at_191) rfl rfl ?_
    show Steps p.tables e below (T15.setTop (mkF m 193 #[.val (.long q1), .second, .val (.long q2), .second, .val (.long q3), .second, .val (.long q4), .second, .val (.int p5), .val (.long (own_pA q1 p5)), .second, .val (.long (own_pB q2 p5)), .second, .val (.long (own_pC q1 q3 p5)), .second, .val (.long (own_pD q2 q4 p5)), .second, .val (.ref b6), .val (.ref b9), .val (.ref b12), .val (.ref b14), .val (.int (0 : Int32))] [(.ref b12)])) _
    refine XS.aload X15.here hx rfl (hb hby at_193) rfl rfl ?_
    show Steps p.tables e below (T15.setTop (mkF m 195 #[.val (.long q1), .second, .val (.long q2), .second, .val (.long q3), .second, .val (.long q4), .second, .val (.int p5), .val (.long (own_pA q1 p5)), .second, .val (.long (own_pB q2 p5)), .second, .val (.long (own_pC q1 q3 p5)), .second, .val (.long (own_pD q2 q4 p5)), .second, .val (.ref b6), .val (.ref b9), .val (.ref b12), .val (.ref b14), .val (.int (0 : Int32))] [(.ref b14), (.ref b12)])) _
    refine st16.trans ?_
    show Steps p.tables e below (T16.setTop (mkF m 198 #[.val (.long q1), .second, .val (.long q2), .second, .val (.long q3), .second, .val (.long q4), .second, .val (.int p5), .val (.long (own_pA q1 p5)), .second, .val (.long (own_pB q2 p5)), .second, .val (.long (own_pC q1 q3 p5)), .second, .val (.long (own_pD q2 q4 p5)), .second, .val (.ref b6), .val (.ref b9), .val (.ref b12), .val (.ref b14), .val (.int (0 : Int32))] [(.int (0 : Int32))])) _
    refine XS.iload X16.here hx rfl (hb hby at_198) rfl ?_
    show Steps p.tables e below (T16.setTop (mkF m 200 #[.val (.long q1), .second, .val (.long q2), .second, .val (.long q3), .second, .val (.long q4), .second, .val (.int p5), .val (.long (own_pA q1 p5)), .second, .val (.long (own_pB q2 p5)), .second, .val (.long (own_pC q1 q3 p5)), .second, .val (.long (own_pD q2 q4 p5)), .second, .val (.ref b6), .val (.ref b9), .val (.ref b12), .val (.ref b14), .val (.int (0 : Int32))] [(.int (0 : Int32)), (.int (0 : Int32))])) _
    refine XS.icmpNo X16.here hx rfl (hb hby at_200) rfl (teq (rfl : (0 : Int32) = (0 : Int32))).2 ?_
    show Steps p.tables e below (T16.setTop (mkF m 203 #[.val (.long q1), .second, .val (.long q2), .second, .val (.long q3), .second, .val (.long q4), .second, .val (.int p5), .val (.long (own_pA q1 p5)), .second, .val (.long (own_pB q2 p5)), .second, .val (.long (own_pC q1 q3 p5)), .second, .val (.long (own_pD q2 q4 p5)), .second, .val (.ref b6), .val (.ref b9), .val (.ref b12), .val (.ref b14), .val (.int (0 : Int32))] [])) _
    refine XS.iconst X16.here hx rfl (hb hby at_203) ?_
    show Steps p.tables e below (T16.setTop (mkF m 204 #[.val (.long q1), .second, .val (.long q2), .second, .val (.long q3), .second, .val (.long q4), .second, .val (.int p5), .val (.long (own_pA q1 p5)), .second, .val (.long (own_pB q2 p5)), .second, .val (.long (own_pC q1 q3 p5)), .second, .val (.long (own_pD q2 q4 p5)), .second, .val (.ref b6), .val (.ref b9), .val (.ref b12), .val (.ref b14), .val (.int (0 : Int32))] [(.int (1 : Int32))])) _
    refine XS.goto X16.here hx rfl (pc0 := 204) (pc' := 208) rfl (hb hby at_204) (by decide) (by decide) ?_
    show Steps p.tables e below (T16.setTop (mkF m 208 #[.val (.long q1), .second, .val (.long q2), .second, .val (.long q3), .second, .val (.long q4), .second, .val (.int p5), .val (.long (own_pA q1 p5)), .second, .val (.long (own_pB q2 p5)), .second, .val (.long (own_pC q1 q3 p5)), .second, .val (.long (own_pD q2 q4 p5)), .second, .val (.ref b6), .val (.ref b9), .val (.ref b12), .val (.ref b14), .val (.int (0 : Int32))] [(.int (1 : Int32))])) _
    exact retN X16 hx (t := .boolean) Bd.returns (by simp) (hb hby at_208) hr
  · show Q0 Z q1 q2 q3 q4 p5 h0 n0 _ T16.heap _
    exact ⟨rfl, N16⟩
set_option maxRecDepth 65536 in
set_option maxHeartbeats 40000000 in
theorem rm0_3 (l : Launch) (Z : State) (a0 : Array Value) (hw : ∀ d ∈ tables_1, d.before a0 Z = true) (ws : List Jvm.Cond) (q1 : Int64) (q2 : Int64) (q3 : Int64) (q4 : Int64) (p5 : Int32) (h0 : Heap) (n0 : Nat) (Z0 : n0 ≤ h0.size) (O0 : Old Z n0 h0) (S_P : Sta Z Z.heap "com/example/slotwise/slotwise/engine/Resources" "PROCESSORS" "I" (.int (0 : Int32))) (bL : Addr) (kL : ClassId) (S_L : Sta Z Z.heap "com/example/slotwise/slotwise/engine/Resources" "LEAST" "[J" (.ref bL)) (V_L : Arv Z Z.heap bL kL .long (2 : Int32) [(.long (1 : Int64)), (.long (0 : Int64))] (.long (0 : Int64))) (hc158 : ¬ ((lcmpW (own_pA q1 p5) (1 : Int64)) < (0 : Int32))) (hc165 : ¬ ((lcmpW (own_pB q2 p5) (0 : Int64)) < (0 : Int32))) (hc173 : ¬ ((0 : Int32) < (lcmpW (own_pA q1 p5) (own_pC q1 q3 p5)))) (hc181 : (0 : Int32) < (lcmpW (own_pB q2 p5) (own_pD q2 q4 p5))) :
    MetFree l x (head1 (Jvm.Cond.code x code maxLocals ret :: ws) room_1) (fun a U => a = #[(.long q1), (.long q2), (.long q3), (.long q4), (.int p5)] ∧ Z.Warmed39 U.vm ∧ U.heap = h0) (fun _ _ _ _ _ => True) (fun _ U o U' => ∃ v L, o = .returned v ∧ Q0 Z q1 q2 q3 q4 p5 h0 n0 v U'.heap L ∧ FrameEnd U o U' L room_1.cells room_1.slots) := by
  refine MetFree.of_bodySF (plainFor_of_name pn_0) hisR ?_
  intro p e s m args below meth c s₁ Bd hml0 hP hK
  obtain ⟨rfl, hZ, hh⟩ := hP
  have hx := Bd.exec
  have hby := Bd.bytes
  have hml : c.maxLocals = 22 := hml0
  have hown : s.vm.findClass "com/example/slotwise/slotwise/engine/ResourcesCanRunOnPinLaw" = some m.cls := findClass_of_methodNamed Bd.named
  have hnm := (name_of_methodNamed Bd.named Bd.method).1
  have X0 : Stand p l e room_1 s m #[(.long q1), (.long q2), (.long q3), (.long q4), (.int p5)] below meth c s₁ [] 0 0 := Stand.of_body Bd
  have e0 : s₁.heap = h0 := by rw [← hh, Bd.state]; rfl
  have N0 := Fr.nil n0
  have pre0 : ∀ t, Steps p.tables e below (s₁.setTop (mkF m 98 #[.val (.long q1), .second, .val (.long q2), .second, .val (.long q3), .second, .val (.long q4), .second, .val (.int p5), .val (.long (own_pA q1 p5)), .second, .val (.long (own_pB q2 p5)), .second, .val (.long (own_pC q1 q3 p5)), .second, .val (.long (own_pD q2 q4 p5)), .second, .unset, .unset, .unset, .unset, .unset] [])) t → Steps p.tables e below (s₁.setTop (entryFrame m #[(.long q1), (.long q2), (.long q3), (.long q4), (.int p5)] maxLocals)) t := fun t k => castTop (ef_0 m q1 q2 q3 q4 p5) (pcs_A q1 q2 q3 q4 p5 X0 hx hby t (pcs_B q1 q2 q3 q4 p5 X0 hx hby t (pcs_C q1 q2 q3 q4 p5 X0 hx hby t (pcs_D q1 q2 q3 q4 p5 X0 hx hby t k))))
  obtain ⟨T6, h6, k6, X6, e6, E6, A6, st6⟩ := newP X0 hx hZ (hw _ (List.mem_of_getElem? (i := 0) rfl)) e0 (g := (mkF m 99 #[.val (.long q1), .second, .val (.long q2), .second, .val (.long q3), .second, .val (.long q4), .second, .val (.int p5), .val (.long (own_pA q1 p5)), .second, .val (.long (own_pB q2 p5)), .second, .val (.long (own_pC q1 q3 p5)), .second, .val (.long (own_pD q2 q4 p5)), .second, .unset, .unset, .unset, .unset, .unset] [(.int (2 : Int32))])) rfl (hb hby at_99) rfl (by decide) (cap := 2) (by decide) (by decide) (by decide) (by decide)
  obtain ⟨b6, g6⟩ : ∃ z, z = h0.size := ⟨_, rfl⟩
  rw [← g6] at A6 st6
  have V_b6 : Arv Z h6 b6 k6 .long (2 : Int32) [(.long (0 : Int64)), (.long (0 : Int64))] (.long (0 : Int64)) := (Arv.new A6 (by decide)).pad (pad_rep [] (.long (0 : Int64)) 2)
  have g_b6 : n0 ≤ b6 := Nat.le_trans Z0 (Nat.le_of_eq g6.symm)
  have sz_b6 : h0.size ≤ b6 := (Nat.le_trans (Keep.refl h0 []).1 (Nat.le_of_eq g6.symm))
  have K6 : Keep h0 h6 [] := (Keep.refl h0 []).ext E6
  obtain ⟨cl_b6_108, Ar_b6, q_b6, S_b6, N_b6, H_b6, G_b6⟩ := V_b6
  have hin108 : ¬ ((0 : Int32) < 0 ∨ cl_b6_108.slots.size ≤ ((0 : Int32)).toNatClampNeg) := inb_of S_b6 ⟨by decide, by decide⟩
  obtain ⟨T7, h7, X7, e7, W7, st7⟩ := stJ X6 hx hZ e6 Ar_b6 (j := (0 : Int32)) hin108 (g := (mkF m 108 #[.val (.long q1), .second, .val (.long q2), .second, .val (.long q3), .second, .val (.long q4), .second, .val (.int p5), .val (.long (own_pA q1 p5)), .second, .val (.long (own_pB q2 p5)), .second, .val (.long (own_pC q1 q3 p5)), .second, .val (.long (own_pD q2 q4 p5)), .second, .val (.ref b6), .unset, .unset, .unset, .unset] [(.long (own_pA q1 p5)), (.int (0 : Int32)), (.ref b6)])) rfl rfl (hb hby at_108)
  have V_b6_7 := Arv.set Ar_b6 q_b6 S_b6 N_b6 H_b6 G_b6 rfl W7 0 rfl (Nat.le_of_ble_eq_true rfl)
  have K7 : Keep h0 h7 [] := K6.wr W7 (Or.inr sz_b6)
  have N7 := Fr.snoc X7 N0 g_b6
  obtain ⟨cl_b6_114, Ar_b6, q_b6, S_b6, N_b6, H_b6, G_b6⟩ := V_b6_7
  have hin114 : ¬ ((1 : Int32) < 0 ∨ cl_b6_114.slots.size ≤ ((1 : Int32)).toNatClampNeg) := inb_of S_b6 ⟨by decide, by decide⟩
  obtain ⟨T8, h8, X8, e8, W8, st8⟩ := stJ X7 hx hZ e7 Ar_b6 (j := (1 : Int32)) hin114 (g := (mkF m 114 #[.val (.long q1), .second, .val (.long q2), .second, .val (.long q3), .second, .val (.long q4), .second, .val (.int p5), .val (.long (own_pA q1 p5)), .second, .val (.long (own_pB q2 p5)), .second, .val (.long (own_pC q1 q3 p5)), .second, .val (.long (own_pD q2 q4 p5)), .second, .val (.ref b6), .unset, .unset, .unset, .unset] [(.long (own_pB q2 p5)), (.int (1 : Int32)), (.ref b6)])) rfl rfl (hb hby at_114)
  have V_b6_8 := Arv.set Ar_b6 q_b6 S_b6 N_b6 H_b6 G_b6 rfl W8 1 rfl (Nat.le_of_ble_eq_true rfl)
  have K8 : Keep h0 h8 [] := K7.wr W8 (Or.inr sz_b6)
  have N8 := Fr.snoc X8 N7 g_b6
  obtain ⟨T9, h9, k9, X9, e9, E9, A9, st9⟩ := newP X8 hx hZ (hw _ (List.mem_of_getElem? (i := 0) rfl)) e8 (g := (mkF m 116 #[.val (.long q1), .second, .val (.long q2), .second, .val (.long q3), .second, .val (.long q4), .second, .val (.int p5), .val (.long (own_pA q1 p5)), .second, .val (.long (own_pB q2 p5)), .second, .val (.long (own_pC q1 q3 p5)), .second, .val (.long (own_pD q2 q4 p5)), .second, .val (.ref b6), .unset, .unset, .unset, .unset] [(.int (2 : Int32))])) rfl (hb hby at_116) rfl (by decide) (cap := 2) (by decide) (by decide) (by decide) (by decide)
  obtain ⟨b9, g9⟩ : ∃ z, z = h8.size := ⟨_, rfl⟩
  rw [← g9] at A9 st9
  have V_b9 : Arv Z h9 b9 k9 .long (2 : Int32) [(.long (0 : Int64)), (.long (0 : Int64))] (.long (0 : Int64)) := (Arv.new A9 (by decide)).pad (pad_rep [] (.long (0 : Int64)) 2)
  have g_b9 : n0 ≤ b9 := Nat.le_trans (Nat.le_trans (Nat.le_trans (Nat.le_trans Z0 E6.1) (Keep.of_wr W7).1) (Keep.of_wr W8).1) (Nat.le_of_eq g9.symm)
  have sz_b9 : h0.size ≤ b9 := (Nat.le_trans K8.1 (Nat.le_of_eq g9.symm))
  have K9 : Keep h0 h9 [] := K8.ext E9
  obtain ⟨cl_b9_125, Ar_b9, q_b9, S_b9, N_b9, H_b9, G_b9⟩ := V_b9
  have hin125 : ¬ ((0 : Int32) < 0 ∨ cl_b9_125.slots.size ≤ ((0 : Int32)).toNatClampNeg) := inb_of S_b9 ⟨by decide, by decide⟩
  obtain ⟨T10, h10, X10, e10, W10, st10⟩ := stJ X9 hx hZ e9 Ar_b9 (j := (0 : Int32)) hin125 (g := (mkF m 125 #[.val (.long q1), .second, .val (.long q2), .second, .val (.long q3), .second, .val (.long q4), .second, .val (.int p5), .val (.long (own_pA q1 p5)), .second, .val (.long (own_pB q2 p5)), .second, .val (.long (own_pC q1 q3 p5)), .second, .val (.long (own_pD q2 q4 p5)), .second, .val (.ref b6), .val (.ref b9), .unset, .unset, .unset] [(.long (own_pC q1 q3 p5)), (.int (0 : Int32)), (.ref b9)])) rfl rfl (hb hby at_125)
  have V_b9_10 := Arv.set Ar_b9 q_b9 S_b9 N_b9 H_b9 G_b9 rfl W10 0 rfl (Nat.le_of_ble_eq_true rfl)
  have K10 : Keep h0 h10 [] := K9.wr W10 (Or.inr sz_b9)
  have N10 := Fr.snoc X10 N8 g_b9
  obtain ⟨cl_b9_131, Ar_b9, q_b9, S_b9, N_b9, H_b9, G_b9⟩ := V_b9_10
  have hin131 : ¬ ((1 : Int32) < 0 ∨ cl_b9_131.slots.size ≤ ((1 : Int32)).toNatClampNeg) := inb_of S_b9 ⟨by decide, by decide⟩
  obtain ⟨T11, h11, X11, e11, W11, st11⟩ := stJ X10 hx hZ e10 Ar_b9 (j := (1 : Int32)) hin131 (g := (mkF m 131 #[.val (.long q1), .second, .val (.long q2), .second, .val (.long q3), .second, .val (.long q4), .second, .val (.int p5), .val (.long (own_pA q1 p5)), .second, .val (.long (own_pB q2 p5)), .second, .val (.long (own_pC q1 q3 p5)), .second, .val (.long (own_pD q2 q4 p5)), .second, .val (.ref b6), .val (.ref b9), .unset, .unset, .unset] [(.long (own_pD q2 q4 p5)), (.int (1 : Int32)), (.ref b9)])) rfl rfl (hb hby at_131)
  have V_b9_11 := Arv.set Ar_b9 q_b9 S_b9 N_b9 H_b9 G_b9 rfl W11 1 rfl (Nat.le_of_ble_eq_true rfl)
  have K11 : Keep h0 h11 [] := K10.wr W11 (Or.inr sz_b9)
  have N11 := Fr.snoc X11 N10 g_b9
  obtain ⟨T12, h12, X12, e12, E12, A12, D12, -, st12⟩ := newO X11 hx hZ hown (hw _ (List.mem_of_getElem? (i := 1) rfl)) (hw _ (List.mem_of_getElem? (i := 2) rfl)) (hw _ (List.mem_of_getElem? (i := 3) rfl)) e11 (g := (mkF m 132 #[.val (.long q1), .second, .val (.long q2), .second, .val (.long q3), .second, .val (.long q4), .second, .val (.int p5), .val (.long (own_pA q1 p5)), .second, .val (.long (own_pB q2 p5)), .second, .val (.long (own_pC q1 q3 p5)), .second, .val (.long (own_pD q2 q4 p5)), .second, .val (.ref b6), .val (.ref b9), .unset, .unset, .unset] [])) rfl (hb hby at_132) (by decide) (by decide)
  obtain ⟨b12, g12⟩ : ∃ z, z = h11.size := ⟨_, rfl⟩
  rw [← g12] at A12 D12 st12
  have F_amounts_b12 : Fld Z h12 b12 "com/example/slotwise/slotwise/engine/Resources" "amounts" "[J" .null := D12 (Or.inr (hw _ (List.mem_of_getElem? (i := 11) rfl))) (ty := (.array .long)) (by decide)
  have F_processorsAlone_b12 : Fld Z h12 b12 "com/example/slotwise/slotwise/engine/Resources" "processorsAlone" "Z" (.int (0 : Int32)) := D12 (Or.inr (hw _ (List.mem_of_getElem? (i := 15) rfl))) (ty := .boolean) (by decide)
  have E_b12 := A12
  have g_b12 : n0 ≤ b12 := Nat.le_trans (Nat.le_trans (Nat.le_trans (Nat.le_trans (Nat.le_trans (Nat.le_trans (Nat.le_trans Z0 E6.1) (Keep.of_wr W7).1) (Keep.of_wr W8).1) E9.1) (Keep.of_wr W10).1) (Keep.of_wr W11).1) (Nat.le_of_eq g12.symm)
  have sz_b12 : h0.size ≤ b12 := (Nat.le_trans K11.1 (Nat.le_of_eq g12.symm))
  have K12 : Keep h0 h12 [] := K11.ext E12
  have l_b6_b9 : b6 < b9 := by rw [g9]; exact V_b6_8.lt
  have l_b9_b12 : b9 < b12 := by rw [g12]; exact V_b9_11.lt
  have m_b6_b9 : b6 ≠ b9 := by omega
  have m_b6_b12 : b6 ≠ b12 := by omega
  have m_b9_b12 : b9 ≠ b12 := by omega
  have O12 : Old Z n0 h12 := ((((((O0.ext E6).wr W7 g_b6).wr W8 g_b6).ext E9).wr W10 g_b9).wr W11 g_b9).ext E12
  have Zc13 : n0 ≤ h12.size := by have q := O12.2.1; rw [O12.1] at q; exact q
  have VA12 := ((((V_b6_8.ext E9).other W10 (m_b6_b9)).other W11 (m_b6_b9)).ext E12)
  have VB12 := V_b9_11.ext E12
  obtain ⟨_, _, ⟨T13, L13, k13, n13⟩, -, X13, ⟨Lc13, hQ13, l13, y13, z13⟩, st13⟩ := X12.specialBack hx (y := (⟨"com/example/slotwise/slotwise/engine/Resources", "<init>", "([J)V"⟩ : MethodName)) rfl hown (mvT hZ (hw _ (List.mem_of_getElem? (i := 4) rfl))) (mvT hZ (hw _ (List.mem_of_getElem? (i := 5) rfl))) (mvT hZ (hw _ (List.mem_of_getElem? (i := 6) rfl))) (by decide) (backOf (W := 1) (rmC l Z a0 hw [] b12 b6 k6 (own_pA q1 p5) (own_pB q2 p5) h12 n0 Zc13 E_b12 F_amounts_b12 F_processorsAlone_b12 g_b12 VA12 (S_P.ext O12.2) m_b6_b12) hZ (hw _ (List.mem_of_getElem? (i := 6) rfl)) (hw _ (List.mem_of_getElem? (i := 3) rfl)) (by decide) (by decide)) (g := (mkF m 138 #[.val (.long q1), .second, .val (.long q2), .second, .val (.long q3), .second, .val (.long q4), .second, .val (.int p5), .val (.long (own_pA q1 p5)), .second, .val (.long (own_pB q2 p5)), .second, .val (.long (own_pC q1 q3 p5)), .second, .val (.long (own_pD q2 q4 p5)), .second, .val (.ref b6), .val (.ref b9), .unset, .unset, .unset] [(.ref b6), (.ref b12), (.ref b12)])) rfl (by rw [hml]; rfl) (Steps.refl _) (a := b12) (argsL := [(.ref b6)]) (rest := [(.ref b12)]) (lenOf pd_0_0 rfl) rfl (by show 2 * 0 + _ ≤ _; exact Nat.le_of_eq rfl) (hb hby at_138) (fun _ _ => ⟨rfl, e12, (by decide : 3 + 0 ≤ _), (by decide : 6 + 0 ≤ _)⟩)
  dsimp only [Pt.U, Pt.locs, Pt.cells, Pt.slots] at X13 l13 y13 z13 st13 hQ13
  subst l13 y13 z13
  obtain ⟨rfl, N13q, Kc13, Yc13, Fc13⟩ := hQ13
  have O13 : Old Z n0 T13.heap := O12.keep Kc13 (fun x hx => by rw [List.mem_singleton.mp hx]; exact g_b12)
  have KT13 : Keep h0 T13.heap [] := K12.trans Kc13 (own_allge sz_b12)
  have VA13 := VA12.keep Kc13 (own_notin m_b6_b12)
  have VB13 := VB12.keep Kc13 (own_notin m_b9_b12)
  have N13 := Fr.app N11 N13q
  obtain ⟨T14, h14, X14, e14, E14, A14, D14, -, st14⟩ := newO X13 hx hZ hown (hw _ (List.mem_of_getElem? (i := 1) rfl)) (hw _ (List.mem_of_getElem? (i := 2) rfl)) (hw _ (List.mem_of_getElem? (i := 3) rfl)) rfl (g := (mkF m 143 #[.val (.long q1), .second, .val (.long q2), .second, .val (.long q3), .second, .val (.long q4), .second, .val (.int p5), .val (.long (own_pA q1 p5)), .second, .val (.long (own_pB q2 p5)), .second, .val (.long (own_pC q1 q3 p5)), .second, .val (.long (own_pD q2 q4 p5)), .second, .val (.ref b6), .val (.ref b9), .val (.ref b12), .unset, .unset] [])) rfl (hb hby at_143) (by decide) (by decide)
  obtain ⟨b14, g14⟩ : ∃ z, z = T13.heap.size := ⟨_, rfl⟩
  rw [← g14] at A14 D14 st14
  have F_amounts_b14 : Fld Z h14 b14 "com/example/slotwise/slotwise/engine/Resources" "amounts" "[J" .null := D14 (Or.inr (hw _ (List.mem_of_getElem? (i := 11) rfl))) (ty := (.array .long)) (by decide)
  have F_processorsAlone_b14 : Fld Z h14 b14 "com/example/slotwise/slotwise/engine/Resources" "processorsAlone" "Z" (.int (0 : Int32)) := D14 (Or.inr (hw _ (List.mem_of_getElem? (i := 15) rfl))) (ty := .boolean) (by decide)
  have E_b14 := A14
  have g_b14 : n0 ≤ b14 := Nat.le_trans (Nat.le_trans (Nat.le_trans (Nat.le_trans (Nat.le_trans (Nat.le_trans (Nat.le_trans (Nat.le_trans (Nat.le_trans Z0 E6.1) (Keep.of_wr W7).1) (Keep.of_wr W8).1) E9.1) (Keep.of_wr W10).1) (Keep.of_wr W11).1) E12.1) Kc13.1) (Nat.le_of_eq g14.symm)
  have sz_b14 : h0.size ≤ b14 := (Nat.le_trans KT13.1 (Nat.le_of_eq g14.symm))
  have K14 : Keep h0 h14 [] := KT13.ext E14
  have l_b12_b14 : b12 < b14 := by rw [g14]; exact Yc13.lt
  have m_b6_b14 : b6 ≠ b14 := by omega
  have m_b9_b14 : b9 ≠ b14 := by omega
  have m_b12_b14 : b12 ≠ b14 := by omega
  have O14 : Old Z n0 h14 := O13.ext E14
  have Zc15 : n0 ≤ h14.size := by have q := O14.2.1; rw [O14.1] at q; exact q
  obtain ⟨_, _, ⟨T15, L15, k15, n15⟩, -, X15, ⟨Lc15, hQ15, l15, y15, z15⟩, st15⟩ := X14.specialBack hx (y := (⟨"com/example/slotwise/slotwise/engine/Resources", "<init>", "([J)V"⟩ : MethodName)) rfl hown (mvT hZ (hw _ (List.mem_of_getElem? (i := 4) rfl))) (mvT hZ (hw _ (List.mem_of_getElem? (i := 5) rfl))) (mvT hZ (hw _ (List.mem_of_getElem? (i := 6) rfl))) (by decide) (backOf (W := 1) (rmC l Z a0 hw [] b14 b9 k9 (own_pC q1 q3 p5) (own_pD q2 q4 p5) h14 n0 Zc15 E_b14 F_amounts_b14 F_processorsAlone_b14 g_b14 (VB13.ext E14) (S_P.ext O14.2) m_b9_b14) hZ (hw _ (List.mem_of_getElem? (i := 6) rfl)) (hw _ (List.mem_of_getElem? (i := 3) rfl)) (by decide) (by decide)) (g := (mkF m 149 #[.val (.long q1), .second, .val (.long q2), .second, .val (.long q3), .second, .val (.long q4), .second, .val (.int p5), .val (.long (own_pA q1 p5)), .second, .val (.long (own_pB q2 p5)), .second, .val (.long (own_pC q1 q3 p5)), .second, .val (.long (own_pD q2 q4 p5)), .second, .val (.ref b6), .val (.ref b9), .val (.ref b12), .unset, .unset] [(.ref b9), (.ref b14), (.ref b14)])) rfl (by rw [hml]; rfl) (Steps.refl _) (a := b14) (argsL := [(.ref b9)]) (rest := [(.ref b14)]) (lenOf pd_0_0 rfl) rfl (by show 2 * 0 + _ ≤ _; exact Nat.le_of_eq rfl) (hb hby at_149) (fun _ _ => ⟨rfl, e14, (by decide : 4 + 0 ≤ _), (by decide : 8 + 0 ≤ _)⟩)
  dsimp only [Pt.U, Pt.locs, Pt.cells, Pt.slots] at X15 l15 y15 z15 st15 hQ15
  subst l15 y15 z15
  obtain ⟨rfl, N15q, Kc15, Yc15, Fc15⟩ := hQ15
  have O15 : Old Z n0 T15.heap := O14.keep Kc15 (fun x hx => by rw [List.mem_singleton.mp hx]; exact g_b14)
  have VA15 := (VA13.ext E14).keep Kc15 (own_notin m_b6_b14)
  have VB15 := (VB13.ext E14).keep Kc15 (own_notin m_b9_b14)
  have GA15 := (Fc13.ext E14).keep Kc15 (own_notin m_b12_b14)
  have Zl : n0 ≤ T15.heap.size := by have q := O15.2.1; rw [O15.1] at q; exact q
  have N15 := Fr.app N13 N15q
  obtain ⟨cq16, kq16, q16a, q16b, q16c⟩ := isOf hZ rfl (((E_b12.keep Kc13).ext E14).keep Kc15)
  obtain ⟨_, _, ⟨T16, L16, k16, n16⟩, -, X16, ⟨Lc16, hQ16, l16, y16, z16⟩, st16⟩ := X15.virtualBack hx (y := (⟨"com/example/slotwise/slotwise/engine/Resources", "canRunOn", "(Lcom/example/slotwise/slotwise/engine/Resources;)Z"⟩ : MethodName)) (z := (⟨"com/example/slotwise/slotwise/engine/Resources", "canRunOn", "(Lcom/example/slotwise/slotwise/engine/Resources;)Z"⟩ : MethodName)) hown (mvT hZ (hw _ (List.mem_of_getElem? (i := 16) rfl))) (mvT hZ (hw _ (List.mem_of_getElem? (i := 17) rfl))) (notFace_of_selects (args := #[]) (mvT hZ (hw _ (List.mem_of_getElem? (i := 19) rfl)))) (mvT hZ (hw _ (List.mem_of_getElem? (i := 19) rfl))) (mvT hZ (hw _ (List.mem_of_getElem? (i := 18) rfl))) (by decide) (backOf (W := 0) (rmR0 l Z a0 hw [] b12 b14 b6 b9 bL k6 k9 kL (own_pA q1 p5) (own_pB q2 p5) (own_pC q1 q3 p5) (own_pD q2 q4 p5) T15.heap n0 Zl GA15 Fc15 (S_L.ext O15.2) VA15 VB15 (V_L.ext O15.2) (Or.inr (Or.inr (Or.inr hc181)))) hZ (hw _ (List.mem_of_getElem? (i := 20) rfl)) (hw _ (List.mem_of_getElem? (i := 3) rfl)) (by decide) (by decide)) q16a q16c (g := (mkF m 195 #[.val (.long q1), .second, .val (.long q2), .second, .val (.long q3), .second, .val (.long q4), .second, .val (.int p5), .val (.long (own_pA q1 p5)), .second, .val (.long (own_pB q2 p5)), .second, .val (.long (own_pC q1 q3 p5)), .second, .val (.long (own_pD q2 q4 p5)), .second, .val (.ref b6), .val (.ref b9), .val (.ref b12), .val (.ref b14), .val (.int (0 : Int32))] [(.ref b14), (.ref b12)])) rfl (by rw [hml]; rfl) (Steps.refl _) (argsL := [(.ref b14)]) (rest := []) (lenOf pd_0_2 rfl) rfl (by show 2 * 0 + _ ≤ _; exact Nat.le_of_eq rfl) (hb hby at_195) (fun _ _ => ⟨rfl, rfl, (by decide : 4 + 0 ≤ _), (by decide : 8 + 0 ≤ _)⟩)
  dsimp only [Pt.U, Pt.locs, Pt.cells, Pt.slots] at X16 l16 y16 z16 st16 hQ16
  subst l16 y16 z16
  obtain ⟨rfl, N16q, e16q⟩ := hQ16
  have N16 := Fr.app N15 N16q
  obtain ⟨fs, hr, hrun, hended, hW, hsame⟩ := X16.leave (v := some (.int (1 : Int32))) (fun h => by rw [Bd.returns] at h; cases h)
  refine ⟨_, _, pre0 _ ?_, hrun, hended, _, _, rfl, ?_, ⟨_, rfl⟩, hW, hsame.mono (by decide) (by decide)⟩
  · show Steps p.tables e below (s₁.setTop (mkF m 98 #[.val (.long q1), .second, .val (.long q2), .second, .val (.long q3), .second, .val (.long q4), .second, .val (.int p5), .val (.long (own_pA q1 p5)), .second, .val (.long (own_pB q2 p5)), .second, .val (.long (own_pC q1 q3 p5)), .second, .val (.long (own_pD q2 q4 p5)), .second, .unset, .unset, .unset, .unset, .unset] [])) _
    refine XS.iconst X0.here hx rfl (hb hby at_98) ?_
    show Steps p.tables e below (s₁.setTop (mkF m 99 #[.val (.long q1), .second, .val (.long q2), .second, .val (.long q3), .second, .val (.long q4), .second, .val (.int p5), .val (.long (own_pA q1 p5)), .second, .val (.long (own_pB q2 p5)), .second, .val (.long (own_pC q1 q3 p5)), .second, .val (.long (own_pD q2 q4 p5)), .second, .unset, .unset, .unset, .unset, .unset] [(.int (2 : Int32))])) _
    refine st6 _ ?_
    show Steps p.tables e below (T6.setTop (mkF m 101 #[.val (.long q1), .second, .val (.long q2), .second, .val (.long q3), .second, .val (.long q4), .second, .val (.int p5), .val (.long (own_pA q1 p5)), .second, .val (.long (own_pB q2 p5)), .second, .val (.long (own_pC q1 q3 p5)), .second, .val (.long (own_pD q2 q4 p5)), .second, .unset, .unset, .unset, .unset, .unset] [(.ref b6)])) _
    refine XS.astore X6.here hx rfl (hb hby at_101) rfl rfl (l' := #[.val (.long q1), .second, .val (.long q2), .second, .val (.long q3), .second, .val (.long q4), .second, .val (.int p5), .val (.long (own_pA q1 p5)), .second, .val (.long (own_pB q2 p5)), .second, .val (.long (own_pC q1 q3 p5)), .second, .val (.long (own_pD q2 q4 p5)), .second, .val (.ref b6), .unset, .unset, .unset, .unset]) rfl ?_
    show Steps p.tables e below (T6.setTop (mkF m 103 #[.val (.long q1), .second, .val (.long q2), .second, .val (.long q3), .second, .val (.long q4), .second, .val (.int p5), .val (.long (own_pA q1 p5)), .second, .val (.long (own_pB q2 p5)), .second, .val (.long (own_pC q1 q3 p5)), .second, .val (.long (own_pD q2 q4 p5)), .second, .val (.ref b6), .unset, .unset, .unset, .unset] [])) _
    refine XS.aload X6.here hx rfl (hb hby at_103) rfl rfl ?_
    show Steps p.tables e below (T6.setTop (mkF m 105 #[.val (.long q1), .second, .val (.long q2), .second, .val (.long q3), .second, .val (.long q4), .second, .val (.int p5), .val (.long (own_pA q1 p5)), .second, .val (.long (own_pB q2 p5)), .second, .val (.long (own_pC q1 q3 p5)), .second, .val (.long (own_pD q2 q4 p5)), .second, .val (.ref b6), .unset, .unset, .unset, .unset] [(.ref b6)])) _
    refine XS.iconst X6.here hx rfl (hb hby at_105) ?_
    show Steps p.tables e below (T6.setTop (mkF m 106 #[.val (.long q1), .second, .val (.long q2), .second, .val (.long q3), .second, .val (.long q4), .second, .val (.int p5), .val (.long (own_pA q1 p5)), .second, .val (.long (own_pB q2 p5)), .second, .val (.long (own_pC q1 q3 p5)), .second, .val (.long (own_pD q2 q4 p5)), .second, .val (.ref b6), .unset, .unset, .unset, .unset] [(.int (0 : Int32)), (.ref b6)])) _
    refine XS.lload X6.here hx rfl (hb hby at_106) rfl ?_
    show Steps p.tables e below (T6.setTop (mkF m 108 #[.val (.long q1), .second, .val (.long q2), .second, .val (.long q3), .second, .val (.long q4), .second, .val (.int p5), .val (.long (own_pA q1 p5)), .second, .val (.long (own_pB q2 p5)), .second, .val (.long (own_pC q1 q3 p5)), .second, .val (.long (own_pD q2 q4 p5)), .second, .val (.ref b6), .unset, .unset, .unset, .unset] [(.long (own_pA q1 p5)), (.int (0 : Int32)), (.ref b6)])) _
    refine st7 _ ?_
    show Steps p.tables e below (T7.setTop (mkF m 109 #[.val (.long q1), .second, .val (.long q2), .second, .val (.long q3), .second, .val (.long q4), .second, .val (.int p5), .val (.long (own_pA q1 p5)), .second, .val (.long (own_pB q2 p5)), .second, .val (.long (own_pC q1 q3 p5)), .second, .val (.long (own_pD q2 q4 p5)), .second, .val (.ref b6), .unset, .unset, .unset, .unset] [])) _
    refine XS.aload X7.here hx rfl (hb hby at_109) rfl rfl ?_
    show Steps p.tables e below (T7.setTop (mkF m 111 #[.val (.long q1), .second, .val (.long q2), .second, .val (.long q3), .second, .val (.long q4), .second, .val (.int p5), .val (.long (own_pA q1 p5)), .second, .val (.long (own_pB q2 p5)), .second, .val (.long (own_pC q1 q3 p5)), .second, .val (.long (own_pD q2 q4 p5)), .second, .val (.ref b6), .unset, .unset, .unset, .unset] [(.ref b6)])) _
    refine XS.iconst X7.here hx rfl (hb hby at_111) ?_
    show Steps p.tables e below (T7.setTop (mkF m 112 #[.val (.long q1), .second, .val (.long q2), .second, .val (.long q3), .second, .val (.long q4), .second, .val (.int p5), .val (.long (own_pA q1 p5)), .second, .val (.long (own_pB q2 p5)), .second, .val (.long (own_pC q1 q3 p5)), .second, .val (.long (own_pD q2 q4 p5)), .second, .val (.ref b6), .unset, .unset, .unset, .unset] [(.int (1 : Int32)), (.ref b6)])) _
    refine XS.lload X7.here hx rfl (hb hby at_112) rfl ?_
    show Steps p.tables e below (T7.setTop (mkF m 114 #[.val (.long q1), .second, .val (.long q2), .second, .val (.long q3), .second, .val (.long q4), .second, .val (.int p5), .val (.long (own_pA q1 p5)), .second, .val (.long (own_pB q2 p5)), .second, .val (.long (own_pC q1 q3 p5)), .second, .val (.long (own_pD q2 q4 p5)), .second, .val (.ref b6), .unset, .unset, .unset, .unset] [(.long (own_pB q2 p5)), (.int (1 : Int32)), (.ref b6)])) _
    refine st8 _ ?_
    show Steps p.tables e below (T8.setTop (mkF m 115 #[.val (.long q1), .second, .val (.long q2), .second, .val (.long q3), .second, .val (.long q4), .second, .val (.int p5), .val (.long (own_pA q1 p5)), .second, .val (.long (own_pB q2 p5)), .second, .val (.long (own_pC q1 q3 p5)), .second, .val (.long (own_pD q2 q4 p5)), .second, .val (.ref b6), .unset, .unset, .unset, .unset] [])) _
    refine XS.iconst X8.here hx rfl (hb hby at_115) ?_
    show Steps p.tables e below (T8.setTop (mkF m 116 #[.val (.long q1), .second, .val (.long q2), .second, .val (.long q3), .second, .val (.long q4), .second, .val (.int p5), .val (.long (own_pA q1 p5)), .second, .val (.long (own_pB q2 p5)), .second, .val (.long (own_pC q1 q3 p5)), .second, .val (.long (own_pD q2 q4 p5)), .second, .val (.ref b6), .unset, .unset, .unset, .unset] [(.int (2 : Int32))])) _
    refine st9 _ ?_
    show Steps p.tables e below (T9.setTop (mkF m 118 #[.val (.long q1), .second, .val (.long q2), .second, .val (.long q3), .second, .val (.long q4), .second, .val (.int p5), .val (.long (own_pA q1 p5)), .second, .val (.long (own_pB q2 p5)), .second, .val (.long (own_pC q1 q3 p5)), .second, .val (.long (own_pD q2 q4 p5)), .second, .val (.ref b6), .unset, .unset, .unset, .unset] [(.ref b9)])) _
    refine XS.astore X9.here hx rfl (hb hby at_118) rfl rfl (l' := #[.val (.long q1), .second, .val (.long q2), .second, .val (.long q3), .second, .val (.long q4), .second, .val (.int p5), .val (.long (own_pA q1 p5)), .second, .val (.long (own_pB q2 p5)), .second, .val (.long (own_pC q1 q3 p5)), .second, .val (.long (own_pD q2 q4 p5)), .second, .val (.ref b6), .val (.ref b9), .unset, .unset, .unset]) rfl ?_
    show Steps p.tables e below (T9.setTop (mkF m 120 #[.val (.long q1), .second, .val (.long q2), .second, .val (.long q3), .second, .val (.long q4), .second, .val (.int p5), .val (.long (own_pA q1 p5)), .second, .val (.long (own_pB q2 p5)), .second, .val (.long (own_pC q1 q3 p5)), .second, .val (.long (own_pD q2 q4 p5)), .second, .val (.ref b6), .val (.ref b9), .unset, .unset, .unset] [])) _
    refine XS.aload X9.here hx rfl (hb hby at_120) rfl rfl ?_
    show Steps p.tables e below (T9.setTop (mkF m 122 #[.val (.long q1), .second, .val (.long q2), .second, .val (.long q3), .second, .val (.long q4), .second, .val (.int p5), .val (.long (own_pA q1 p5)), .second, .val (.long (own_pB q2 p5)), .second, .val (.long (own_pC q1 q3 p5)), .second, .val (.long (own_pD q2 q4 p5)), .second, .val (.ref b6), .val (.ref b9), .unset, .unset, .unset] [(.ref b9)])) _
    refine XS.iconst X9.here hx rfl (hb hby at_122) ?_
    show Steps p.tables e below (T9.setTop (mkF m 123 #[.val (.long q1), .second, .val (.long q2), .second, .val (.long q3), .second, .val (.long q4), .second, .val (.int p5), .val (.long (own_pA q1 p5)), .second, .val (.long (own_pB q2 p5)), .second, .val (.long (own_pC q1 q3 p5)), .second, .val (.long (own_pD q2 q4 p5)), .second, .val (.ref b6), .val (.ref b9), .unset, .unset, .unset] [(.int (0 : Int32)), (.ref b9)])) _
    refine XS.lload X9.here hx rfl (hb hby at_123) rfl ?_
    show Steps p.tables e below (T9.setTop (mkF m 125 #[.val (.long q1), .second, .val (.long q2), .second, .val (.long q3), .second, .val (.long q4), .second, .val (.int p5), .val (.long (own_pA q1 p5)), .second, .val (.long (own_pB q2 p5)), .second, .val (.long (own_pC q1 q3 p5)), .second, .val (.long (own_pD q2 q4 p5)), .second, .val (.ref b6), .val (.ref b9), .unset, .unset, .unset] [(.long (own_pC q1 q3 p5)), (.int (0 : Int32)), (.ref b9)])) _
    refine st10 _ ?_
    show Steps p.tables e below (T10.setTop (mkF m 126 #[.val (.long q1), .second, .val (.long q2), .second, .val (.long q3), .second, .val (.long q4), .second, .val (.int p5), .val (.long (own_pA q1 p5)), .second, .val (.long (own_pB q2 p5)), .second, .val (.long (own_pC q1 q3 p5)), .second, .val (.long (own_pD q2 q4 p5)), .second, .val (.ref b6), .val (.ref b9), .unset, .unset, .unset] [])) _
    refine XS.aload X10.here hx rfl (hb hby at_126) rfl rfl ?_
    show Steps p.tables e below (T10.setTop (mkF m 128 #[.val (.long q1), .second, .val (.long q2), .second, .val (.long q3), .second, .val (.long q4), .second, .val (.int p5), .val (.long (own_pA q1 p5)), .second, .val (.long (own_pB q2 p5)), .second, .val (.long (own_pC q1 q3 p5)), .second, .val (.long (own_pD q2 q4 p5)), .second, .val (.ref b6), .val (.ref b9), .unset, .unset, .unset] [(.ref b9)])) _
    refine XS.iconst X10.here hx rfl (hb hby at_128) ?_
    show Steps p.tables e below (T10.setTop (mkF m 129 #[.val (.long q1), .second, .val (.long q2), .second, .val (.long q3), .second, .val (.long q4), .second, .val (.int p5), .val (.long (own_pA q1 p5)), .second, .val (.long (own_pB q2 p5)), .second, .val (.long (own_pC q1 q3 p5)), .second, .val (.long (own_pD q2 q4 p5)), .second, .val (.ref b6), .val (.ref b9), .unset, .unset, .unset] [(.int (1 : Int32)), (.ref b9)])) _
    refine XS.lload X10.here hx rfl (hb hby at_129) rfl ?_
    show Steps p.tables e below (T10.setTop (mkF m 131 #[.val (.long q1), .second, .val (.long q2), .second, .val (.long q3), .second, .val (.long q4), .second, .val (.int p5), .val (.long (own_pA q1 p5)), .second, .val (.long (own_pB q2 p5)), .second, .val (.long (own_pC q1 q3 p5)), .second, .val (.long (own_pD q2 q4 p5)), .second, .val (.ref b6), .val (.ref b9), .unset, .unset, .unset] [(.long (own_pD q2 q4 p5)), (.int (1 : Int32)), (.ref b9)])) _
    refine st11 _ ?_
    show Steps p.tables e below (T11.setTop (mkF m 132 #[.val (.long q1), .second, .val (.long q2), .second, .val (.long q3), .second, .val (.long q4), .second, .val (.int p5), .val (.long (own_pA q1 p5)), .second, .val (.long (own_pB q2 p5)), .second, .val (.long (own_pC q1 q3 p5)), .second, .val (.long (own_pD q2 q4 p5)), .second, .val (.ref b6), .val (.ref b9), .unset, .unset, .unset] [])) _
    refine st12 _ ?_
    show Steps p.tables e below (T12.setTop (mkF m 135 #[.val (.long q1), .second, .val (.long q2), .second, .val (.long q3), .second, .val (.long q4), .second, .val (.int p5), .val (.long (own_pA q1 p5)), .second, .val (.long (own_pB q2 p5)), .second, .val (.long (own_pC q1 q3 p5)), .second, .val (.long (own_pD q2 q4 p5)), .second, .val (.ref b6), .val (.ref b9), .unset, .unset, .unset] [(.ref b12)])) _
    refine XS.dup X12.here hx rfl (hb hby at_135) rfl rfl ?_
    show Steps p.tables e below (T12.setTop (mkF m 136 #[.val (.long q1), .second, .val (.long q2), .second, .val (.long q3), .second, .val (.long q4), .second, .val (.int p5), .val (.long (own_pA q1 p5)), .second, .val (.long (own_pB q2 p5)), .second, .val (.long (own_pC q1 q3 p5)), .second, .val (.long (own_pD q2 q4 p5)), .second, .val (.ref b6), .val (.ref b9), .unset, .unset, .unset] [(.ref b12), (.ref b12)])) _
    refine XS.aload X12.here hx rfl (hb hby at_136) rfl rfl ?_
    show Steps p.tables e below (T12.setTop (mkF m 138 #[.val (.long q1), .second, .val (.long q2), .second, .val (.long q3), .second, .val (.long q4), .second, .val (.int p5), .val (.long (own_pA q1 p5)), .second, .val (.long (own_pB q2 p5)), .second, .val (.long (own_pC q1 q3 p5)), .second, .val (.long (own_pD q2 q4 p5)), .second, .val (.ref b6), .val (.ref b9), .unset, .unset, .unset] [(.ref b6), (.ref b12), (.ref b12)])) _
    refine st13.trans ?_
    show Steps p.tables e below (T13.setTop (mkF m 141 #[.val (.long q1), .second, .val (.long q2), .second, .val (.long q3), .second, .val (.long q4), .second, .val (.int p5), .val (.long (own_pA q1 p5)), .second, .val (.long (own_pB q2 p5)), .second, .val (.long (own_pC q1 q3 p5)), .second, .val (.long (own_pD q2 q4 p5)), .second, .val (.ref b6), .val (.ref b9), .unset, .unset, .unset] [(.ref b12)])) _
    refine XS.astore X13.here hx rfl (hb hby at_141) rfl rfl (l' := #[.val (.long q1), .second, .val (.long q2), .second, .val (.long q3), .second, .val (.long q4), .second, .val (.int p5), .val (.long (own_pA q1 p5)), .second, .val (.long (own_pB q2 p5)), .second, .val (.long (own_pC q1 q3 p5)), .second, .val (.long (own_pD q2 q4 p5)), .second, .val (.ref b6), .val (.ref b9), .val (.ref b12), .unset, .unset]) rfl ?_
    show Steps p.tables e below (T13.setTop (mkF m 143 #[.val (.long q1), .second, .val (.long q2), .second, .val (.long q3), .second, .val (.long q4), .second, .val (.int p5), .val (.long (own_pA q1 p5)), .second, .val (.long (own_pB q2 p5)), .second, .val (.long (own_pC q1 q3 p5)), .second, .val (.long (own_pD q2 q4 p5)), .second, .val (.ref b6), .val (.ref b9), .val (.ref b12), .unset, .unset] [])) _
    refine st14 _ ?_
    show Steps p.tables e below (T14.setTop (mkF m 146 #[.val (.long q1), .second, .val (.long q2), .second, .val (.long q3), .second, .val (.long q4), .second, .val (.int p5), .val (.long (own_pA q1 p5)), .second, .val (.long (own_pB q2 p5)), .second, .val (.long (own_pC q1 q3 p5)), .second, .val (.long (own_pD q2 q4 p5)), .second, .val (.ref b6), .val (.ref b9), .val (.ref b12), .unset, .unset] [(.ref b14)])) _
    refine XS.dup X14.here hx rfl (hb hby at_146) rfl rfl ?_
    show Steps p.tables e below (T14.setTop (mkF m 147 #[.val (.long q1), .second, .val (.long q2), .second, .val (.long q3), .second, .val (.long q4), .second, .val (.int p5), .val (.long (own_pA q1 p5)), .second, .val (.long (own_pB q2 p5)), .second, .val (.long (own_pC q1 q3 p5)), .second, .val (.long (own_pD q2 q4 p5)), .second, .val (.ref b6), .val (.ref b9), .val (.ref b12), .unset, .unset] [(.ref b14), (.ref b14)])) _
    refine XS.aload X14.here hx rfl (hb hby at_147) rfl rfl ?_
    show Steps p.tables e below (T14.setTop (mkF m 149 #[.val (.long q1), .second, .val (.long q2), .second, .val (.long q3), .second, .val (.long q4), .second, .val (.int p5), .val (.long (own_pA q1 p5)), .second, .val (.long (own_pB q2 p5)), .second, .val (.long (own_pC q1 q3 p5)), .second, .val (.long (own_pD q2 q4 p5)), .second, .val (.ref b6), .val (.ref b9), .val (.ref b12), .unset, .unset] [(.ref b9), (.ref b14), (.ref b14)])) _
    refine st15.trans ?_
    show Steps p.tables e below (T15.setTop (mkF m 152 #[.val (.long q1), .second, .val (.long q2), .second, .val (.long q3), .second, .val (.long q4), .second, .val (.int p5), .val (.long (own_pA q1 p5)), .second, .val (.long (own_pB q2 p5)), .second, .val (.long (own_pC q1 q3 p5)), .second, .val (.long (own_pD q2 q4 p5)), .second, .val (.ref b6), .val (.ref b9), .val (.ref b12), .unset, .unset] [(.ref b14)])) _
    refine XS.astore X15.here hx rfl (hb hby at_152) rfl rfl (l' := #[.val (.long q1), .second, .val (.long q2), .second, .val (.long q3), .second, .val (.long q4), .second, .val (.int p5), .val (.long (own_pA q1 p5)), .second, .val (.long (own_pB q2 p5)), .second, .val (.long (own_pC q1 q3 p5)), .second, .val (.long (own_pD q2 q4 p5)), .second, .val (.ref b6), .val (.ref b9), .val (.ref b12), .val (.ref b14), .unset]) rfl ?_
    show Steps p.tables e below (T15.setTop (mkF m 154 #[.val (.long q1), .second, .val (.long q2), .second, .val (.long q3), .second, .val (.long q4), .second, .val (.int p5), .val (.long (own_pA q1 p5)), .second, .val (.long (own_pB q2 p5)), .second, .val (.long (own_pC q1 q3 p5)), .second, .val (.long (own_pD q2 q4 p5)), .second, .val (.ref b6), .val (.ref b9), .val (.ref b12), .val (.ref b14), .unset] [])) _
    refine XS.lload X15.here hx rfl (hb hby at_154) rfl ?_
    show Steps p.tables e below (T15.setTop (mkF m 156 #[.val (.long q1), .second, .val (.long q2), .second, .val (.long q3), .second, .val (.long q4), .second, .val (.int p5), .val (.long (own_pA q1 p5)), .second, .val (.long (own_pB q2 p5)), .second, .val (.long (own_pC q1 q3 p5)), .second, .val (.long (own_pD q2 q4 p5)), .second, .val (.ref b6), .val (.ref b9), .val (.ref b12), .val (.ref b14), .unset] [(.long (own_pA q1 p5))])) _
    refine XS.lconst X15.here hx rfl (hb hby at_156) ?_
    show Steps p.tables e below (T15.setTop (mkF m 157 #[.val (.long q1), .second, .val (.long q2), .second, .val (.long q3), .second, .val (.long q4), .second, .val (.int p5), .val (.long (own_pA q1 p5)), .second, .val (.long (own_pB q2 p5)), .second, .val (.long (own_pC q1 q3 p5)), .second, .val (.long (own_pD q2 q4 p5)), .second, .val (.ref b6), .val (.ref b9), .val (.ref b12), .val (.ref b14), .unset] [(.long (1 : Int64)), (.long (own_pA q1 p5))])) _
    refine XS.lcmp X15.here hx rfl (hb hby at_157) rfl ?_
    show Steps p.tables e below (T15.setTop (mkF m 158 #[.val (.long q1), .second, .val (.long q2), .second, .val (.long q3), .second, .val (.long q4), .second, .val (.int p5), .val (.long (own_pA q1 p5)), .second, .val (.long (own_pB q2 p5)), .second, .val (.long (own_pC q1 q3 p5)), .second, .val (.long (own_pD q2 q4 p5)), .second, .val (.ref b6), .val (.ref b9), .val (.ref b12), .val (.ref b14), .unset] [(.int (lcmpW (own_pA q1 p5) (1 : Int64)))])) _
    refine XS.ifNo X15.here hx rfl (hb hby at_158) rfl ((if0 _ _).trans (flt hc158).1) ?_
    show Steps p.tables e below (T15.setTop (mkF m 161 #[.val (.long q1), .second, .val (.long q2), .second, .val (.long q3), .second, .val (.long q4), .second, .val (.int p5), .val (.long (own_pA q1 p5)), .second, .val (.long (own_pB q2 p5)), .second, .val (.long (own_pC q1 q3 p5)), .second, .val (.long (own_pD q2 q4 p5)), .second, .val (.ref b6), .val (.ref b9), .val (.ref b12), .val (.ref b14), .unset] [])) _
    refine XS.lload X15.here hx rfl (hb hby at_161) rfl ?_
    show Steps p.tables e below (T15.setTop (mkF m 163 #[.val (.long q1), .second, .val (.long q2), .second, .val (.long q3), .second, .val (.long q4), .second, .val (.int p5), .val (.long (own_pA q1 p5)), .second, .val (.long (own_pB q2 p5)), .second, .val (.long (own_pC q1 q3 p5)), .second, .val (.long (own_pD q2 q4 p5)), .second, .val (.ref b6), .val (.ref b9), .val (.ref b12), .val (.ref b14), .unset] [(.long (own_pB q2 p5))])) _
    refine XS.lconst X15.here hx rfl (hb hby at_163) ?_
    show Steps p.tables e below (T15.setTop (mkF m 164 #[.val (.long q1), .second, .val (.long q2), .second, .val (.long q3), .second, .val (.long q4), .second, .val (.int p5), .val (.long (own_pA q1 p5)), .second, .val (.long (own_pB q2 p5)), .second, .val (.long (own_pC q1 q3 p5)), .second, .val (.long (own_pD q2 q4 p5)), .second, .val (.ref b6), .val (.ref b9), .val (.ref b12), .val (.ref b14), .unset] [(.long (0 : Int64)), (.long (own_pB q2 p5))])) _
    refine XS.lcmp X15.here hx rfl (hb hby at_164) rfl ?_
    show Steps p.tables e below (T15.setTop (mkF m 165 #[.val (.long q1), .second, .val (.long q2), .second, .val (.long q3), .second, .val (.long q4), .second, .val (.int p5), .val (.long (own_pA q1 p5)), .second, .val (.long (own_pB q2 p5)), .second, .val (.long (own_pC q1 q3 p5)), .second, .val (.long (own_pD q2 q4 p5)), .second, .val (.ref b6), .val (.ref b9), .val (.ref b12), .val (.ref b14), .unset] [(.int (lcmpW (own_pB q2 p5) (0 : Int64)))])) _
    refine XS.ifNo X15.here hx rfl (hb hby at_165) rfl ((if0 _ _).trans (flt hc165).1) ?_
    show Steps p.tables e below (T15.setTop (mkF m 168 #[.val (.long q1), .second, .val (.long q2), .second, .val (.long q3), .second, .val (.long q4), .second, .val (.int p5), .val (.long (own_pA q1 p5)), .second, .val (.long (own_pB q2 p5)), .second, .val (.long (own_pC q1 q3 p5)), .second, .val (.long (own_pD q2 q4 p5)), .second, .val (.ref b6), .val (.ref b9), .val (.ref b12), .val (.ref b14), .unset] [])) _
    refine XS.lload X15.here hx rfl (hb hby at_168) rfl ?_
    show Steps p.tables e below (T15.setTop (mkF m 170 #[.val (.long q1), .second, .val (.long q2), .second, .val (.long q3), .second, .val (.long q4), .second, .val (.int p5), .val (.long (own_pA q1 p5)), .second, .val (.long (own_pB q2 p5)), .second, .val (.long (own_pC q1 q3 p5)), .second, .val (.long (own_pD q2 q4 p5)), .second, .val (.ref b6), .val (.ref b9), .val (.ref b12), .val (.ref b14), .unset] [(.long (own_pA q1 p5))])) _
    refine XS.lload X15.here hx rfl (hb hby at_170) rfl ?_
    show Steps p.tables e below (T15.setTop (mkF m 172 #[.val (.long q1), .second, .val (.long q2), .second, .val (.long q3), .second, .val (.long q4), .second, .val (.int p5), .val (.long (own_pA q1 p5)), .second, .val (.long (own_pB q2 p5)), .second, .val (.long (own_pC q1 q3 p5)), .second, .val (.long (own_pD q2 q4 p5)), .second, .val (.ref b6), .val (.ref b9), .val (.ref b12), .val (.ref b14), .unset] [(.long (own_pC q1 q3 p5)), (.long (own_pA q1 p5))])) _
    refine XS.lcmp X15.here hx rfl (hb hby at_172) rfl ?_
    show Steps p.tables e below (T15.setTop (mkF m 173 #[.val (.long q1), .second, .val (.long q2), .second, .val (.long q3), .second, .val (.long q4), .second, .val (.int p5), .val (.long (own_pA q1 p5)), .second, .val (.long (own_pB q2 p5)), .second, .val (.long (own_pC q1 q3 p5)), .second, .val (.long (own_pD q2 q4 p5)), .second, .val (.ref b6), .val (.ref b9), .val (.ref b12), .val (.ref b14), .unset] [(.int (lcmpW (own_pA q1 p5) (own_pC q1 q3 p5)))])) _
    refine XS.ifNo X15.here hx rfl (hb hby at_173) rfl ((if0 _ _).trans (flt hc173).2.2.1) ?_
    show Steps p.tables e below (T15.setTop (mkF m 176 #[.val (.long q1), .second, .val (.long q2), .second, .val (.long q3), .second, .val (.long q4), .second, .val (.int p5), .val (.long (own_pA q1 p5)), .second, .val (.long (own_pB q2 p5)), .second, .val (.long (own_pC q1 q3 p5)), .second, .val (.long (own_pD q2 q4 p5)), .second, .val (.ref b6), .val (.ref b9), .val (.ref b12), .val (.ref b14), .unset] [])) _
    refine XS.lload X15.here hx rfl (hb hby at_176) rfl ?_
    show Steps p.tables e below (T15.setTop (mkF m 178 #[.val (.long q1), .second, .val (.long q2), .second, .val (.long q3), .second, .val (.long q4), .second, .val (.int p5), .val (.long (own_pA q1 p5)), .second, .val (.long (own_pB q2 p5)), .second, .val (.long (own_pC q1 q3 p5)), .second, .val (.long (own_pD q2 q4 p5)), .second, .val (.ref b6), .val (.ref b9), .val (.ref b12), .val (.ref b14), .unset] [(.long (own_pB q2 p5))])) _
    refine XS.lload X15.here hx rfl (hb hby at_178) rfl ?_
    show Steps p.tables e below (T15.setTop (mkF m 180 #[.val (.long q1), .second, .val (.long q2), .second, .val (.long q3), .second, .val (.long q4), .second, .val (.int p5), .val (.long (own_pA q1 p5)), .second, .val (.long (own_pB q2 p5)), .second, .val (.long (own_pC q1 q3 p5)), .second, .val (.long (own_pD q2 q4 p5)), .second, .val (.ref b6), .val (.ref b9), .val (.ref b12), .val (.ref b14), .unset] [(.long (own_pD q2 q4 p5)), (.long (own_pB q2 p5))])) _
    refine XS.lcmp X15.here hx rfl (hb hby at_180) rfl ?_
    show Steps p.tables e below (T15.setTop (mkF m 181 #[.val (.long q1), .second, .val (.long q2), .second, .val (.long q3), .second, .val (.long q4), .second, .val (.int p5), .val (.long (own_pA q1 p5)), .second, .val (.long (own_pB q2 p5)), .second, .val (.long (own_pC q1 q3 p5)), .second, .val (.long (own_pD q2 q4 p5)), .second, .val (.ref b6), .val (.ref b9), .val (.ref b12), .val (.ref b14), .unset] [(.int (lcmpW (own_pB q2 p5) (own_pD q2 q4 p5)))])) _
    refine XS.ifYes X15.here hx rfl (pc0 := 181) (pc' := 188) rfl (hb hby at_181) rfl ((if0 _ _).trans (tlt hc181).2.2.1) (by decide) (by decide) ?_
    show Steps p.tables e below (T15.setTop (mkF m 188 #[.val (.long q1), .second, .val (.long q2), .second, .val (.long q3), .second, .val (.long q4), .second, .val (.int p5), .val (.long (own_pA q1 p5)), .second, .val (.long (own_pB q2 p5)), .second, .val (.long (own_pC q1 q3 p5)), .second, .val (.long (own_pD q2 q4 p5)), .second, .val (.ref b6), .val (.ref b9), .val (.ref b12), .val (.ref b14), .unset] [])) _
    refine XS.iconst X15.here hx rfl (hb hby at_188) ?_
    show Steps p.tables e below (T15.setTop (mkF m 189 #[.val (.long q1), .second, .val (.long q2), .second, .val (.long q3), .second, .val (.long q4), .second, .val (.int p5), .val (.long (own_pA q1 p5)), .second, .val (.long (own_pB q2 p5)), .second, .val (.long (own_pC q1 q3 p5)), .second, .val (.long (own_pD q2 q4 p5)), .second, .val (.ref b6), .val (.ref b9), .val (.ref b12), .val (.ref b14), .unset] [(.int (0 : Int32))])) _
    refine XS.istore X15.here hx rfl (hb hby at_189) rfl (l' := #[.val (.long q1), .second, .val (.long q2), .second, .val (.long q3), .second, .val (.long q4), .second, .val (.int p5), .val (.long (own_pA q1 p5)), .second, .val (.long (own_pB q2 p5)), .second, .val (.long (own_pC q1 q3 p5)), .second, .val (.long (own_pD q2 q4 p5)), .second, .val (.ref b6), .val (.ref b9), .val (.ref b12), .val (.ref b14), .val (.int (0 : Int32))]) rfl ?_
    show Steps p.tables e below (T15.setTop (mkF m 191 #[.val (.long q1), .second, .val (.long q2), .second, .val (.long q3), .second, .val (.long q4), .second, .val (.int p5), .val (.long (own_pA q1 p5)), .second, .val (.long (own_pB q2 p5)), .second, .val (.long (own_pC q1 q3 p5)), .second, .val (.long (own_pD q2 q4 p5)), .second, .val (.ref b6), .val (.ref b9), .val (.ref b12), .val (.ref b14), .val (.int (0 : Int32))] [])) _
    refine XS.aload X15.here hx rfl (hb hby at_191) rfl rfl ?_
    show Steps p.tables e below (T15.setTop (mkF m 193 #[.val (.long q1), .second, .val (.long q2), .second, .val (.long q3), .second, .val (.long q4), .second, .val (.int p5), .val (.long (own_pA q1 p5)), .second, .val (.long (own_pB q2 p5)), .second, .val (.long (own_pC q1 q3 p5)), .second, .val (.long (own_pD q2 q4 p5)), .second, .val (.ref b6), .val (.ref b9), .val (.ref b12), .val (.ref b14), .val (.int (0 : Int32))] [(.ref b12)])) _
    refine XS.aload X15.here hx rfl (hb hby at_193) rfl rfl ?_
    show Steps p.tables e below (T15.setTop (mkF m 195 #[.val (.long q1), .second, .val (.long q2), .second, .val (.long q3), .second, .val (.long q4), .second, .val (.int p5), .val (.long (own_pA q1 p5)), .second, .val (.long (own_pB q2 p5)), .second, .val (.long (own_pC q1 q3 p5)), .second, .val (.long (own_pD q2 q4 p5)), .second, .val (.ref b6), .val (.ref b9), .val (.ref b12), .val (.ref b14), .val (.int (0 : Int32))] [(.ref b14), (.ref b12)])) _
    refine st16.trans ?_
    show Steps p.tables e below (T16.setTop (mkF m 198 #[.val (.long q1), .second, .val (.long q2), .second, .val (.long q3), .second, .val (.long q4), .second, .val (.int p5), .val (.long (own_pA q1 p5)), .second, .val (.long (own_pB q2 p5)), .second, .val (.long (own_pC q1 q3 p5)), .second, .val (.long (own_pD q2 q4 p5)), .second, .val (.ref b6), .val (.ref b9), .val (.ref b12), .val (.ref b14), .val (.int (0 : Int32))] [(.int (0 : Int32))])) _
    refine XS.iload X16.here hx rfl (hb hby at_198) rfl ?_
    show Steps p.tables e below (T16.setTop (mkF m 200 #[.val (.long q1), .second, .val (.long q2), .second, .val (.long q3), .second, .val (.long q4), .second, .val (.int p5), .val (.long (own_pA q1 p5)), .second, .val (.long (own_pB q2 p5)), .second, .val (.long (own_pC q1 q3 p5)), .second, .val (.long (own_pD q2 q4 p5)), .second, .val (.ref b6), .val (.ref b9), .val (.ref b12), .val (.ref b14), .val (.int (0 : Int32))] [(.int (0 : Int32)), (.int (0 : Int32))])) _
    refine XS.icmpNo X16.here hx rfl (hb hby at_200) rfl (teq (rfl : (0 : Int32) = (0 : Int32))).2 ?_
    show Steps p.tables e below (T16.setTop (mkF m 203 #[.val (.long q1), .second, .val (.long q2), .second, .val (.long q3), .second, .val (.long q4), .second, .val (.int p5), .val (.long (own_pA q1 p5)), .second, .val (.long (own_pB q2 p5)), .second, .val (.long (own_pC q1 q3 p5)), .second, .val (.long (own_pD q2 q4 p5)), .second, .val (.ref b6), .val (.ref b9), .val (.ref b12), .val (.ref b14), .val (.int (0 : Int32))] [])) _
    refine XS.iconst X16.here hx rfl (hb hby at_203) ?_
    show Steps p.tables e below (T16.setTop (mkF m 204 #[.val (.long q1), .second, .val (.long q2), .second, .val (.long q3), .second, .val (.long q4), .second, .val (.int p5), .val (.long (own_pA q1 p5)), .second, .val (.long (own_pB q2 p5)), .second, .val (.long (own_pC q1 q3 p5)), .second, .val (.long (own_pD q2 q4 p5)), .second, .val (.ref b6), .val (.ref b9), .val (.ref b12), .val (.ref b14), .val (.int (0 : Int32))] [(.int (1 : Int32))])) _
    refine XS.goto X16.here hx rfl (pc0 := 204) (pc' := 208) rfl (hb hby at_204) (by decide) (by decide) ?_
    show Steps p.tables e below (T16.setTop (mkF m 208 #[.val (.long q1), .second, .val (.long q2), .second, .val (.long q3), .second, .val (.long q4), .second, .val (.int p5), .val (.long (own_pA q1 p5)), .second, .val (.long (own_pB q2 p5)), .second, .val (.long (own_pC q1 q3 p5)), .second, .val (.long (own_pD q2 q4 p5)), .second, .val (.ref b6), .val (.ref b9), .val (.ref b12), .val (.ref b14), .val (.int (0 : Int32))] [(.int (1 : Int32))])) _
    exact retN X16 hx (t := .boolean) Bd.returns (by simp) (hb hby at_208) hr
  · show Q0 Z q1 q2 q3 q4 p5 h0 n0 _ T16.heap _
    exact ⟨rfl, N16⟩
set_option maxRecDepth 65536 in
set_option maxHeartbeats 40000000 in
theorem rm0_4 (l : Launch) (Z : State) (a0 : Array Value) (hw : ∀ d ∈ tables_1, d.before a0 Z = true) (ws : List Jvm.Cond) (q1 : Int64) (q2 : Int64) (q3 : Int64) (q4 : Int64) (p5 : Int32) (h0 : Heap) (n0 : Nat) (Z0 : n0 ≤ h0.size) (O0 : Old Z n0 h0) (S_P : Sta Z Z.heap "com/example/slotwise/slotwise/engine/Resources" "PROCESSORS" "I" (.int (0 : Int32))) (bL : Addr) (kL : ClassId) (S_L : Sta Z Z.heap "com/example/slotwise/slotwise/engine/Resources" "LEAST" "[J" (.ref bL)) (V_L : Arv Z Z.heap bL kL .long (2 : Int32) [(.long (1 : Int64)), (.long (0 : Int64))] (.long (0 : Int64))) (hc158 : ¬ ((lcmpW (own_pA q1 p5) (1 : Int64)) < (0 : Int32))) (hc165 : ¬ ((lcmpW (own_pB q2 p5) (0 : Int64)) < (0 : Int32))) (hc173 : ¬ ((0 : Int32) < (lcmpW (own_pA q1 p5) (own_pC q1 q3 p5)))) (hc181 : ¬ ((0 : Int32) < (lcmpW (own_pB q2 p5) (own_pD q2 q4 p5)))) :
    MetFree l x (head1 (Jvm.Cond.code x code maxLocals ret :: ws) room_1) (fun a U => a = #[(.long q1), (.long q2), (.long q3), (.long q4), (.int p5)] ∧ Z.Warmed39 U.vm ∧ U.heap = h0) (fun _ _ _ _ _ => True) (fun _ U o U' => ∃ v L, o = .returned v ∧ Q0 Z q1 q2 q3 q4 p5 h0 n0 v U'.heap L ∧ FrameEnd U o U' L room_1.cells room_1.slots) := by
  refine MetFree.of_bodySF (plainFor_of_name pn_0) hisR ?_
  intro p e s m args below meth c s₁ Bd hml0 hP hK
  obtain ⟨rfl, hZ, hh⟩ := hP
  have hx := Bd.exec
  have hby := Bd.bytes
  have hml : c.maxLocals = 22 := hml0
  have hown : s.vm.findClass "com/example/slotwise/slotwise/engine/ResourcesCanRunOnPinLaw" = some m.cls := findClass_of_methodNamed Bd.named
  have hnm := (name_of_methodNamed Bd.named Bd.method).1
  have X0 : Stand p l e room_1 s m #[(.long q1), (.long q2), (.long q3), (.long q4), (.int p5)] below meth c s₁ [] 0 0 := Stand.of_body Bd
  have e0 : s₁.heap = h0 := by rw [← hh, Bd.state]; rfl
  have N0 := Fr.nil n0
  have pre0 : ∀ t, Steps p.tables e below (s₁.setTop (mkF m 98 #[.val (.long q1), .second, .val (.long q2), .second, .val (.long q3), .second, .val (.long q4), .second, .val (.int p5), .val (.long (own_pA q1 p5)), .second, .val (.long (own_pB q2 p5)), .second, .val (.long (own_pC q1 q3 p5)), .second, .val (.long (own_pD q2 q4 p5)), .second, .unset, .unset, .unset, .unset, .unset] [])) t → Steps p.tables e below (s₁.setTop (entryFrame m #[(.long q1), (.long q2), (.long q3), (.long q4), (.int p5)] maxLocals)) t := fun t k => castTop (ef_0 m q1 q2 q3 q4 p5) (pcs_A q1 q2 q3 q4 p5 X0 hx hby t (pcs_B q1 q2 q3 q4 p5 X0 hx hby t (pcs_C q1 q2 q3 q4 p5 X0 hx hby t (pcs_D q1 q2 q3 q4 p5 X0 hx hby t k))))
  obtain ⟨T6, h6, k6, X6, e6, E6, A6, st6⟩ := newP X0 hx hZ (hw _ (List.mem_of_getElem? (i := 0) rfl)) e0 (g := (mkF m 99 #[.val (.long q1), .second, .val (.long q2), .second, .val (.long q3), .second, .val (.long q4), .second, .val (.int p5), .val (.long (own_pA q1 p5)), .second, .val (.long (own_pB q2 p5)), .second, .val (.long (own_pC q1 q3 p5)), .second, .val (.long (own_pD q2 q4 p5)), .second, .unset, .unset, .unset, .unset, .unset] [(.int (2 : Int32))])) rfl (hb hby at_99) rfl (by decide) (cap := 2) (by decide) (by decide) (by decide) (by decide)
  obtain ⟨b6, g6⟩ : ∃ z, z = h0.size := ⟨_, rfl⟩
  rw [← g6] at A6 st6
  have V_b6 : Arv Z h6 b6 k6 .long (2 : Int32) [(.long (0 : Int64)), (.long (0 : Int64))] (.long (0 : Int64)) := (Arv.new A6 (by decide)).pad (pad_rep [] (.long (0 : Int64)) 2)
  have g_b6 : n0 ≤ b6 := Nat.le_trans Z0 (Nat.le_of_eq g6.symm)
  have sz_b6 : h0.size ≤ b6 := (Nat.le_trans (Keep.refl h0 []).1 (Nat.le_of_eq g6.symm))
  have K6 : Keep h0 h6 [] := (Keep.refl h0 []).ext E6
  obtain ⟨cl_b6_108, Ar_b6, q_b6, S_b6, N_b6, H_b6, G_b6⟩ := V_b6
  have hin108 : ¬ ((0 : Int32) < 0 ∨ cl_b6_108.slots.size ≤ ((0 : Int32)).toNatClampNeg) := inb_of S_b6 ⟨by decide, by decide⟩
  obtain ⟨T7, h7, X7, e7, W7, st7⟩ := stJ X6 hx hZ e6 Ar_b6 (j := (0 : Int32)) hin108 (g := (mkF m 108 #[.val (.long q1), .second, .val (.long q2), .second, .val (.long q3), .second, .val (.long q4), .second, .val (.int p5), .val (.long (own_pA q1 p5)), .second, .val (.long (own_pB q2 p5)), .second, .val (.long (own_pC q1 q3 p5)), .second, .val (.long (own_pD q2 q4 p5)), .second, .val (.ref b6), .unset, .unset, .unset, .unset] [(.long (own_pA q1 p5)), (.int (0 : Int32)), (.ref b6)])) rfl rfl (hb hby at_108)
  have V_b6_7 := Arv.set Ar_b6 q_b6 S_b6 N_b6 H_b6 G_b6 rfl W7 0 rfl (Nat.le_of_ble_eq_true rfl)
  have K7 : Keep h0 h7 [] := K6.wr W7 (Or.inr sz_b6)
  have N7 := Fr.snoc X7 N0 g_b6
  obtain ⟨cl_b6_114, Ar_b6, q_b6, S_b6, N_b6, H_b6, G_b6⟩ := V_b6_7
  have hin114 : ¬ ((1 : Int32) < 0 ∨ cl_b6_114.slots.size ≤ ((1 : Int32)).toNatClampNeg) := inb_of S_b6 ⟨by decide, by decide⟩
  obtain ⟨T8, h8, X8, e8, W8, st8⟩ := stJ X7 hx hZ e7 Ar_b6 (j := (1 : Int32)) hin114 (g := (mkF m 114 #[.val (.long q1), .second, .val (.long q2), .second, .val (.long q3), .second, .val (.long q4), .second, .val (.int p5), .val (.long (own_pA q1 p5)), .second, .val (.long (own_pB q2 p5)), .second, .val (.long (own_pC q1 q3 p5)), .second, .val (.long (own_pD q2 q4 p5)), .second, .val (.ref b6), .unset, .unset, .unset, .unset] [(.long (own_pB q2 p5)), (.int (1 : Int32)), (.ref b6)])) rfl rfl (hb hby at_114)
  have V_b6_8 := Arv.set Ar_b6 q_b6 S_b6 N_b6 H_b6 G_b6 rfl W8 1 rfl (Nat.le_of_ble_eq_true rfl)
  have K8 : Keep h0 h8 [] := K7.wr W8 (Or.inr sz_b6)
  have N8 := Fr.snoc X8 N7 g_b6
  obtain ⟨T9, h9, k9, X9, e9, E9, A9, st9⟩ := newP X8 hx hZ (hw _ (List.mem_of_getElem? (i := 0) rfl)) e8 (g := (mkF m 116 #[.val (.long q1), .second, .val (.long q2), .second, .val (.long q3), .second, .val (.long q4), .second, .val (.int p5), .val (.long (own_pA q1 p5)), .second, .val (.long (own_pB q2 p5)), .second, .val (.long (own_pC q1 q3 p5)), .second, .val (.long (own_pD q2 q4 p5)), .second, .val (.ref b6), .unset, .unset, .unset, .unset] [(.int (2 : Int32))])) rfl (hb hby at_116) rfl (by decide) (cap := 2) (by decide) (by decide) (by decide) (by decide)
  obtain ⟨b9, g9⟩ : ∃ z, z = h8.size := ⟨_, rfl⟩
  rw [← g9] at A9 st9
  have V_b9 : Arv Z h9 b9 k9 .long (2 : Int32) [(.long (0 : Int64)), (.long (0 : Int64))] (.long (0 : Int64)) := (Arv.new A9 (by decide)).pad (pad_rep [] (.long (0 : Int64)) 2)
  have g_b9 : n0 ≤ b9 := Nat.le_trans (Nat.le_trans (Nat.le_trans (Nat.le_trans Z0 E6.1) (Keep.of_wr W7).1) (Keep.of_wr W8).1) (Nat.le_of_eq g9.symm)
  have sz_b9 : h0.size ≤ b9 := (Nat.le_trans K8.1 (Nat.le_of_eq g9.symm))
  have K9 : Keep h0 h9 [] := K8.ext E9
  obtain ⟨cl_b9_125, Ar_b9, q_b9, S_b9, N_b9, H_b9, G_b9⟩ := V_b9
  have hin125 : ¬ ((0 : Int32) < 0 ∨ cl_b9_125.slots.size ≤ ((0 : Int32)).toNatClampNeg) := inb_of S_b9 ⟨by decide, by decide⟩
  obtain ⟨T10, h10, X10, e10, W10, st10⟩ := stJ X9 hx hZ e9 Ar_b9 (j := (0 : Int32)) hin125 (g := (mkF m 125 #[.val (.long q1), .second, .val (.long q2), .second, .val (.long q3), .second, .val (.long q4), .second, .val (.int p5), .val (.long (own_pA q1 p5)), .second, .val (.long (own_pB q2 p5)), .second, .val (.long (own_pC q1 q3 p5)), .second, .val (.long (own_pD q2 q4 p5)), .second, .val (.ref b6), .val (.ref b9), .unset, .unset, .unset] [(.long (own_pC q1 q3 p5)), (.int (0 : Int32)), (.ref b9)])) rfl rfl (hb hby at_125)
  have V_b9_10 := Arv.set Ar_b9 q_b9 S_b9 N_b9 H_b9 G_b9 rfl W10 0 rfl (Nat.le_of_ble_eq_true rfl)
  have K10 : Keep h0 h10 [] := K9.wr W10 (Or.inr sz_b9)
  have N10 := Fr.snoc X10 N8 g_b9
  obtain ⟨cl_b9_131, Ar_b9, q_b9, S_b9, N_b9, H_b9, G_b9⟩ := V_b9_10
  have hin131 : ¬ ((1 : Int32) < 0 ∨ cl_b9_131.slots.size ≤ ((1 : Int32)).toNatClampNeg) := inb_of S_b9 ⟨by decide, by decide⟩
  obtain ⟨T11, h11, X11, e11, W11, st11⟩ := stJ X10 hx hZ e10 Ar_b9 (j := (1 : Int32)) hin131 (g := (mkF m 131 #[.val (.long q1), .second, .val (.long q2), .second, .val (.long q3), .second, .val (.long q4), .second, .val (.int p5), .val (.long (own_pA q1 p5)), .second, .val (.long (own_pB q2 p5)), .second, .val (.long (own_pC q1 q3 p5)), .second, .val (.long (own_pD q2 q4 p5)), .second, .val (.ref b6), .val (.ref b9), .unset, .unset, .unset] [(.long (own_pD q2 q4 p5)), (.int (1 : Int32)), (.ref b9)])) rfl rfl (hb hby at_131)
  have V_b9_11 := Arv.set Ar_b9 q_b9 S_b9 N_b9 H_b9 G_b9 rfl W11 1 rfl (Nat.le_of_ble_eq_true rfl)
  have K11 : Keep h0 h11 [] := K10.wr W11 (Or.inr sz_b9)
  have N11 := Fr.snoc X11 N10 g_b9
  obtain ⟨T12, h12, X12, e12, E12, A12, D12, -, st12⟩ := newO X11 hx hZ hown (hw _ (List.mem_of_getElem? (i := 1) rfl)) (hw _ (List.mem_of_getElem? (i := 2) rfl)) (hw _ (List.mem_of_getElem? (i := 3) rfl)) e11 (g := (mkF m 132 #[.val (.long q1), .second, .val (.long q2), .second, .val (.long q3), .second, .val (.long q4), .second, .val (.int p5), .val (.long (own_pA q1 p5)), .second, .val (.long (own_pB q2 p5)), .second, .val (.long (own_pC q1 q3 p5)), .second, .val (.long (own_pD q2 q4 p5)), .second, .val (.ref b6), .val (.ref b9), .unset, .unset, .unset] [])) rfl (hb hby at_132) (by decide) (by decide)
  obtain ⟨b12, g12⟩ : ∃ z, z = h11.size := ⟨_, rfl⟩
  rw [← g12] at A12 D12 st12
  have F_amounts_b12 : Fld Z h12 b12 "com/example/slotwise/slotwise/engine/Resources" "amounts" "[J" .null := D12 (Or.inr (hw _ (List.mem_of_getElem? (i := 11) rfl))) (ty := (.array .long)) (by decide)
  have F_processorsAlone_b12 : Fld Z h12 b12 "com/example/slotwise/slotwise/engine/Resources" "processorsAlone" "Z" (.int (0 : Int32)) := D12 (Or.inr (hw _ (List.mem_of_getElem? (i := 15) rfl))) (ty := .boolean) (by decide)
  have E_b12 := A12
  have g_b12 : n0 ≤ b12 := Nat.le_trans (Nat.le_trans (Nat.le_trans (Nat.le_trans (Nat.le_trans (Nat.le_trans (Nat.le_trans Z0 E6.1) (Keep.of_wr W7).1) (Keep.of_wr W8).1) E9.1) (Keep.of_wr W10).1) (Keep.of_wr W11).1) (Nat.le_of_eq g12.symm)
  have sz_b12 : h0.size ≤ b12 := (Nat.le_trans K11.1 (Nat.le_of_eq g12.symm))
  have K12 : Keep h0 h12 [] := K11.ext E12
  have l_b6_b9 : b6 < b9 := by rw [g9]; exact V_b6_8.lt
  have l_b9_b12 : b9 < b12 := by rw [g12]; exact V_b9_11.lt
  have m_b6_b9 : b6 ≠ b9 := by omega
  have m_b6_b12 : b6 ≠ b12 := by omega
  have m_b9_b12 : b9 ≠ b12 := by omega
  have O12 : Old Z n0 h12 := ((((((O0.ext E6).wr W7 g_b6).wr W8 g_b6).ext E9).wr W10 g_b9).wr W11 g_b9).ext E12
  have Zc13 : n0 ≤ h12.size := by have q := O12.2.1; rw [O12.1] at q; exact q
  have VA12 := ((((V_b6_8.ext E9).other W10 (m_b6_b9)).other W11 (m_b6_b9)).ext E12)
  have VB12 := V_b9_11.ext E12
  obtain ⟨_, _, ⟨T13, L13, k13, n13⟩, -, X13, ⟨Lc13, hQ13, l13, y13, z13⟩, st13⟩ := X12.specialBack hx (y := (⟨"com/example/slotwise/slotwise/engine/Resources", "<init>", "([J)V"⟩ : MethodName)) rfl hown (mvT hZ (hw _ (List.mem_of_getElem? (i := 4) rfl))) (mvT hZ (hw _ (List.mem_of_getElem? (i := 5) rfl))) (mvT hZ (hw _ (List.mem_of_getElem? (i := 6) rfl))) (by decide) (backOf (W := 1) (rmC l Z a0 hw [] b12 b6 k6 (own_pA q1 p5) (own_pB q2 p5) h12 n0 Zc13 E_b12 F_amounts_b12 F_processorsAlone_b12 g_b12 VA12 (S_P.ext O12.2) m_b6_b12) hZ (hw _ (List.mem_of_getElem? (i := 6) rfl)) (hw _ (List.mem_of_getElem? (i := 3) rfl)) (by decide) (by decide)) (g := (mkF m 138 #[.val (.long q1), .second, .val (.long q2), .second, .val (.long q3), .second, .val (.long q4), .second, .val (.int p5), .val (.long (own_pA q1 p5)), .second, .val (.long (own_pB q2 p5)), .second, .val (.long (own_pC q1 q3 p5)), .second, .val (.long (own_pD q2 q4 p5)), .second, .val (.ref b6), .val (.ref b9), .unset, .unset, .unset] [(.ref b6), (.ref b12), (.ref b12)])) rfl (by rw [hml]; rfl) (Steps.refl _) (a := b12) (argsL := [(.ref b6)]) (rest := [(.ref b12)]) (lenOf pd_0_0 rfl) rfl (by show 2 * 0 + _ ≤ _; exact Nat.le_of_eq rfl) (hb hby at_138) (fun _ _ => ⟨rfl, e12, (by decide : 3 + 0 ≤ _), (by decide : 6 + 0 ≤ _)⟩)
  dsimp only [Pt.U, Pt.locs, Pt.cells, Pt.slots] at X13 l13 y13 z13 st13 hQ13
  subst l13 y13 z13
  obtain ⟨rfl, N13q, Kc13, Yc13, Fc13⟩ := hQ13
  have O13 : Old Z n0 T13.heap := O12.keep Kc13 (fun x hx => by rw [List.mem_singleton.mp hx]; exact g_b12)
  have KT13 : Keep h0 T13.heap [] := K12.trans Kc13 (own_allge sz_b12)
  have VA13 := VA12.keep Kc13 (own_notin m_b6_b12)
  have VB13 := VB12.keep Kc13 (own_notin m_b9_b12)
  have N13 := Fr.app N11 N13q
  obtain ⟨T14, h14, X14, e14, E14, A14, D14, -, st14⟩ := newO X13 hx hZ hown (hw _ (List.mem_of_getElem? (i := 1) rfl)) (hw _ (List.mem_of_getElem? (i := 2) rfl)) (hw _ (List.mem_of_getElem? (i := 3) rfl)) rfl (g := (mkF m 143 #[.val (.long q1), .second, .val (.long q2), .second, .val (.long q3), .second, .val (.long q4), .second, .val (.int p5), .val (.long (own_pA q1 p5)), .second, .val (.long (own_pB q2 p5)), .second, .val (.long (own_pC q1 q3 p5)), .second, .val (.long (own_pD q2 q4 p5)), .second, .val (.ref b6), .val (.ref b9), .val (.ref b12), .unset, .unset] [])) rfl (hb hby at_143) (by decide) (by decide)
  obtain ⟨b14, g14⟩ : ∃ z, z = T13.heap.size := ⟨_, rfl⟩
  rw [← g14] at A14 D14 st14
  have F_amounts_b14 : Fld Z h14 b14 "com/example/slotwise/slotwise/engine/Resources" "amounts" "[J" .null := D14 (Or.inr (hw _ (List.mem_of_getElem? (i := 11) rfl))) (ty := (.array .long)) (by decide)
  have F_processorsAlone_b14 : Fld Z h14 b14 "com/example/slotwise/slotwise/engine/Resources" "processorsAlone" "Z" (.int (0 : Int32)) := D14 (Or.inr (hw _ (List.mem_of_getElem? (i := 15) rfl))) (ty := .boolean) (by decide)
  have E_b14 := A14
  have g_b14 : n0 ≤ b14 := Nat.le_trans (Nat.le_trans (Nat.le_trans (Nat.le_trans (Nat.le_trans (Nat.le_trans (Nat.le_trans (Nat.le_trans (Nat.le_trans Z0 E6.1) (Keep.of_wr W7).1) (Keep.of_wr W8).1) E9.1) (Keep.of_wr W10).1) (Keep.of_wr W11).1) E12.1) Kc13.1) (Nat.le_of_eq g14.symm)
  have sz_b14 : h0.size ≤ b14 := (Nat.le_trans KT13.1 (Nat.le_of_eq g14.symm))
  have K14 : Keep h0 h14 [] := KT13.ext E14
  have l_b12_b14 : b12 < b14 := by rw [g14]; exact Yc13.lt
  have m_b6_b14 : b6 ≠ b14 := by omega
  have m_b9_b14 : b9 ≠ b14 := by omega
  have m_b12_b14 : b12 ≠ b14 := by omega
  have O14 : Old Z n0 h14 := O13.ext E14
  have Zc15 : n0 ≤ h14.size := by have q := O14.2.1; rw [O14.1] at q; exact q
  obtain ⟨_, _, ⟨T15, L15, k15, n15⟩, -, X15, ⟨Lc15, hQ15, l15, y15, z15⟩, st15⟩ := X14.specialBack hx (y := (⟨"com/example/slotwise/slotwise/engine/Resources", "<init>", "([J)V"⟩ : MethodName)) rfl hown (mvT hZ (hw _ (List.mem_of_getElem? (i := 4) rfl))) (mvT hZ (hw _ (List.mem_of_getElem? (i := 5) rfl))) (mvT hZ (hw _ (List.mem_of_getElem? (i := 6) rfl))) (by decide) (backOf (W := 1) (rmC l Z a0 hw [] b14 b9 k9 (own_pC q1 q3 p5) (own_pD q2 q4 p5) h14 n0 Zc15 E_b14 F_amounts_b14 F_processorsAlone_b14 g_b14 (VB13.ext E14) (S_P.ext O14.2) m_b9_b14) hZ (hw _ (List.mem_of_getElem? (i := 6) rfl)) (hw _ (List.mem_of_getElem? (i := 3) rfl)) (by decide) (by decide)) (g := (mkF m 149 #[.val (.long q1), .second, .val (.long q2), .second, .val (.long q3), .second, .val (.long q4), .second, .val (.int p5), .val (.long (own_pA q1 p5)), .second, .val (.long (own_pB q2 p5)), .second, .val (.long (own_pC q1 q3 p5)), .second, .val (.long (own_pD q2 q4 p5)), .second, .val (.ref b6), .val (.ref b9), .val (.ref b12), .unset, .unset] [(.ref b9), (.ref b14), (.ref b14)])) rfl (by rw [hml]; rfl) (Steps.refl _) (a := b14) (argsL := [(.ref b9)]) (rest := [(.ref b14)]) (lenOf pd_0_0 rfl) rfl (by show 2 * 0 + _ ≤ _; exact Nat.le_of_eq rfl) (hb hby at_149) (fun _ _ => ⟨rfl, e14, (by decide : 4 + 0 ≤ _), (by decide : 8 + 0 ≤ _)⟩)
  dsimp only [Pt.U, Pt.locs, Pt.cells, Pt.slots] at X15 l15 y15 z15 st15 hQ15
  subst l15 y15 z15
  obtain ⟨rfl, N15q, Kc15, Yc15, Fc15⟩ := hQ15
  have O15 : Old Z n0 T15.heap := O14.keep Kc15 (fun x hx => by rw [List.mem_singleton.mp hx]; exact g_b14)
  have VA15 := (VA13.ext E14).keep Kc15 (own_notin m_b6_b14)
  have VB15 := (VB13.ext E14).keep Kc15 (own_notin m_b9_b14)
  have GA15 := (Fc13.ext E14).keep Kc15 (own_notin m_b12_b14)
  have Zl : n0 ≤ T15.heap.size := by have q := O15.2.1; rw [O15.1] at q; exact q
  have N15 := Fr.app N13 N15q
  obtain ⟨cq16, kq16, q16a, q16b, q16c⟩ := isOf hZ rfl (((E_b12.keep Kc13).ext E14).keep Kc15)
  obtain ⟨_, _, ⟨T16, L16, k16, n16⟩, -, X16, ⟨Lc16, hQ16, l16, y16, z16⟩, st16⟩ := X15.virtualBack hx (y := (⟨"com/example/slotwise/slotwise/engine/Resources", "canRunOn", "(Lcom/example/slotwise/slotwise/engine/Resources;)Z"⟩ : MethodName)) (z := (⟨"com/example/slotwise/slotwise/engine/Resources", "canRunOn", "(Lcom/example/slotwise/slotwise/engine/Resources;)Z"⟩ : MethodName)) hown (mvT hZ (hw _ (List.mem_of_getElem? (i := 16) rfl))) (mvT hZ (hw _ (List.mem_of_getElem? (i := 17) rfl))) (notFace_of_selects (args := #[]) (mvT hZ (hw _ (List.mem_of_getElem? (i := 19) rfl)))) (mvT hZ (hw _ (List.mem_of_getElem? (i := 19) rfl))) (mvT hZ (hw _ (List.mem_of_getElem? (i := 18) rfl))) (by decide) (backOf (W := 0) (rmRe l Z a0 hw [] b12 b14 b6 b9 bL k6 k9 kL (own_pA q1 p5) (own_pB q2 p5) (own_pC q1 q3 p5) (own_pD q2 q4 p5) T15.heap n0 Zl GA15 Fc15 (S_L.ext O15.2) VA15 VB15 (V_L.ext O15.2) hc158 hc173 hc165 hc181) hZ (hw _ (List.mem_of_getElem? (i := 20) rfl)) (hw _ (List.mem_of_getElem? (i := 3) rfl)) (by decide) (by decide)) q16a q16c (g := (mkF m 195 #[.val (.long q1), .second, .val (.long q2), .second, .val (.long q3), .second, .val (.long q4), .second, .val (.int p5), .val (.long (own_pA q1 p5)), .second, .val (.long (own_pB q2 p5)), .second, .val (.long (own_pC q1 q3 p5)), .second, .val (.long (own_pD q2 q4 p5)), .second, .val (.ref b6), .val (.ref b9), .val (.ref b12), .val (.ref b14), .val (.int (1 : Int32))] [(.ref b14), (.ref b12)])) rfl (by rw [hml]; rfl) (Steps.refl _) (argsL := [(.ref b14)]) (rest := []) (lenOf pd_0_2 rfl) rfl (by show 2 * 0 + _ ≤ _; exact Nat.le_of_eq rfl) (hb hby at_195) (fun _ _ => ⟨rfl, rfl, (by decide : 4 + 0 ≤ _), (by decide : 8 + 0 ≤ _)⟩)
  dsimp only [Pt.U, Pt.locs, Pt.cells, Pt.slots] at X16 l16 y16 z16 st16 hQ16
  subst l16 y16 z16
  obtain ⟨rfl, N16q, e16q⟩ := hQ16
  have N16 := Fr.app N15 N16q
  obtain ⟨fs, hr, hrun, hended, hW, hsame⟩ := X16.leave (v := some (.int (1 : Int32))) (fun h => by rw [Bd.returns] at h; cases h)
  refine ⟨_, _, pre0 _ ?_, hrun, hended, _, _, rfl, ?_, ⟨_, rfl⟩, hW, hsame.mono (by decide) (by decide)⟩
  · show Steps p.tables e below (s₁.setTop (mkF m 98 #[.val (.long q1), .second, .val (.long q2), .second, .val (.long q3), .second, .val (.long q4), .second, .val (.int p5), .val (.long (own_pA q1 p5)), .second, .val (.long (own_pB q2 p5)), .second, .val (.long (own_pC q1 q3 p5)), .second, .val (.long (own_pD q2 q4 p5)), .second, .unset, .unset, .unset, .unset, .unset] [])) _
    refine XS.iconst X0.here hx rfl (hb hby at_98) ?_
    show Steps p.tables e below (s₁.setTop (mkF m 99 #[.val (.long q1), .second, .val (.long q2), .second, .val (.long q3), .second, .val (.long q4), .second, .val (.int p5), .val (.long (own_pA q1 p5)), .second, .val (.long (own_pB q2 p5)), .second, .val (.long (own_pC q1 q3 p5)), .second, .val (.long (own_pD q2 q4 p5)), .second, .unset, .unset, .unset, .unset, .unset] [(.int (2 : Int32))])) _
    refine st6 _ ?_
    show Steps p.tables e below (T6.setTop (mkF m 101 #[.val (.long q1), .second, .val (.long q2), .second, .val (.long q3), .second, .val (.long q4), .second, .val (.int p5), .val (.long (own_pA q1 p5)), .second, .val (.long (own_pB q2 p5)), .second, .val (.long (own_pC q1 q3 p5)), .second, .val (.long (own_pD q2 q4 p5)), .second, .unset, .unset, .unset, .unset, .unset] [(.ref b6)])) _
    refine XS.astore X6.here hx rfl (hb hby at_101) rfl rfl (l' := #[.val (.long q1), .second, .val (.long q2), .second, .val (.long q3), .second, .val (.long q4), .second, .val (.int p5), .val (.long (own_pA q1 p5)), .second, .val (.long (own_pB q2 p5)), .second, .val (.long (own_pC q1 q3 p5)), .second, .val (.long (own_pD q2 q4 p5)), .second, .val (.ref b6), .unset, .unset, .unset, .unset]) rfl ?_
    show Steps p.tables e below (T6.setTop (mkF m 103 #[.val (.long q1), .second, .val (.long q2), .second, .val (.long q3), .second, .val (.long q4), .second, .val (.int p5), .val (.long (own_pA q1 p5)), .second, .val (.long (own_pB q2 p5)), .second, .val (.long (own_pC q1 q3 p5)), .second, .val (.long (own_pD q2 q4 p5)), .second, .val (.ref b6), .unset, .unset, .unset, .unset] [])) _
    refine XS.aload X6.here hx rfl (hb hby at_103) rfl rfl ?_
    show Steps p.tables e below (T6.setTop (mkF m 105 #[.val (.long q1), .second, .val (.long q2), .second, .val (.long q3), .second, .val (.long q4), .second, .val (.int p5), .val (.long (own_pA q1 p5)), .second, .val (.long (own_pB q2 p5)), .second, .val (.long (own_pC q1 q3 p5)), .second, .val (.long (own_pD q2 q4 p5)), .second, .val (.ref b6), .unset, .unset, .unset, .unset] [(.ref b6)])) _
    refine XS.iconst X6.here hx rfl (hb hby at_105) ?_
    show Steps p.tables e below (T6.setTop (mkF m 106 #[.val (.long q1), .second, .val (.long q2), .second, .val (.long q3), .second, .val (.long q4), .second, .val (.int p5), .val (.long (own_pA q1 p5)), .second, .val (.long (own_pB q2 p5)), .second, .val (.long (own_pC q1 q3 p5)), .second, .val (.long (own_pD q2 q4 p5)), .second, .val (.ref b6), .unset, .unset, .unset, .unset] [(.int (0 : Int32)), (.ref b6)])) _
    refine XS.lload X6.here hx rfl (hb hby at_106) rfl ?_
    show Steps p.tables e below (T6.setTop (mkF m 108 #[.val (.long q1), .second, .val (.long q2), .second, .val (.long q3), .second, .val (.long q4), .second, .val (.int p5), .val (.long (own_pA q1 p5)), .second, .val (.long (own_pB q2 p5)), .second, .val (.long (own_pC q1 q3 p5)), .second, .val (.long (own_pD q2 q4 p5)), .second, .val (.ref b6), .unset, .unset, .unset, .unset] [(.long (own_pA q1 p5)), (.int (0 : Int32)), (.ref b6)])) _
    refine st7 _ ?_
    show Steps p.tables e below (T7.setTop (mkF m 109 #[.val (.long q1), .second, .val (.long q2), .second, .val (.long q3), .second, .val (.long q4), .second, .val (.int p5), .val (.long (own_pA q1 p5)), .second, .val (.long (own_pB q2 p5)), .second, .val (.long (own_pC q1 q3 p5)), .second, .val (.long (own_pD q2 q4 p5)), .second, .val (.ref b6), .unset, .unset, .unset, .unset] [])) _
    refine XS.aload X7.here hx rfl (hb hby at_109) rfl rfl ?_
    show Steps p.tables e below (T7.setTop (mkF m 111 #[.val (.long q1), .second, .val (.long q2), .second, .val (.long q3), .second, .val (.long q4), .second, .val (.int p5), .val (.long (own_pA q1 p5)), .second, .val (.long (own_pB q2 p5)), .second, .val (.long (own_pC q1 q3 p5)), .second, .val (.long (own_pD q2 q4 p5)), .second, .val (.ref b6), .unset, .unset, .unset, .unset] [(.ref b6)])) _
    refine XS.iconst X7.here hx rfl (hb hby at_111) ?_
    show Steps p.tables e below (T7.setTop (mkF m 112 #[.val (.long q1), .second, .val (.long q2), .second, .val (.long q3), .second, .val (.long q4), .second, .val (.int p5), .val (.long (own_pA q1 p5)), .second, .val (.long (own_pB q2 p5)), .second, .val (.long (own_pC q1 q3 p5)), .second, .val (.long (own_pD q2 q4 p5)), .second, .val (.ref b6), .unset, .unset, .unset, .unset] [(.int (1 : Int32)), (.ref b6)])) _
    refine XS.lload X7.here hx rfl (hb hby at_112) rfl ?_
    show Steps p.tables e below (T7.setTop (mkF m 114 #[.val (.long q1), .second, .val (.long q2), .second, .val (.long q3), .second, .val (.long q4), .second, .val (.int p5), .val (.long (own_pA q1 p5)), .second, .val (.long (own_pB q2 p5)), .second, .val (.long (own_pC q1 q3 p5)), .second, .val (.long (own_pD q2 q4 p5)), .second, .val (.ref b6), .unset, .unset, .unset, .unset] [(.long (own_pB q2 p5)), (.int (1 : Int32)), (.ref b6)])) _
    refine st8 _ ?_
    show Steps p.tables e below (T8.setTop (mkF m 115 #[.val (.long q1), .second, .val (.long q2), .second, .val (.long q3), .second, .val (.long q4), .second, .val (.int p5), .val (.long (own_pA q1 p5)), .second, .val (.long (own_pB q2 p5)), .second, .val (.long (own_pC q1 q3 p5)), .second, .val (.long (own_pD q2 q4 p5)), .second, .val (.ref b6), .unset, .unset, .unset, .unset] [])) _
    refine XS.iconst X8.here hx rfl (hb hby at_115) ?_
    show Steps p.tables e below (T8.setTop (mkF m 116 #[.val (.long q1), .second, .val (.long q2), .second, .val (.long q3), .second, .val (.long q4), .second, .val (.int p5), .val (.long (own_pA q1 p5)), .second, .val (.long (own_pB q2 p5)), .second, .val (.long (own_pC q1 q3 p5)), .second, .val (.long (own_pD q2 q4 p5)), .second, .val (.ref b6), .unset, .unset, .unset, .unset] [(.int (2 : Int32))])) _
    refine st9 _ ?_
    show Steps p.tables e below (T9.setTop (mkF m 118 #[.val (.long q1), .second, .val (.long q2), .second, .val (.long q3), .second, .val (.long q4), .second, .val (.int p5), .val (.long (own_pA q1 p5)), .second, .val (.long (own_pB q2 p5)), .second, .val (.long (own_pC q1 q3 p5)), .second, .val (.long (own_pD q2 q4 p5)), .second, .val (.ref b6), .unset, .unset, .unset, .unset] [(.ref b9)])) _
    refine XS.astore X9.here hx rfl (hb hby at_118) rfl rfl (l' := #[.val (.long q1), .second, .val (.long q2), .second, .val (.long q3), .second, .val (.long q4), .second, .val (.int p5), .val (.long (own_pA q1 p5)), .second, .val (.long (own_pB q2 p5)), .second, .val (.long (own_pC q1 q3 p5)), .second, .val (.long (own_pD q2 q4 p5)), .second, .val (.ref b6), .val (.ref b9), .unset, .unset, .unset]) rfl ?_
    show Steps p.tables e below (T9.setTop (mkF m 120 #[.val (.long q1), .second, .val (.long q2), .second, .val (.long q3), .second, .val (.long q4), .second, .val (.int p5), .val (.long (own_pA q1 p5)), .second, .val (.long (own_pB q2 p5)), .second, .val (.long (own_pC q1 q3 p5)), .second, .val (.long (own_pD q2 q4 p5)), .second, .val (.ref b6), .val (.ref b9), .unset, .unset, .unset] [])) _
    refine XS.aload X9.here hx rfl (hb hby at_120) rfl rfl ?_
    show Steps p.tables e below (T9.setTop (mkF m 122 #[.val (.long q1), .second, .val (.long q2), .second, .val (.long q3), .second, .val (.long q4), .second, .val (.int p5), .val (.long (own_pA q1 p5)), .second, .val (.long (own_pB q2 p5)), .second, .val (.long (own_pC q1 q3 p5)), .second, .val (.long (own_pD q2 q4 p5)), .second, .val (.ref b6), .val (.ref b9), .unset, .unset, .unset] [(.ref b9)])) _
    refine XS.iconst X9.here hx rfl (hb hby at_122) ?_
    show Steps p.tables e below (T9.setTop (mkF m 123 #[.val (.long q1), .second, .val (.long q2), .second, .val (.long q3), .second, .val (.long q4), .second, .val (.int p5), .val (.long (own_pA q1 p5)), .second, .val (.long (own_pB q2 p5)), .second, .val (.long (own_pC q1 q3 p5)), .second, .val (.long (own_pD q2 q4 p5)), .second, .val (.ref b6), .val (.ref b9), .unset, .unset, .unset] [(.int (0 : Int32)), (.ref b9)])) _
    refine XS.lload X9.here hx rfl (hb hby at_123) rfl ?_
    show Steps p.tables e below (T9.setTop (mkF m 125 #[.val (.long q1), .second, .val (.long q2), .second, .val (.long q3), .second, .val (.long q4), .second, .val (.int p5), .val (.long (own_pA q1 p5)), .second, .val (.long (own_pB q2 p5)), .second, .val (.long (own_pC q1 q3 p5)), .second, .val (.long (own_pD q2 q4 p5)), .second, .val (.ref b6), .val (.ref b9), .unset, .unset, .unset] [(.long (own_pC q1 q3 p5)), (.int (0 : Int32)), (.ref b9)])) _
    refine st10 _ ?_
    show Steps p.tables e below (T10.setTop (mkF m 126 #[.val (.long q1), .second, .val (.long q2), .second, .val (.long q3), .second, .val (.long q4), .second, .val (.int p5), .val (.long (own_pA q1 p5)), .second, .val (.long (own_pB q2 p5)), .second, .val (.long (own_pC q1 q3 p5)), .second, .val (.long (own_pD q2 q4 p5)), .second, .val (.ref b6), .val (.ref b9), .unset, .unset, .unset] [])) _
    refine XS.aload X10.here hx rfl (hb hby at_126) rfl rfl ?_
    show Steps p.tables e below (T10.setTop (mkF m 128 #[.val (.long q1), .second, .val (.long q2), .second, .val (.long q3), .second, .val (.long q4), .second, .val (.int p5), .val (.long (own_pA q1 p5)), .second, .val (.long (own_pB q2 p5)), .second, .val (.long (own_pC q1 q3 p5)), .second, .val (.long (own_pD q2 q4 p5)), .second, .val (.ref b6), .val (.ref b9), .unset, .unset, .unset] [(.ref b9)])) _
    refine XS.iconst X10.here hx rfl (hb hby at_128) ?_
    show Steps p.tables e below (T10.setTop (mkF m 129 #[.val (.long q1), .second, .val (.long q2), .second, .val (.long q3), .second, .val (.long q4), .second, .val (.int p5), .val (.long (own_pA q1 p5)), .second, .val (.long (own_pB q2 p5)), .second, .val (.long (own_pC q1 q3 p5)), .second, .val (.long (own_pD q2 q4 p5)), .second, .val (.ref b6), .val (.ref b9), .unset, .unset, .unset] [(.int (1 : Int32)), (.ref b9)])) _
    refine XS.lload X10.here hx rfl (hb hby at_129) rfl ?_
    show Steps p.tables e below (T10.setTop (mkF m 131 #[.val (.long q1), .second, .val (.long q2), .second, .val (.long q3), .second, .val (.long q4), .second, .val (.int p5), .val (.long (own_pA q1 p5)), .second, .val (.long (own_pB q2 p5)), .second, .val (.long (own_pC q1 q3 p5)), .second, .val (.long (own_pD q2 q4 p5)), .second, .val (.ref b6), .val (.ref b9), .unset, .unset, .unset] [(.long (own_pD q2 q4 p5)), (.int (1 : Int32)), (.ref b9)])) _
    refine st11 _ ?_
    show Steps p.tables e below (T11.setTop (mkF m 132 #[.val (.long q1), .second, .val (.long q2), .second, .val (.long q3), .second, .val (.long q4), .second, .val (.int p5), .val (.long (own_pA q1 p5)), .second, .val (.long (own_pB q2 p5)), .second, .val (.long (own_pC q1 q3 p5)), .second, .val (.long (own_pD q2 q4 p5)), .second, .val (.ref b6), .val (.ref b9), .unset, .unset, .unset] [])) _
    refine st12 _ ?_
    show Steps p.tables e below (T12.setTop (mkF m 135 #[.val (.long q1), .second, .val (.long q2), .second, .val (.long q3), .second, .val (.long q4), .second, .val (.int p5), .val (.long (own_pA q1 p5)), .second, .val (.long (own_pB q2 p5)), .second, .val (.long (own_pC q1 q3 p5)), .second, .val (.long (own_pD q2 q4 p5)), .second, .val (.ref b6), .val (.ref b9), .unset, .unset, .unset] [(.ref b12)])) _
    refine XS.dup X12.here hx rfl (hb hby at_135) rfl rfl ?_
    show Steps p.tables e below (T12.setTop (mkF m 136 #[.val (.long q1), .second, .val (.long q2), .second, .val (.long q3), .second, .val (.long q4), .second, .val (.int p5), .val (.long (own_pA q1 p5)), .second, .val (.long (own_pB q2 p5)), .second, .val (.long (own_pC q1 q3 p5)), .second, .val (.long (own_pD q2 q4 p5)), .second, .val (.ref b6), .val (.ref b9), .unset, .unset, .unset] [(.ref b12), (.ref b12)])) _
    refine XS.aload X12.here hx rfl (hb hby at_136) rfl rfl ?_
    show Steps p.tables e below (T12.setTop (mkF m 138 #[.val (.long q1), .second, .val (.long q2), .second, .val (.long q3), .second, .val (.long q4), .second, .val (.int p5), .val (.long (own_pA q1 p5)), .second, .val (.long (own_pB q2 p5)), .second, .val (.long (own_pC q1 q3 p5)), .second, .val (.long (own_pD q2 q4 p5)), .second, .val (.ref b6), .val (.ref b9), .unset, .unset, .unset] [(.ref b6), (.ref b12), (.ref b12)])) _
    refine st13.trans ?_
    show Steps p.tables e below (T13.setTop (mkF m 141 #[.val (.long q1), .second, .val (.long q2), .second, .val (.long q3), .second, .val (.long q4), .second, .val (.int p5), .val (.long (own_pA q1 p5)), .second, .val (.long (own_pB q2 p5)), .second, .val (.long (own_pC q1 q3 p5)), .second, .val (.long (own_pD q2 q4 p5)), .second, .val (.ref b6), .val (.ref b9), .unset, .unset, .unset] [(.ref b12)])) _
    refine XS.astore X13.here hx rfl (hb hby at_141) rfl rfl (l' := #[.val (.long q1), .second, .val (.long q2), .second, .val (.long q3), .second, .val (.long q4), .second, .val (.int p5), .val (.long (own_pA q1 p5)), .second, .val (.long (own_pB q2 p5)), .second, .val (.long (own_pC q1 q3 p5)), .second, .val (.long (own_pD q2 q4 p5)), .second, .val (.ref b6), .val (.ref b9), .val (.ref b12), .unset, .unset]) rfl ?_
    show Steps p.tables e below (T13.setTop (mkF m 143 #[.val (.long q1), .second, .val (.long q2), .second, .val (.long q3), .second, .val (.long q4), .second, .val (.int p5), .val (.long (own_pA q1 p5)), .second, .val (.long (own_pB q2 p5)), .second, .val (.long (own_pC q1 q3 p5)), .second, .val (.long (own_pD q2 q4 p5)), .second, .val (.ref b6), .val (.ref b9), .val (.ref b12), .unset, .unset] [])) _
    refine st14 _ ?_
    show Steps p.tables e below (T14.setTop (mkF m 146 #[.val (.long q1), .second, .val (.long q2), .second, .val (.long q3), .second, .val (.long q4), .second, .val (.int p5), .val (.long (own_pA q1 p5)), .second, .val (.long (own_pB q2 p5)), .second, .val (.long (own_pC q1 q3 p5)), .second, .val (.long (own_pD q2 q4 p5)), .second, .val (.ref b6), .val (.ref b9), .val (.ref b12), .unset, .unset] [(.ref b14)])) _
    refine XS.dup X14.here hx rfl (hb hby at_146) rfl rfl ?_
    show Steps p.tables e below (T14.setTop (mkF m 147 #[.val (.long q1), .second, .val (.long q2), .second, .val (.long q3), .second, .val (.long q4), .second, .val (.int p5), .val (.long (own_pA q1 p5)), .second, .val (.long (own_pB q2 p5)), .second, .val (.long (own_pC q1 q3 p5)), .second, .val (.long (own_pD q2 q4 p5)), .second, .val (.ref b6), .val (.ref b9), .val (.ref b12), .unset, .unset] [(.ref b14), (.ref b14)])) _
    refine XS.aload X14.here hx rfl (hb hby at_147) rfl rfl ?_
    show Steps p.tables e below (T14.setTop (mkF m 149 #[.val (.long q1), .second, .val (.long q2), .second, .val (.long q3), .second, .val (.long q4), .second, .val (.int p5), .val (.long (own_pA q1 p5)), .second, .val (.long (own_pB q2 p5)), .second, .val (.long (own_pC q1 q3 p5)), .second, .val (.long (own_pD q2 q4 p5)), .second, .val (.ref b6), .val (.ref b9), .val (.ref b12), .unset, .unset] [(.ref b9), (.ref b14), (.ref b14)])) _
    refine st15.trans ?_
    show Steps p.tables e below (T15.setTop (mkF m 152 #[.val (.long q1), .second, .val (.long q2), .second, .val (.long q3), .second, .val (.long q4), .second, .val (.int p5), .val (.long (own_pA q1 p5)), .second, .val (.long (own_pB q2 p5)), .second, .val (.long (own_pC q1 q3 p5)), .second, .val (.long (own_pD q2 q4 p5)), .second, .val (.ref b6), .val (.ref b9), .val (.ref b12), .unset, .unset] [(.ref b14)])) _
    refine XS.astore X15.here hx rfl (hb hby at_152) rfl rfl (l' := #[.val (.long q1), .second, .val (.long q2), .second, .val (.long q3), .second, .val (.long q4), .second, .val (.int p5), .val (.long (own_pA q1 p5)), .second, .val (.long (own_pB q2 p5)), .second, .val (.long (own_pC q1 q3 p5)), .second, .val (.long (own_pD q2 q4 p5)), .second, .val (.ref b6), .val (.ref b9), .val (.ref b12), .val (.ref b14), .unset]) rfl ?_
    show Steps p.tables e below (T15.setTop (mkF m 154 #[.val (.long q1), .second, .val (.long q2), .second, .val (.long q3), .second, .val (.long q4), .second, .val (.int p5), .val (.long (own_pA q1 p5)), .second, .val (.long (own_pB q2 p5)), .second, .val (.long (own_pC q1 q3 p5)), .second, .val (.long (own_pD q2 q4 p5)), .second, .val (.ref b6), .val (.ref b9), .val (.ref b12), .val (.ref b14), .unset] [])) _
    refine XS.lload X15.here hx rfl (hb hby at_154) rfl ?_
    show Steps p.tables e below (T15.setTop (mkF m 156 #[.val (.long q1), .second, .val (.long q2), .second, .val (.long q3), .second, .val (.long q4), .second, .val (.int p5), .val (.long (own_pA q1 p5)), .second, .val (.long (own_pB q2 p5)), .second, .val (.long (own_pC q1 q3 p5)), .second, .val (.long (own_pD q2 q4 p5)), .second, .val (.ref b6), .val (.ref b9), .val (.ref b12), .val (.ref b14), .unset] [(.long (own_pA q1 p5))])) _
    refine XS.lconst X15.here hx rfl (hb hby at_156) ?_
    show Steps p.tables e below (T15.setTop (mkF m 157 #[.val (.long q1), .second, .val (.long q2), .second, .val (.long q3), .second, .val (.long q4), .second, .val (.int p5), .val (.long (own_pA q1 p5)), .second, .val (.long (own_pB q2 p5)), .second, .val (.long (own_pC q1 q3 p5)), .second, .val (.long (own_pD q2 q4 p5)), .second, .val (.ref b6), .val (.ref b9), .val (.ref b12), .val (.ref b14), .unset] [(.long (1 : Int64)), (.long (own_pA q1 p5))])) _
    refine XS.lcmp X15.here hx rfl (hb hby at_157) rfl ?_
    show Steps p.tables e below (T15.setTop (mkF m 158 #[.val (.long q1), .second, .val (.long q2), .second, .val (.long q3), .second, .val (.long q4), .second, .val (.int p5), .val (.long (own_pA q1 p5)), .second, .val (.long (own_pB q2 p5)), .second, .val (.long (own_pC q1 q3 p5)), .second, .val (.long (own_pD q2 q4 p5)), .second, .val (.ref b6), .val (.ref b9), .val (.ref b12), .val (.ref b14), .unset] [(.int (lcmpW (own_pA q1 p5) (1 : Int64)))])) _
    refine XS.ifNo X15.here hx rfl (hb hby at_158) rfl ((if0 _ _).trans (flt hc158).1) ?_
    show Steps p.tables e below (T15.setTop (mkF m 161 #[.val (.long q1), .second, .val (.long q2), .second, .val (.long q3), .second, .val (.long q4), .second, .val (.int p5), .val (.long (own_pA q1 p5)), .second, .val (.long (own_pB q2 p5)), .second, .val (.long (own_pC q1 q3 p5)), .second, .val (.long (own_pD q2 q4 p5)), .second, .val (.ref b6), .val (.ref b9), .val (.ref b12), .val (.ref b14), .unset] [])) _
    refine XS.lload X15.here hx rfl (hb hby at_161) rfl ?_
    show Steps p.tables e below (T15.setTop (mkF m 163 #[.val (.long q1), .second, .val (.long q2), .second, .val (.long q3), .second, .val (.long q4), .second, .val (.int p5), .val (.long (own_pA q1 p5)), .second, .val (.long (own_pB q2 p5)), .second, .val (.long (own_pC q1 q3 p5)), .second, .val (.long (own_pD q2 q4 p5)), .second, .val (.ref b6), .val (.ref b9), .val (.ref b12), .val (.ref b14), .unset] [(.long (own_pB q2 p5))])) _
    refine XS.lconst X15.here hx rfl (hb hby at_163) ?_
    show Steps p.tables e below (T15.setTop (mkF m 164 #[.val (.long q1), .second, .val (.long q2), .second, .val (.long q3), .second, .val (.long q4), .second, .val (.int p5), .val (.long (own_pA q1 p5)), .second, .val (.long (own_pB q2 p5)), .second, .val (.long (own_pC q1 q3 p5)), .second, .val (.long (own_pD q2 q4 p5)), .second, .val (.ref b6), .val (.ref b9), .val (.ref b12), .val (.ref b14), .unset] [(.long (0 : Int64)), (.long (own_pB q2 p5))])) _
    refine XS.lcmp X15.here hx rfl (hb hby at_164) rfl ?_
    show Steps p.tables e below (T15.setTop (mkF m 165 #[.val (.long q1), .second, .val (.long q2), .second, .val (.long q3), .second, .val (.long q4), .second, .val (.int p5), .val (.long (own_pA q1 p5)), .second, .val (.long (own_pB q2 p5)), .second, .val (.long (own_pC q1 q3 p5)), .second, .val (.long (own_pD q2 q4 p5)), .second, .val (.ref b6), .val (.ref b9), .val (.ref b12), .val (.ref b14), .unset] [(.int (lcmpW (own_pB q2 p5) (0 : Int64)))])) _
    refine XS.ifNo X15.here hx rfl (hb hby at_165) rfl ((if0 _ _).trans (flt hc165).1) ?_
    show Steps p.tables e below (T15.setTop (mkF m 168 #[.val (.long q1), .second, .val (.long q2), .second, .val (.long q3), .second, .val (.long q4), .second, .val (.int p5), .val (.long (own_pA q1 p5)), .second, .val (.long (own_pB q2 p5)), .second, .val (.long (own_pC q1 q3 p5)), .second, .val (.long (own_pD q2 q4 p5)), .second, .val (.ref b6), .val (.ref b9), .val (.ref b12), .val (.ref b14), .unset] [])) _
    refine XS.lload X15.here hx rfl (hb hby at_168) rfl ?_
    show Steps p.tables e below (T15.setTop (mkF m 170 #[.val (.long q1), .second, .val (.long q2), .second, .val (.long q3), .second, .val (.long q4), .second, .val (.int p5), .val (.long (own_pA q1 p5)), .second, .val (.long (own_pB q2 p5)), .second, .val (.long (own_pC q1 q3 p5)), .second, .val (.long (own_pD q2 q4 p5)), .second, .val (.ref b6), .val (.ref b9), .val (.ref b12), .val (.ref b14), .unset] [(.long (own_pA q1 p5))])) _
    refine XS.lload X15.here hx rfl (hb hby at_170) rfl ?_
    show Steps p.tables e below (T15.setTop (mkF m 172 #[.val (.long q1), .second, .val (.long q2), .second, .val (.long q3), .second, .val (.long q4), .second, .val (.int p5), .val (.long (own_pA q1 p5)), .second, .val (.long (own_pB q2 p5)), .second, .val (.long (own_pC q1 q3 p5)), .second, .val (.long (own_pD q2 q4 p5)), .second, .val (.ref b6), .val (.ref b9), .val (.ref b12), .val (.ref b14), .unset] [(.long (own_pC q1 q3 p5)), (.long (own_pA q1 p5))])) _
    refine XS.lcmp X15.here hx rfl (hb hby at_172) rfl ?_
    show Steps p.tables e below (T15.setTop (mkF m 173 #[.val (.long q1), .second, .val (.long q2), .second, .val (.long q3), .second, .val (.long q4), .second, .val (.int p5), .val (.long (own_pA q1 p5)), .second, .val (.long (own_pB q2 p5)), .second, .val (.long (own_pC q1 q3 p5)), .second, .val (.long (own_pD q2 q4 p5)), .second, .val (.ref b6), .val (.ref b9), .val (.ref b12), .val (.ref b14), .unset] [(.int (lcmpW (own_pA q1 p5) (own_pC q1 q3 p5)))])) _
    refine XS.ifNo X15.here hx rfl (hb hby at_173) rfl ((if0 _ _).trans (flt hc173).2.2.1) ?_
    show Steps p.tables e below (T15.setTop (mkF m 176 #[.val (.long q1), .second, .val (.long q2), .second, .val (.long q3), .second, .val (.long q4), .second, .val (.int p5), .val (.long (own_pA q1 p5)), .second, .val (.long (own_pB q2 p5)), .second, .val (.long (own_pC q1 q3 p5)), .second, .val (.long (own_pD q2 q4 p5)), .second, .val (.ref b6), .val (.ref b9), .val (.ref b12), .val (.ref b14), .unset] [])) _
    refine XS.lload X15.here hx rfl (hb hby at_176) rfl ?_
    show Steps p.tables e below (T15.setTop (mkF m 178 #[.val (.long q1), .second, .val (.long q2), .second, .val (.long q3), .second, .val (.long q4), .second, .val (.int p5), .val (.long (own_pA q1 p5)), .second, .val (.long (own_pB q2 p5)), .second, .val (.long (own_pC q1 q3 p5)), .second, .val (.long (own_pD q2 q4 p5)), .second, .val (.ref b6), .val (.ref b9), .val (.ref b12), .val (.ref b14), .unset] [(.long (own_pB q2 p5))])) _
    refine XS.lload X15.here hx rfl (hb hby at_178) rfl ?_
    show Steps p.tables e below (T15.setTop (mkF m 180 #[.val (.long q1), .second, .val (.long q2), .second, .val (.long q3), .second, .val (.long q4), .second, .val (.int p5), .val (.long (own_pA q1 p5)), .second, .val (.long (own_pB q2 p5)), .second, .val (.long (own_pC q1 q3 p5)), .second, .val (.long (own_pD q2 q4 p5)), .second, .val (.ref b6), .val (.ref b9), .val (.ref b12), .val (.ref b14), .unset] [(.long (own_pD q2 q4 p5)), (.long (own_pB q2 p5))])) _
    refine XS.lcmp X15.here hx rfl (hb hby at_180) rfl ?_
    show Steps p.tables e below (T15.setTop (mkF m 181 #[.val (.long q1), .second, .val (.long q2), .second, .val (.long q3), .second, .val (.long q4), .second, .val (.int p5), .val (.long (own_pA q1 p5)), .second, .val (.long (own_pB q2 p5)), .second, .val (.long (own_pC q1 q3 p5)), .second, .val (.long (own_pD q2 q4 p5)), .second, .val (.ref b6), .val (.ref b9), .val (.ref b12), .val (.ref b14), .unset] [(.int (lcmpW (own_pB q2 p5) (own_pD q2 q4 p5)))])) _
    refine XS.ifNo X15.here hx rfl (hb hby at_181) rfl ((if0 _ _).trans (flt hc181).2.2.1) ?_
    show Steps p.tables e below (T15.setTop (mkF m 184 #[.val (.long q1), .second, .val (.long q2), .second, .val (.long q3), .second, .val (.long q4), .second, .val (.int p5), .val (.long (own_pA q1 p5)), .second, .val (.long (own_pB q2 p5)), .second, .val (.long (own_pC q1 q3 p5)), .second, .val (.long (own_pD q2 q4 p5)), .second, .val (.ref b6), .val (.ref b9), .val (.ref b12), .val (.ref b14), .unset] [])) _
    refine XS.iconst X15.here hx rfl (hb hby at_184) ?_
    show Steps p.tables e below (T15.setTop (mkF m 185 #[.val (.long q1), .second, .val (.long q2), .second, .val (.long q3), .second, .val (.long q4), .second, .val (.int p5), .val (.long (own_pA q1 p5)), .second, .val (.long (own_pB q2 p5)), .second, .val (.long (own_pC q1 q3 p5)), .second, .val (.long (own_pD q2 q4 p5)), .second, .val (.ref b6), .val (.ref b9), .val (.ref b12), .val (.ref b14), .unset] [(.int (1 : Int32))])) _
    refine XS.goto X15.here hx rfl (pc0 := 185) (pc' := 189) rfl (hb hby at_185) (by decide) (by decide) ?_
    show Steps p.tables e below (T15.setTop (mkF m 189 #[.val (.long q1), .second, .val (.long q2), .second, .val (.long q3), .second, .val (.long q4), .second, .val (.int p5), .val (.long (own_pA q1 p5)), .second, .val (.long (own_pB q2 p5)), .second, .val (.long (own_pC q1 q3 p5)), .second, .val (.long (own_pD q2 q4 p5)), .second, .val (.ref b6), .val (.ref b9), .val (.ref b12), .val (.ref b14), .unset] [(.int (1 : Int32))])) _
    refine XS.istore X15.here hx rfl (hb hby at_189) rfl (l' := #[.val (.long q1), .second, .val (.long q2), .second, .val (.long q3), .second, .val (.long q4), .second, .val (.int p5), .val (.long (own_pA q1 p5)), .second, .val (.long (own_pB q2 p5)), .second, .val (.long (own_pC q1 q3 p5)), .second, .val (.long (own_pD q2 q4 p5)), .second, .val (.ref b6), .val (.ref b9), .val (.ref b12), .val (.ref b14), .val (.int (1 : Int32))]) rfl ?_
    show Steps p.tables e below (T15.setTop (mkF m 191 #[.val (.long q1), .second, .val (.long q2), .second, .val (.long q3), .second, .val (.long q4), .second, .val (.int p5), .val (.long (own_pA q1 p5)), .second, .val (.long (own_pB q2 p5)), .second, .val (.long (own_pC q1 q3 p5)), .second, .val (.long (own_pD q2 q4 p5)), .second, .val (.ref b6), .val (.ref b9), .val (.ref b12), .val (.ref b14), .val (.int (1 : Int32))] [])) _
    refine XS.aload X15.here hx rfl (hb hby at_191) rfl rfl ?_
    show Steps p.tables e below (T15.setTop (mkF m 193 #[.val (.long q1), .second, .val (.long q2), .second, .val (.long q3), .second, .val (.long q4), .second, .val (.int p5), .val (.long (own_pA q1 p5)), .second, .val (.long (own_pB q2 p5)), .second, .val (.long (own_pC q1 q3 p5)), .second, .val (.long (own_pD q2 q4 p5)), .second, .val (.ref b6), .val (.ref b9), .val (.ref b12), .val (.ref b14), .val (.int (1 : Int32))] [(.ref b12)])) _
    refine XS.aload X15.here hx rfl (hb hby at_193) rfl rfl ?_
    show Steps p.tables e below (T15.setTop (mkF m 195 #[.val (.long q1), .second, .val (.long q2), .second, .val (.long q3), .second, .val (.long q4), .second, .val (.int p5), .val (.long (own_pA q1 p5)), .second, .val (.long (own_pB q2 p5)), .second, .val (.long (own_pC q1 q3 p5)), .second, .val (.long (own_pD q2 q4 p5)), .second, .val (.ref b6), .val (.ref b9), .val (.ref b12), .val (.ref b14), .val (.int (1 : Int32))] [(.ref b14), (.ref b12)])) _
    refine st16.trans ?_
    show Steps p.tables e below (T16.setTop (mkF m 198 #[.val (.long q1), .second, .val (.long q2), .second, .val (.long q3), .second, .val (.long q4), .second, .val (.int p5), .val (.long (own_pA q1 p5)), .second, .val (.long (own_pB q2 p5)), .second, .val (.long (own_pC q1 q3 p5)), .second, .val (.long (own_pD q2 q4 p5)), .second, .val (.ref b6), .val (.ref b9), .val (.ref b12), .val (.ref b14), .val (.int (1 : Int32))] [(.int (1 : Int32))])) _
    refine XS.iload X16.here hx rfl (hb hby at_198) rfl ?_
    show Steps p.tables e below (T16.setTop (mkF m 200 #[.val (.long q1), .second, .val (.long q2), .second, .val (.long q3), .second, .val (.long q4), .second, .val (.int p5), .val (.long (own_pA q1 p5)), .second, .val (.long (own_pB q2 p5)), .second, .val (.long (own_pC q1 q3 p5)), .second, .val (.long (own_pD q2 q4 p5)), .second, .val (.ref b6), .val (.ref b9), .val (.ref b12), .val (.ref b14), .val (.int (1 : Int32))] [(.int (1 : Int32)), (.int (1 : Int32))])) _
    refine XS.icmpNo X16.here hx rfl (hb hby at_200) rfl (teq (rfl : (1 : Int32) = (1 : Int32))).2 ?_
    show Steps p.tables e below (T16.setTop (mkF m 203 #[.val (.long q1), .second, .val (.long q2), .second, .val (.long q3), .second, .val (.long q4), .second, .val (.int p5), .val (.long (own_pA q1 p5)), .second, .val (.long (own_pB q2 p5)), .second, .val (.long (own_pC q1 q3 p5)), .second, .val (.long (own_pD q2 q4 p5)), .second, .val (.ref b6), .val (.ref b9), .val (.ref b12), .val (.ref b14), .val (.int (1 : Int32))] [])) _
    refine XS.iconst X16.here hx rfl (hb hby at_203) ?_
    show Steps p.tables e below (T16.setTop (mkF m 204 #[.val (.long q1), .second, .val (.long q2), .second, .val (.long q3), .second, .val (.long q4), .second, .val (.int p5), .val (.long (own_pA q1 p5)), .second, .val (.long (own_pB q2 p5)), .second, .val (.long (own_pC q1 q3 p5)), .second, .val (.long (own_pD q2 q4 p5)), .second, .val (.ref b6), .val (.ref b9), .val (.ref b12), .val (.ref b14), .val (.int (1 : Int32))] [(.int (1 : Int32))])) _
    refine XS.goto X16.here hx rfl (pc0 := 204) (pc' := 208) rfl (hb hby at_204) (by decide) (by decide) ?_
    show Steps p.tables e below (T16.setTop (mkF m 208 #[.val (.long q1), .second, .val (.long q2), .second, .val (.long q3), .second, .val (.long q4), .second, .val (.int p5), .val (.long (own_pA q1 p5)), .second, .val (.long (own_pB q2 p5)), .second, .val (.long (own_pC q1 q3 p5)), .second, .val (.long (own_pD q2 q4 p5)), .second, .val (.ref b6), .val (.ref b9), .val (.ref b12), .val (.ref b14), .val (.int (1 : Int32))] [(.int (1 : Int32))])) _
    exact retN X16 hx (t := .boolean) Bd.returns (by simp) (hb hby at_208) hr
  · show Q0 Z q1 q2 q3 q4 p5 h0 n0 _ T16.heap _
    exact ⟨rfl, N16⟩
theorem own_least {s : State} {args : Array Value} {t : Term} {aL : Addr} (hfit : Fit s) (ev : t.eval args s none [] s = some (.ref aL)) (ha : (Jvm.Cond.arrayOf t .long).value args s none s [] = some true) (hl : (Jvm.Cond.eq (Term.length t) (Term.int (2 : Int32))).value args s none s [] = some true) (h0 : (Jvm.Cond.eq (Term.elem t (Term.int (0 : Int32))) (Term.long (1 : Int64))).value args s none s [] = some true) (h1 : (Jvm.Cond.eq (Term.elem t (Term.int (1 : Int32))) (Term.long (0 : Int64))).value args s none s [] = some true) :
    ∃ kL, Arv s s.heap aL kL .long (2 : Int32) [(.long (1 : Int64)), (.long (0 : Int64))] (.long (0 : Int64)) := by
  obtain ⟨cl, A⟩ := Arr.start ev ha
  have eL : ∀ (u : Term) (z : Int64), (Jvm.Cond.eq u (Term.long z)).value args s none s [] = some true → u.eval args s none [] s = some (.long z) := fun u z hu => by
    obtain ⟨x, y, hx, hy, hk, -⟩ := cmp_v (Or.inl hu)
    cases (Option.some.inj hy : Value.long z = y)
    cases x with
    | long w => have := gotT (eq_L hx hy) hu; rw [hx, this]
    | _ => simp [Kin, Value.isRef] at hk
  have e0 := eL _ _ h0
  have e1 := eL _ _ h1
  have el := Jvm.Free.NT.SwA.eq_int (Cond.before_iff.mpr hl)
  have hA : s.arrayAt? aL = some cl := Arr.fin (Vm.Alike.refl _) A
  have hs : cl.slots.size < 2 ^ 31 := by
    by_cases q : cl.slots.size < 2 ^ 31
    · exact q
    · simp [Term.eval, ev, hA, q] at el
  have hz : cl.slots.size.toInt32 = (2 : Int32) := Value.int.inj (Option.some.inj ((len_f ev hA hs).symm.trans el))
  have i0 := (elem_in e0 ev (Term.int_eval (0 : Int32)) A.1).2
  have i1 := (elem_in e1 ev (Term.int_eval (1 : Int32)) A.1).2
  exact ⟨_, Arv.start hfit A hs hz (by decide) rfl ⟨i0, i1, trivial⟩⟩
set_option maxRecDepth 65536 in
set_option maxHeartbeats 40000000 in
theorem comes_1 {Post : Tables → Env → Array Value → State → Outcome → State → Prop} (hpost : ∀ tb e args s v u, (limb_1_1.after args s (.returned v) u = true ∧ limb_1_2.after args s (.returned v) u = true ∧ True) → FrameEnd s (.returned v) u (Jvm.fieldLocs frame_1_writes args s ++ Jvm.arrayLocs frame_1_arrays args s ++ Jvm.staticLocs frame_1_statics s) 16 128 → Post tb e args s (.returned v) u) :
    ArmFor flags0 classFile x code maxLocals ret World_1 tables_1 room_1 Calls_1 rest_1 Pre_1 Post := by
  intro l hfl _ _ p e ha hc hk s m args below hf hA hF happ hP
  obtain ⟨hcalls, hrest, hpre⟩ := hP
  obtain ⟨-, -, -, hnamed, -, -, -, hat⟩ := (Spec.applies_iff hf).mp happ
  obtain ⟨hg, hn⟩ := and_e (Cond.before_iff.mp (show (Jvm.Cond.and given_1 narrow_1).before args s = true from hpre))
  obtain ⟨g17, g18⟩ := and_e hg
  obtain ⟨g19, g20⟩ := and_e g18
  obtain ⟨g21, g22⟩ := and_e g20
  obtain ⟨g23, g24⟩ := and_e g22
  obtain ⟨g25, g26⟩ := and_e g24
  obtain ⟨w0, w1, w2, w3, w4, rfl⟩ : ∃ w0 w1 w2 w3 w4 : Value, args = #[w0, w1, w2, w3, w4] := by
    have hs : args.size = 5 := by simpa [Cond.value, given_1] using g17
    obtain ⟨L⟩ := args
    match L, hs with
    | [w0, w1, w2, w3, w4], _ => exact ⟨w0, w1, w2, w3, w4, rfl⟩
  have hw := fun d (hd : d ∈ tables_1) => atoms_spec (ws := Jvm.Cond.code x code maxLocals ret :: tables_1) hat d (List.mem_cons_of_mem _ hd)
  have hfit : Fit s := fun {y c} hc i hi => by
    obtain ⟨ha, rfl⟩ := Array.getElem?_eq_some_iff.mp hc
    have q := List.all_eq_true.mp ((Array.all_eq_true_iff_forall_mem.mp hF) _ (Array.getElem_mem ha)) i (List.mem_range.mpr hi)
    simpa [Array.getElem?_eq_getElem hi] using q
  obtain ⟨i0, ei0⟩ := isL_v g19
  obtain rfl : w0 = (.long i0) := Option.some.inj ei0
  obtain ⟨i1, ei1⟩ := isL_v g21
  obtain rfl : w1 = (.long i1) := Option.some.inj ei1
  obtain ⟨i2, ei2⟩ := isL_v g23
  obtain rfl : w2 = (.long i2) := Option.some.inj ei2
  obtain ⟨i3, ei3⟩ := isL_v g25
  obtain rfl : w3 = (.long i3) := Option.some.inj ei3
  obtain ⟨i4, ei4⟩ := is_v g26
  obtain rfl : w4 = (.int i4) := Option.some.inj ei4
  obtain ⟨hP0, hn1⟩ := and_e hn
  obtain ⟨hLa, hn2⟩ := and_e hn1
  obtain ⟨hLl, hn3⟩ := and_e hn2
  obtain ⟨hL0, hL1⟩ := and_e hn3
  have evP := Jvm.Free.NT.SwA.eq_int (Cond.before_iff.mpr hP0)
  have S_P := Sta.start evP (Or.inr ⟨(hw _ (List.mem_of_getElem? (i := 3) rfl)), (hw _ (List.mem_of_getElem? (i := 13) rfl))⟩)
  obtain ⟨aL, evL⟩ := arr_v hLa
  have S_L := Sta.start evL (Or.inr ⟨(hw _ (List.mem_of_getElem? (i := 3) rfl)), (hw _ (List.mem_of_getElem? (i := 22) rfl))⟩)
  obtain ⟨kL, V_L⟩ := own_least hfit evL hLa hLl hL0 hL1
  by_cases c0 : (lcmpW (own_pA i0 i4) (1 : Int64)) < (0 : Int32)
  · obtain ⟨n, o, h1, h2, h3, _, L, rfl, ⟨rfl, N⟩, hq⟩ := rm0_0 l s _ hw tables_1 i0 i1 i2 i3 i4 s.heap s.heap.size (Nat.le_refl _) (Old.start s) S_P aL kL S_L V_L c0 p e ha hc hk s m _ below hf ((Spec.applies_iff_loose hf).mp happ).1 ⟨rfl, State.Warmed39.refl s, rfl⟩ trivial
    exact ⟨n, _, h1, h2, h3, hpost _ _ _ _ _ _ ⟨Cond.after_iff.mpr rfl, Cond.after_iff.mpr (eq_i res_at (Term.int_eval (1)) rfl), trivial⟩ ⟨hq.1, hq.2.1, (hq.2.2.sift fun y hy => Or.inr (N y hy)).mono (by decide) (by decide)⟩⟩
  by_cases c1 : (lcmpW (own_pB i1 i4) (0 : Int64)) < (0 : Int32)
  · obtain ⟨n, o, h1, h2, h3, _, L, rfl, ⟨rfl, N⟩, hq⟩ := rm0_1 l s _ hw tables_1 i0 i1 i2 i3 i4 s.heap s.heap.size (Nat.le_refl _) (Old.start s) S_P aL kL S_L V_L c0 c1 p e ha hc hk s m _ below hf ((Spec.applies_iff_loose hf).mp happ).1 ⟨rfl, State.Warmed39.refl s, rfl⟩ trivial
    exact ⟨n, _, h1, h2, h3, hpost _ _ _ _ _ _ ⟨Cond.after_iff.mpr rfl, Cond.after_iff.mpr (eq_i res_at (Term.int_eval (1)) rfl), trivial⟩ ⟨hq.1, hq.2.1, (hq.2.2.sift fun y hy => Or.inr (N y hy)).mono (by decide) (by decide)⟩⟩
  by_cases c2 : (0 : Int32) < (lcmpW (own_pA i0 i4) (own_pC i0 i2 i4))
  · obtain ⟨n, o, h1, h2, h3, _, L, rfl, ⟨rfl, N⟩, hq⟩ := rm0_2 l s _ hw tables_1 i0 i1 i2 i3 i4 s.heap s.heap.size (Nat.le_refl _) (Old.start s) S_P aL kL S_L V_L c0 c1 c2 p e ha hc hk s m _ below hf ((Spec.applies_iff_loose hf).mp happ).1 ⟨rfl, State.Warmed39.refl s, rfl⟩ trivial
    exact ⟨n, _, h1, h2, h3, hpost _ _ _ _ _ _ ⟨Cond.after_iff.mpr rfl, Cond.after_iff.mpr (eq_i res_at (Term.int_eval (1)) rfl), trivial⟩ ⟨hq.1, hq.2.1, (hq.2.2.sift fun y hy => Or.inr (N y hy)).mono (by decide) (by decide)⟩⟩
  by_cases c3 : (0 : Int32) < (lcmpW (own_pB i1 i4) (own_pD i1 i3 i4))
  · obtain ⟨n, o, h1, h2, h3, _, L, rfl, ⟨rfl, N⟩, hq⟩ := rm0_3 l s _ hw tables_1 i0 i1 i2 i3 i4 s.heap s.heap.size (Nat.le_refl _) (Old.start s) S_P aL kL S_L V_L c0 c1 c2 c3 p e ha hc hk s m _ below hf ((Spec.applies_iff_loose hf).mp happ).1 ⟨rfl, State.Warmed39.refl s, rfl⟩ trivial
    exact ⟨n, _, h1, h2, h3, hpost _ _ _ _ _ _ ⟨Cond.after_iff.mpr rfl, Cond.after_iff.mpr (eq_i res_at (Term.int_eval (1)) rfl), trivial⟩ ⟨hq.1, hq.2.1, (hq.2.2.sift fun y hy => Or.inr (N y hy)).mono (by decide) (by decide)⟩⟩
  obtain ⟨n, o, h1, h2, h3, _, L, rfl, ⟨rfl, N⟩, hq⟩ := rm0_4 l s _ hw tables_1 i0 i1 i2 i3 i4 s.heap s.heap.size (Nat.le_refl _) (Old.start s) S_P aL kL S_L V_L c0 c1 c2 c3 p e ha hc hk s m _ below hf ((Spec.applies_iff_loose hf).mp happ).1 ⟨rfl, State.Warmed39.refl s, rfl⟩ trivial
  exact ⟨n, _, h1, h2, h3, hpost _ _ _ _ _ _ ⟨Cond.after_iff.mpr rfl, Cond.after_iff.mpr (eq_i res_at (Term.int_eval (1)) rfl), trivial⟩ ⟨hq.1, hq.2.1, (hq.2.2.sift fun y hy => Or.inr (N y hy)).mono (by decide) (by decide)⟩⟩
theorem main_1_1 : Claimed_1_1 := comes_1 fun _ _ _ _ _ _ h hF => ⟨h.1, hF⟩
theorem main_1_2 : Claimed_1_2 := comes_1 fun _ _ _ _ _ _ h hF => ⟨h.2.1, hF⟩
end Jvm.Pilot.@@N@@
namespace Jvm.Pilot.@@N@@
open Jvm Jvm.ClassFile Sem Op Lib Jvm.Free Jvm.Stand Jvm.Pilot.@@N@@.Jvm.D
/-! MADE BY PROGRAM (witnessworld.py) out of the Statement's table words and the real class files: 11 classes; the members and pool entries that the words name. The judged class is class 1, her method 1. -/
namespace start1
open Jvm.ClassFile
def u (s : String) : CpInfo := .utf8 (stringToUtf16 s)
/-- a pool by its gaps: so many unusable entries, then the entry; so many at the end -/
def gap : Nat → List CpInfo → List CpInfo
  | 0, r => r
  | n + 1, r => .unusable :: gap n r
def poolList (es : List (Nat × CpInfo)) (last : Nat) : List CpInfo := es.foldr (fun e r => gap e.1 (e.2 :: r)) (gap last [])
def pool (es : List (Nat × CpInfo)) (last : Nat) : Array CpInfo := ⟨poolList es last⟩
def fileOf (pool : Array CpInfo) (this : Nat) (attrs : Array Attribute := #[]) (ms : Array MethodInfo := #[]) (fl : Nat := 33) (sup : Nat := 0) (ifs : Array Nat := #[]) (fds : Array FieldInfo := #[]) : ClassFile where
  minorVersion := 0
  majorVersion := 65
  constantPool := pool
  accessFlags := fl
  thisClass := this
  superClass := sup
  interfaces := ifs
  fields := fds
  methods := ms
  attributes := attrs
def plain (name : String) (sup : Option ClassId) : Class where
  name := name
  kind := .ordinary
  loader := none
  accessFlags := 33
  super := sup
  interfaces := #[]
  cf := none
  fields := #[]
  methods := #[]
  instanceTypes := #[]
  staticTypes := #[]
  resolved := #[]
  callSites := []
  init := .initialized
  statics := none
  mirror := none

def pool0 : Array CpInfo := pool [(5, u "<init>"), (0, u "()V"), (1, .class_ 10), (1, u "java/lang/Object")] 113

def k0c0 : Code := { maxStack := 0, maxLocals := 1, code := object_method_1_code, exceptionTable := #[], attributes := #[] }
def k0m0 : Method := { name := "<init>", desc := "()V", sig := { parameters := [], returnType := none }, accessFlags := 1, code := some k0c0 }
/-- java/lang/Object -/
def k0 : Class := { plain "java/lang/Object" none with
  accessFlags := 33
  interfaces := #[]
  cf := some (fileOf pool0 8 #[] #[{ accessFlags := 1, nameIndex := 5, descriptorIndex := 6, attributes := #[] }] 33 0 #[] #[])
  fields := #[]
  methods := #[k0m0]
  instanceTypes := #[]
  staticTypes := #[]
  resolved := Array.replicate 124 none
  statics := none }

def pool1 : Array CpInfo := pool [(2, .class_ 4), (1, u "java/lang/Object"), (0, u "<init>"), (0, u "()V"), (0, .class_ 8), (0, u "com/example/slotwise/slotwise/engine/Resources"), (0, .methodref 7 10), (0, .nameAndType 5 11), (0, u "([J)V"), (0, .methodref 7 13), (0, .nameAndType 14 15), (0, u "canRunOn"), (0, u "(Lcom/example/slotwise/slotwise/engine/Resources;)Z"), (0, .class_ 17), (0, u "com/example/slotwise/slotwise/engine/ResourcesCanRunOnPinLaw"), (2, u "law"), (0, u "(JJJJI)Z")] 5

def k1m0 : Method := { name := "<init>", desc := "()V", sig := { parameters := [], returnType := none }, accessFlags := 2, code := none }
def k1c1 : Code := { maxStack := 4, maxLocals := 22, code := code, exceptionTable := #[], attributes := #[] }
def k1m1 : Method := { name := "law", desc := "(JJJJI)Z", sig := { parameters := [.long, .long, .long, .long, .int], returnType := some .boolean }, accessFlags := 9, code := some k1c1 }
/-- com/example/slotwise/slotwise/engine/ResourcesCanRunOnPinLaw -/
def k1 : Class := { plain "com/example/slotwise/slotwise/engine/ResourcesCanRunOnPinLaw" (some 0) with
  accessFlags := 49
  interfaces := #[]
  cf := some (fileOf pool1 16 #[] #[{ accessFlags := 2, nameIndex := 5, descriptorIndex := 6, attributes := #[] }, { accessFlags := 9, nameIndex := 20, descriptorIndex := 21, attributes := #[] }] 49 2 #[] #[])
  fields := #[]
  methods := #[k1m0, k1m1]
  instanceTypes := #[]
  staticTypes := #[]
  resolved := Array.replicate 27 none
  statics := none }

def pool2 : Array CpInfo := pool [(1, .methodref 2 3), (0, .class_ 4), (0, .nameAndType 5 6), (0, u "java/lang/Object"), (0, u "<init>"), (0, u "()V"), (0, .fieldref 8 9), (0, .class_ 10), (0, .nameAndType 11 12), (0, u "com/example/slotwise/slotwise/engine/Resources"), (0, u "amounts"), (0, u "[J"), (0, .fieldref 8 14), (0, .nameAndType 15 16), (0, u "PROCESSORS"), (0, u "I"), (0, .fieldref 8 18), (0, .nameAndType 19 20), (0, u "processorsAlone"), (0, u "Z"), (2, u "PROCESSORS_ALONE"), (0, u "[Lcom/example/slotwise/slotwise/engine/Resources;"), (2, u "NONE"), (0, u "Lcom/example/slotwise/slotwise/engine/Resources;"), (37, u "([J)V"), (22, .fieldref 8 90), (0, .nameAndType 91 12), (0, u "LEAST"), (85, u "(Lcom/example/slotwise/slotwise/engine/Resources;)Z"), (4, u "canRunOn")] 37

def k2c0 : Code := { maxStack := 5, maxLocals := 4, code := prog_57_method_1_code, exceptionTable := #[], attributes := #[] }
def k2m0 : Method := { name := "<init>", desc := "([J)V", sig := { parameters := [(.array .long)], returnType := none }, accessFlags := 0, code := some k2c0 }
def k2c1 : Code := { maxStack := 4, maxLocals := 3, code := prog_57_method_14_code, exceptionTable := #[], attributes := #[] }
def k2m1 : Method := { name := "canRunOn", desc := "(Lcom/example/slotwise/slotwise/engine/Resources;)Z", sig := { parameters := [(.object "com/example/slotwise/slotwise/engine/Resources")], returnType := some .boolean }, accessFlags := 1, code := some k2c1 }
/-- com/example/slotwise/slotwise/engine/Resources -/
def k2 : Class := { plain "com/example/slotwise/slotwise/engine/Resources" (some 0) with
  accessFlags := 49
  interfaces := #[]
  cf := some (fileOf pool2 8 #[] #[{ accessFlags := 0, nameIndex := 5, descriptorIndex := 66, attributes := #[] }, { accessFlags := 1, nameIndex := 182, descriptorIndex := 177, attributes := #[] }] 49 2 #[] #[{ accessFlags := 24, nameIndex := 15, descriptorIndex := 16, attributes := #[] }, { accessFlags := 25, nameIndex := 27, descriptorIndex := 28, attributes := #[] }, { accessFlags := 26, nameIndex := 91, descriptorIndex := 12, attributes := #[] }, { accessFlags := 26, nameIndex := 23, descriptorIndex := 24, attributes := #[] }, { accessFlags := 18, nameIndex := 11, descriptorIndex := 12, attributes := #[] }, { accessFlags := 18, nameIndex := 19, descriptorIndex := 20, attributes := #[] }])
  fields := #[{ name := "PROCESSORS", type := .int, accessFlags := 24, slot := 0, constantValue := 0 }, { name := "NONE", type := (.object "com/example/slotwise/slotwise/engine/Resources"), accessFlags := 25, slot := 1, constantValue := 0 }, { name := "LEAST", type := (.array .long), accessFlags := 26, slot := 2, constantValue := 0 }, { name := "PROCESSORS_ALONE", type := (.array (.object "com/example/slotwise/slotwise/engine/Resources")), accessFlags := 26, slot := 3, constantValue := 0 }, { name := "amounts", type := (.array .long), accessFlags := 18, slot := 0, constantValue := 0 }, { name := "processorsAlone", type := .boolean, accessFlags := 18, slot := 1, constantValue := 0 }]
  methods := #[k2m0, k2m1]
  instanceTypes := #[(.array .long), .boolean]
  staticTypes := #[.int, (.object "com/example/slotwise/slotwise/engine/Resources"), (.array .long), (.array (.object "com/example/slotwise/slotwise/engine/Resources"))]
  resolved := Array.replicate 220 none
  statics := some 0 }

def pool3 : Array CpInfo := pool [(1, u "java/lang/Cloneable"), (0, .class_ 1), (0, u "java/lang/Object"), (0, .class_ 3)] 3

/-- java/lang/Cloneable -/
def k3 : Class := { plain "java/lang/Cloneable" (some 0) with
  accessFlags := 1537
  interfaces := #[]
  cf := some (fileOf pool3 2 #[] #[] 1537 4 #[] #[])
  fields := #[]
  methods := #[]
  instanceTypes := #[]
  staticTypes := #[]
  resolved := Array.replicate 8 none
  statics := none }

def pool4 : Array CpInfo := pool [(1, u "java/io/Serializable"), (0, .class_ 1), (0, u "java/lang/Object"), (0, .class_ 3)] 3

/-- java/io/Serializable -/
def k4 : Class := { plain "java/io/Serializable" (some 0) with
  accessFlags := 1537
  interfaces := #[]
  cf := some (fileOf pool4 2 #[] #[] 1537 4 #[] #[])
  fields := #[]
  methods := #[]
  instanceTypes := #[]
  staticTypes := #[]
  resolved := Array.replicate 8 none
  statics := none }

/-- the primitive byte -/
def k5 : Class := { plain "byte" none with kind := .primitive 'B', accessFlags := 0x411 }
/-- [B -/
def k6 : Class := { plain "[B" (some 0) with kind := .array 5 .byte, interfaces := #[3, 4], accessFlags := 1041 }

/-- the primitive int -/
def k7 : Class := { plain "int" none with kind := .primitive 'I', accessFlags := 0x411 }
/-- [I -/
def k8 : Class := { plain "[I" (some 0) with kind := .array 7 .int, interfaces := #[3, 4], accessFlags := 1041 }

/-- the primitive long -/
def k9 : Class := { plain "long" none with kind := .primitive 'J', accessFlags := 0x411 }
/-- [J -/
def k10 : Class := { plain "[J" (some 0) with kind := .array 9 .long, interfaces := #[3, 4], accessFlags := 1041 }

def heap : Heap := #[{ cls := 2, slots := #[.int 0, .null, .ref 1, .null], vm := .statics 2 },
  { cls := 10, slots := #[.long 1, .long 0], vm := .none }]
def classes : Array Class := #[k0, k1, k2, k3, k4, k5, k6, k7, k8, k9, k10]
def interned : List (Array UInt16 × Addr) := []
def slotsUsed : Nat := 6
def theMethod : MethodId := ⟨1, 1⟩
def args0 : Array Value := #[.long 3, .long 2, .long 10, .long 8, .int 0]
def aboutOver (below : List Frame) : State where
  vm := { classes := classes, interned := interned.toArray }
  heap := heap
  slotsUsed := slotsUsed
  threads := #[{ frames := .invoking theMethod args0 :: below }]
def below0 : List Frame := [.native { method := ⟨0, 0⟩, args := #[] }]
def about1 : State := aboutOver below0
def p0 : Program := .bare "" "" ""
def e0 : Env := launch0.env 0 0 0
theorem w_frames : about1.frames = Frame.invoking theMethod args0 :: below0 := rfl
set_option maxRecDepth 65536 in
theorem w_args : argsFit about1.vm theMethod args0 = true := by decide +kernel
set_option maxRecDepth 65536 in
theorem w_heap : heapFits about1 = true := by decide +kernel
set_option maxRecDepth 65536 in
theorem w_runnable : about1.curStatus? = some .runnable := by decide +kernel
set_option maxRecDepth 65536 in
theorem w_alone : about1.alone = true := by decide +kernel
set_option maxRecDepth 65536 in
theorem w_named : about1.methodNamed? x = some theMethod := by decide +kernel
set_option maxRecDepth 65536 in
theorem w_hears : about1.hears theMethod below0 = true := by decide +kernel
set_option maxRecDepth 65536 in
theorem w_ripe : about1.ripe theMethod args0 below0 = true := by decide +kernel
theorem w_running : about1.status = .running := rfl
set_option maxRecDepth 65536 in
theorem w_room : about1.hasRoom e0.platform room_1 = true :=
  launch0.hasRoom_least _ room_1 (by decide +kernel) (by decide +kernel) (by decide +kernel) (by decide +kernel) (by decide +kernel) (by decide +kernel)
theorem allAtoms_all (ts : List Jvm.Cond) (a : Array Jvm.Value) (st : Jvm.State) : (allAtoms ts).before a st = ts.all (fun c => c.before a st) := by
  induction ts with
  | nil => rfl
  | cons c t ih =>
    show (Jvm.Cond.and c (allAtoms t)).before a st = _
    rw [Jvm.Cond.before_and, ih, List.all_cons]
def words1 : List Jvm.Cond := Jvm.Cond.code x code maxLocals ret :: tables_1
/-- a 'code' word, met by the world's own term for the bytes: nothing is compared byte by byte -/
theorem code_word {y : MethodName} {bytes : ByteArray} {mx : Nat} {rt : Option FieldType} {a : Array Value} {s : State} {m : MethodId} {meth : Method} {c : Code} (h1 : s.methodNamed? y = some m) (h2 : s.vm.method? m = some meth) (h3 : meth.code = some c) (h4 : c.code = bytes)
    (h5 : (c.maxLocals == mx && c.exceptionTable.isEmpty && decide (c.maxStack ≤ mostOperands) && decide (meth.sig.returnType = rt) && !meth.locks && decide (parseMethodDescriptor y.desc = some meth.sig)) = true) : (Jvm.Cond.code y bytes mx rt).before a s = true := by
  simp only [Bool.and_eq_true, beq_iff_eq, Bool.not_eq_true', decide_eq_true_eq] at h5
  obtain ⟨⟨⟨⟨⟨g1, g2⟩, g3⟩, g4⟩, g5⟩, g6⟩ := h5
  simp [Cond.before, Cond.holds, Cond.value, h1, h2, h3, h4, g1, g2, g3, g4, g5, g6]
def isCode : Jvm.Cond → Bool
  | .code _ _ _ _ => true
  | _ => false
theorem all_split {L : List Jvm.Cond} {P : Jvm.Cond → Bool} (h1 : L.all (fun c => isCode c || P c) = true) (h2 : ∀ c ∈ L.filter isCode, P c = true) : L.all P = true := by
  refine List.all_eq_true.mpr fun c hc => ?_
  have h := List.all_eq_true.mp h1 c hc
  rcases Bool.eq_false_or_eq_true (isCode c) with hi | hi
  · exact h2 c (List.mem_filter.mpr ⟨hc, hi⟩)
  · simpa [hi] using h
set_option maxRecDepth 65536 in
theorem w_c0 : (Jvm.Cond.code x code maxLocals ret).before args0 about1 = true := code_word (m := ⟨1, 1⟩) (meth := k1m1) (c := k1c1) (by decide +kernel) rfl rfl rfl (by decide +kernel)
set_option maxRecDepth 65536 in
theorem w_c1 : (Jvm.Cond.code ({ cls := "com/example/slotwise/slotwise/engine/Resources", name := "<init>", desc := "([J)V" } : Jvm.MethodName) prog_57_method_1_code (4 : Nat) (Option.none : Option Jvm.ClassFile.FieldType)).before args0 about1 = true := code_word (m := ⟨2, 0⟩) (meth := k2m0) (c := k2c0) (by decide +kernel) rfl rfl rfl (by decide +kernel)
set_option maxRecDepth 65536 in
theorem w_c2 : (Jvm.Cond.code ({ cls := "java/lang/Object", name := "<init>", desc := "()V" } : Jvm.MethodName) object_method_1_code (1 : Nat) (Option.none : Option Jvm.ClassFile.FieldType)).before args0 about1 = true := code_word (m := ⟨0, 0⟩) (meth := k0m0) (c := k0c0) (by decide +kernel) rfl rfl rfl (by decide +kernel)
set_option maxRecDepth 65536 in
theorem w_c3 : (Jvm.Cond.code ({ cls := "com/example/slotwise/slotwise/engine/Resources", name := "canRunOn", desc := "(Lcom/example/slotwise/slotwise/engine/Resources;)Z" } : Jvm.MethodName) prog_57_method_14_code (3 : Nat) (Option.some Jvm.ClassFile.FieldType.boolean)).before args0 about1 = true := code_word (m := ⟨2, 1⟩) (meth := k2m1) (c := k2c1) (by decide +kernel) rfl rfl rfl (by decide +kernel)
def codes1 : List Jvm.Cond := [Jvm.Cond.code x code maxLocals ret, Jvm.Cond.code ({ cls := "com/example/slotwise/slotwise/engine/Resources", name := "<init>", desc := "([J)V" } : Jvm.MethodName) prog_57_method_1_code (4 : Nat) (Option.none : Option Jvm.ClassFile.FieldType), Jvm.Cond.code ({ cls := "java/lang/Object", name := "<init>", desc := "()V" } : Jvm.MethodName) object_method_1_code (1 : Nat) (Option.none : Option Jvm.ClassFile.FieldType), Jvm.Cond.code ({ cls := "com/example/slotwise/slotwise/engine/Resources", name := "canRunOn", desc := "(Lcom/example/slotwise/slotwise/engine/Resources;)Z" } : Jvm.MethodName) prog_57_method_14_code (3 : Nat) (Option.some Jvm.ClassFile.FieldType.boolean)]
set_option maxRecDepth 65536 in
theorem codes_eq : words1.filter isCode = codes1 := rfl
theorem w_codes : ∀ c ∈ words1.filter isCode, c.before args0 about1 = true := by
  rw [codes_eq]
  intro c hc
  simp only [codes1, List.mem_cons, List.not_mem_nil, or_false] at hc
  rcases hc with rfl | rfl | rfl | rfl
  · exact w_c0
  · exact w_c1
  · exact w_c2
  · exact w_c3
set_option maxRecDepth 65536 in
theorem w_t1 : words1.all (fun c => isCode c || c.before args0 about1) = true := by decide +kernel
theorem w_tables : (allAtoms (Jvm.Cond.code x code maxLocals ret :: tables_1)).before args0 about1 = true := by
  rw [allAtoms_all]
  show words1.all (fun c => c.before args0 about1) = true
  refine all_split ?_ w_codes
  rw [w_t1]
set_option maxRecDepth 65536 in
theorem w_case : (Jvm.Cond.and given_1 narrow_1).before args0 about1 = true := by decide +kernel
theorem w_applies : (headSpec (Jvm.Cond.code x code maxLocals ret :: tables_1) room_1).applies x e0.platform about1 = true :=
  (Spec.applies_iff w_frames).mpr ⟨w_running, w_runnable, w_alone, w_named, w_hears, w_ripe, w_room, w_tables⟩
theorem atStart : AtStart classFile x code maxLocals ret World_1 tables_1 room_1 Calls_1 rest_1 Pre_1 launch0 p0 e0 about1 theMethod args0 below0 :=
  ⟨lists_1, trivial, launch0.admits_env _ _ _, launch0.least_env, fairChoices_fair.cas, fairChoices_fair.clock, w_frames, w_args, w_heap, w_applies, trivial, trivial, w_case⟩
end start1
theorem witness_1 : WitnessClaimed_1 := ⟨start1.p0, start1.e0, start1.about1, start1.theMethod, start1.args0, start1.below0, start1.atStart⟩
end Jvm.Pilot.@@N@@
