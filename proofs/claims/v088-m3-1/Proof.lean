import JvmDerived
import JvmDerived.Pilot.@@N@@Statement
import JvmDerived.Pilot.@@N@@Code
set_option linter.unusedVariables false
set_option linter.unusedSimpArgs false
namespace Jvm.Pilot.@@N@@
open Jvm Jvm.ClassFile Sem Op Lib Jvm.Free Jvm.Stand Jvm.LawKit Jvm.RoadKit Bundle Jvm.Pilot.@@N@@.Jvm.D
theorem own_eqref {s : State} {args : Array Value} {t u : Term} {a : Addr} (h : (Jvm.Cond.eq t u).value args s none s [] = some true) (hu : u.eval args s none [] s = some (.ref a)) : t.eval args s none [] s = some (.ref a) := by
  obtain ⟨x, y, hx, hy, k1, k2⟩ := cmp_v (Or.inl h)
  cases (Option.some.inj (hy.symm.trans hu) : y = .ref a)
  have k3 : (Value.ref a).isRef = true ∧ x.isRef = true := k2
  have q := gotT (eq_R hx hu k3.2 rfl) h
  rw [hx, q]
theorem own_len {s : State} {args : Array Value} {t : Term} {a : Addr} {cl : Cell} {ty : FieldType} (ev : t.eval args s none [] s = some (.ref a)) (A : Arr s s.heap a cl ty) (hl : (Jvm.Cond.eq (Term.length t) (Term.int (17 : Int32))).value args s none s [] = some true) : cl.slots.size = 17 := by
  have el := Jvm.Free.NT.SwA.eq_int (Cond.before_iff.mpr hl)
  have hA : s.arrayAt? a = some cl := Arr.fin (Vm.Alike.refl _) A
  have hs : cl.slots.size < 2 ^ 31 := by
    by_cases q : cl.slots.size < 2 ^ 31
    · exact q
    · simp [Term.eval, ev, hA, q] at el
  have hz : cl.slots.size.toInt32 = (17 : Int32) := Value.int.inj (Option.some.inj ((len_f ev hA hs).symm.trans el))
  have h1 := len_toInt hs
  rw [hz] at h1
  have e1 : (17 : Int32).toInt = 17 := by decide
  omega
theorem own_idx (i : Nat) (hi : i < 17) : (Int32.ofNat i).toNatClampNeg = i ∧ ¬ (Int32.ofNat i) < 0 ∧ (Int32.ofNat i) < (17 : Int32) ∧ Int32.ofNat (i + 1) = Int32.ofNat i + (1 : Int32) := by
  have h : ∀ k : Fin 17, (Int32.ofNat k.1).toNatClampNeg = k.1 ∧ ¬ (Int32.ofNat k.1) < 0 ∧ (Int32.ofNat k.1) < (17 : Int32) ∧ Int32.ofNat (k.1 + 1) = Int32.ofNat k.1 + (1 : Int32) := by decide +kernel
  exact h ⟨i, hi⟩
theorem own_inj {i j : Nat} (hij : i ≠ j) (hi : i < 17) (hj : j < 17) : ¬ (Int32.ofNat (i + 1) = Int32.ofNat (j + 1)) := by
  have h : ∀ a b : Fin 17, a.1 ≠ b.1 → ¬ (Int32.ofNat (a.1 + 1) = Int32.ofNat (b.1 + 1)) := by decide +kernel
  exact h ⟨i, hi⟩ ⟨j, hj⟩ hij
theorem own_byte (j : Nat) (hj : j < 17) : (Int32.ofNat (j + 1)).toInt8.toInt32 = Int32.ofNat (j + 1) := by
  have h : ∀ k : Fin 17, (Int32.ofNat (k.1 + 1)).toInt8.toInt32 = Int32.ofNat (k.1 + 1) := by decide +kernel
  exact h ⟨j, hj⟩
theorem own_mod17 (x : Int32) : ∃ j, j < 17 ∧ (((x &&& (2147483647 : Int32)) % (17 : Int32)) + (1 : Int32)) = Int32.ofNat (j + 1) := by
  have h1 := c_and x (2147483647 : Int32) (by decide)
  have h2 := (c_iremV (x &&& (2147483647 : Int32)) (17 : Int32)).1 h1.1 (by decide)
  have h6 : (17 : Int32).toInt = 17 := by decide
  generalize ((x &&& (2147483647 : Int32)) % (17 : Int32)) = r at h2
  have h3 : r = Int32.ofNat r.toInt.toNat := by
    apply Int32.toInt_inj.mp
    rw [show (Int32.ofNat r.toInt.toNat).toInt = (r.toInt.toNat : Int) from Int32.toInt_ofNat_small (by omega)]
    omega
  refine ⟨r.toInt.toNat, by omega, ?_⟩
  have h4 := (own_idx r.toInt.toNat (by omega)).2.2.2
  rw [h4, ← h3]
def QA (Z : State) (cV : Cell) (h0 : Heap) (n0 : Nat) (v : Option Value) (h : Heap) (L : List Loc) : Prop := (∃ b : Addr, v = some (.ref b) ∧ Arr Z h b (cloneOf cV) (.object "com/example/mirrorlog/mirrorlog/core/message/Message$Kind")) ∧ Fr n0 L ∧ Keep h0 h []
theorem d2_0 : decode prog_27_method_1_code 0 = .ok (.getstatic 55, 3) := by decide +kernel
theorem d2_3 : decode prog_27_method_1_code 3 = .ok (.invokevirtual 59, 3) := by decide +kernel
theorem d2_6 : decode prog_27_method_1_code 6 = .ok (.checkcast 60, 3) := by decide +kernel
theorem d2_9 : decode prog_27_method_1_code 9 = .ok (.areturn, 1) := by decide +kernel
theorem pn_2 : plainName "com/example/mirrorlog/mirrorlog/core/message/Message$Kind" = true := by first | (simp [plainName, overriddenIn]; done) | decide +kernel
theorem ef_2 (m : MethodId) : entryFrame m #[] 0 = mkF m 0 #[] [] := by first | rfl | (simp [entryFrame, mkF, argsToLocals, Value.category]; done)
set_option maxRecDepth 65536 in
set_option maxHeartbeats 40000000 in
theorem rm2 (l : Launch) (Z : State) (a0 : Array Value) (hw : ∀ d ∈ tables_1, d.before a0 Z = true) (ws : List Jvm.Cond) (w1 : Addr) (h0 : Heap) (n0 : Nat) (Z0 : n0 ≤ h0.size) (S__VALUES : Sta Z h0 "com/example/mirrorlog/mirrorlog/core/message/Message$Kind" "$VALUES" "[Lcom/example/mirrorlog/mirrorlog/core/message/Message$Kind;" (.ref w1)) (E_w1 : Exa Z h0 w1 "[Lcom/example/mirrorlog/mirrorlog/core/message/Message$Kind;") (cV : Cell) (A_w1 : Arr Z h0 w1 cV (.object "com/example/mirrorlog/mirrorlog/core/message/Message$Kind")) (F_w1 : FitC Z cV) (z_w1 : cV.slots.size = 17) :
    MetFree l (⟨"com/example/mirrorlog/mirrorlog/core/message/Message$Kind", "values", "()[Lcom/example/mirrorlog/mirrorlog/core/message/Message$Kind;"⟩ : MethodName) (head1 (Jvm.Cond.code (⟨"com/example/mirrorlog/mirrorlog/core/message/Message$Kind", "values", "()[Lcom/example/mirrorlog/mirrorlog/core/message/Message$Kind;"⟩ : MethodName) prog_27_method_1_code 0 (some (.array (.object "com/example/mirrorlog/mirrorlog/core/message/Message$Kind"))) :: ws) ({ frames := 1, cells := 1, slots := 17, locals := 14 } : Room)) (fun a U => a = #[] ∧ Z.Warmed39 U.vm ∧ U.heap = h0) (fun _ _ _ _ _ => True) (fun _ U o U' => ∃ v L, o = .returned v ∧ QA Z cV h0 n0 v U'.heap L ∧ FrameEnd U o U' L ({ frames := 1, cells := 1, slots := 17, locals := 14 } : Room).cells ({ frames := 1, cells := 1, slots := 17, locals := 14 } : Room).slots) := by
  refine MetFree.of_bodySF (plainFor_of_name pn_2) hisR ?_
  intro p e s m args below meth c s₁ Bd hml0 hP hK
  obtain ⟨rfl, hZ, hh⟩ := hP
  have hx := Bd.exec
  have hby := Bd.bytes
  have hml : c.maxLocals = 0 := hml0
  have hown : s.vm.findClass "com/example/mirrorlog/mirrorlog/core/message/Message$Kind" = some m.cls := findClass_of_methodNamed Bd.named
  have hnm := (name_of_methodNamed Bd.named Bd.method).1
  have X0 : Stand p l e ({ frames := 1, cells := 1, slots := 17, locals := 14 } : Room) s m #[] below meth c s₁ [] 0 0 := Stand.of_body Bd
  have e0 : s₁.heap = h0 := by rw [← hh, Bd.state]; rfl
  have N0 := Fr.nil n0
  have pre0 : ∀ t, Steps p.tables e below (s₁.setTop (mkF m 0 #[] [])) t → Steps p.tables e below (s₁.setTop (entryFrame m #[] 0)) t := fun t k => castTop (ef_2 m) k
  obtain ⟨T2, X2, e2, st2⟩ := getS2 X0 hx hZ hown (host := "") (Or.inl (hw _ (List.mem_of_getElem? (i := 8) rfl))) Via.refl e0 S__VALUES (g := (mkF m 0 #[] [])) rfl (hb hby d2_0)
  obtain ⟨T3, h3, X3, e3, E3, A3, Y3, st3⟩ := cloneA X2 hx hZ hown (hw _ (List.mem_of_getElem? (i := 10) rfl)) (hw _ (List.mem_of_getElem? (i := 11) rfl)) (hw _ (List.mem_of_getElem? (i := 15) rfl)) (hw _ (List.mem_of_getElem? (i := 13) rfl)) (hw _ (List.mem_of_getElem? (i := 14) rfl)) (hw _ (List.mem_of_getElem? (i := 16) rfl)) e2 A_w1 E_w1 F_w1 (g := (mkF m 3 #[] [(.ref w1)])) rfl (by rw [hml]; rfl) rfl (hb hby d2_3) (by decide) (W := 0) (cap := 17) (by show 2 * 0 + _ ≤ _; exact Nat.le_of_eq rfl) (by decide) (Nat.le_of_eq z_w1) (by decide) (by decide)
  obtain ⟨b3, g3⟩ : ∃ z, z = h0.size := ⟨_, rfl⟩
  rw [← g3] at A3 Y3 st3
  obtain ⟨T4, X4, e4, st4⟩ := castY X3 hx hZ hown (hw _ (List.mem_of_getElem? (i := 35) rfl)) e3 (Ins.self Y3) (g := (mkF m 6 #[] [(.ref b3)])) rfl rfl (hb hby d2_6)
  obtain ⟨fs, hr, hrun, hended, hW, hsame⟩ := X4.leave (v := some (.ref b3)) (fun h => by rw [Bd.returns] at h; cases h)
  refine ⟨_, _, pre0 _ ?_, hrun, hended, _, _, rfl, ?_, ⟨_, rfl⟩, hW, hsame.mono (by decide) (by decide)⟩
  · show Steps p.tables e below (s₁.setTop (mkF m 0 #[] [])) _
    refine st2 _ ?_
    show Steps p.tables e below (T2.setTop (mkF m 3 #[] [(.ref w1)])) _
    refine st3 _ ?_
    show Steps p.tables e below (T3.setTop (mkF m 6 #[] [(.ref b3)])) _
    refine st4 _ ?_
    show Steps p.tables e below (T4.setTop (mkF m 9 #[] [(.ref b3)])) _
    jvm_step X4.here [X4.here.top, hx, (hb hby d2_9), X4.method', Bd.returns, Value.isRef, FieldType.isReference]
    first | (intro acts; rw [hr _ acts rfl rfl rfl]) | rw [hr _ _ rfl rfl rfl]
    exact Steps.refl _
  · show QA Z cV h0 n0 _ T4.heap _
    rw [e4]
    exact ⟨⟨b3, rfl, A3⟩, N0, (Keep.refl h0 []).ext E3⟩
theorem d3_0 : decode prog_27_method_4_code 0 = .ok (.aload_n 0, 1) := by decide +kernel
theorem d3_1 : decode prog_27_method_4_code 1 = .ok (.getfield 74, 3) := by decide +kernel
theorem d3_4 : decode prog_27_method_4_code 4 = .ok (.ireturn, 1) := by decide +kernel
theorem pn_3 : plainName "com/example/mirrorlog/mirrorlog/core/message/Message$Kind" = true := by first | (simp [plainName, overriddenIn]; done) | decide +kernel
theorem ef_3 (m : MethodId) (x0 : Addr) : entryFrame m #[(.ref x0)] 1 = mkF m 0 #[.val (.ref x0)] [] := by first | (simp [entryFrame, mkF, argsToLocals, Value.category]; done) | rfl
def Q3 (Z : State) (a1 : Addr) (w2 : Int32) (h0 : Heap) (n0 : Nat) (v : Option Value) (h : Heap) (L : List Loc) : Prop := v = some (.int (nar .byte w2)) ∧ Fr n0 L ∧ h = h0
set_option maxRecDepth 65536 in
set_option maxHeartbeats 40000000 in
theorem rm3 (l : Launch) (Z : State) (a0 : Array Value) (hw : ∀ d ∈ tables_1, d.before a0 Z = true) (ws : List Jvm.Cond) (a1 : Addr) (w2 : Int32) (h0 : Heap) (n0 : Nat) (Z0 : n0 ≤ h0.size) (F_tag_a1 : Fld Z h0 a1 "com/example/mirrorlog/mirrorlog/core/message/Message$Kind" "tag" "B" (.int w2)) :
    MetFree l (⟨"com/example/mirrorlog/mirrorlog/core/message/Message$Kind", "tag", "()B"⟩ : MethodName) (head1 (Jvm.Cond.code (⟨"com/example/mirrorlog/mirrorlog/core/message/Message$Kind", "tag", "()B"⟩ : MethodName) prog_27_method_4_code 1 (some .byte) :: ws) ({ frames := 0, cells := 0, slots := 0, locals := 0 } : Room)) (fun a U => a = #[(.ref a1)] ∧ Z.Warmed39 U.vm ∧ U.heap = h0) (fun _ _ _ _ _ => True) (fun _ U o U' => ∃ v L, o = .returned v ∧ Q3 Z a1 w2 h0 n0 v U'.heap L ∧ FrameEnd U o U' L ({ frames := 0, cells := 0, slots := 0, locals := 0 } : Room).cells ({ frames := 0, cells := 0, slots := 0, locals := 0 } : Room).slots) := by
  refine MetFree.of_bodySF (plainFor_of_name pn_3) hisR ?_
  intro p e s m args below meth c s₁ Bd hml0 hP hK
  obtain ⟨rfl, hZ, hh⟩ := hP
  have hx := Bd.exec
  have hby := Bd.bytes
  have hml : c.maxLocals = 1 := hml0
  have hown : s.vm.findClass "com/example/mirrorlog/mirrorlog/core/message/Message$Kind" = some m.cls := findClass_of_methodNamed Bd.named
  have hnm := (name_of_methodNamed Bd.named Bd.method).1
  have X0 : Stand p l e ({ frames := 0, cells := 0, slots := 0, locals := 0 } : Room) s m #[(.ref a1)] below meth c s₁ [] 0 0 := Stand.of_body Bd
  have e0 : s₁.heap = h0 := by rw [← hh, Bd.state]; rfl
  have N0 := Fr.nil n0
  have pre0 : ∀ t, Steps p.tables e below (s₁.setTop (mkF m 0 #[.val (.ref a1)] [])) t → Steps p.tables e below (s₁.setTop (entryFrame m #[(.ref a1)] 1)) t := fun t k => castTop (ef_3 m a1) k
  obtain ⟨T3, X3, e3, st3⟩ := getF X0 hx hZ hown (host := "") (Or.inl (hw _ (List.mem_of_getElem? (i := 37) rfl))) Via.refl e0 F_tag_a1 (g := (mkF m 1 #[.val (.ref a1)] [(.ref a1)])) rfl rfl (hb hby d3_1)
  obtain ⟨fs, hr, hrun, hended, hW, hsame⟩ := X3.leave (v := some (.int (nar .byte w2))) (fun h => by rw [Bd.returns] at h; cases h)
  refine ⟨_, _, pre0 _ ?_, hrun, hended, _, _, rfl, ?_, ⟨_, rfl⟩, hW, hsame.mono (by decide) (by decide)⟩
  · show Steps p.tables e below (s₁.setTop (mkF m 0 #[.val (.ref a1)] [])) _
    refine XS.aloadN X0.here hx rfl (hb hby d3_0) rfl rfl ?_
    show Steps p.tables e below (s₁.setTop (mkF m 1 #[.val (.ref a1)] [(.ref a1)])) _
    refine st3 _ ?_
    show Steps p.tables e below (T3.setTop (mkF m 4 #[.val (.ref a1)] [(.int w2)])) _
    exact retN X3 hx (t := .byte) Bd.returns (by simp) (hb hby d3_4) hr
  · show Q3 Z a1 w2 h0 n0 _ T3.heap _
    rw [e3]
    exact ⟨rfl, N0, rfl⟩
theorem d1_0 : decode prog_27_method_6_code 0 = .ok (.invokestatic 90, 3) := by decide +kernel
theorem d1_3 : decode prog_27_method_6_code 3 = .ok (.astore_n 1, 1) := by decide +kernel
theorem d1_4 : decode prog_27_method_6_code 4 = .ok (.aload_n 1, 1) := by decide +kernel
theorem d1_5 : decode prog_27_method_6_code 5 = .ok (.arraylength, 1) := by decide +kernel
theorem d1_6 : decode prog_27_method_6_code 6 = .ok (.istore_n 2, 1) := by decide +kernel
theorem d1_7 : decode prog_27_method_6_code 7 = .ok (.iconst 0, 1) := by decide +kernel
theorem d1_8 : decode prog_27_method_6_code 8 = .ok (.istore_n 3, 1) := by decide +kernel
theorem pd_1_1 : parseMethodDescriptor "()[Lcom/example/mirrorlog/mirrorlog/core/message/Message$Kind;" = some ⟨[], some (.array (.object "com/example/mirrorlog/mirrorlog/core/message/Message$Kind"))⟩ := by decide +kernel
theorem d1_9 : decode prog_27_method_6_code 9 = .ok (.iload_n 3, 1) := by decide +kernel
theorem d1_10 : decode prog_27_method_6_code 10 = .ok (.iload_n 2, 1) := by decide +kernel
theorem d1_11 : decode prog_27_method_6_code 11 = .ok (.if_icmp .ge 26, 3) := by decide +kernel
theorem d1_14 : decode prog_27_method_6_code 14 = .ok (.aload_n 1, 1) := by decide +kernel
theorem d1_15 : decode prog_27_method_6_code 15 = .ok (.iload_n 3, 1) := by decide +kernel
theorem d1_16 : decode prog_27_method_6_code 16 = .ok (.aaload, 1) := by decide +kernel
theorem d1_17 : decode prog_27_method_6_code 17 = .ok (.astore 4, 2) := by decide +kernel
theorem d1_19 : decode prog_27_method_6_code 19 = .ok (.aload 4, 2) := by decide +kernel
theorem d1_21 : decode prog_27_method_6_code 21 = .ok (.getfield 74, 3) := by decide +kernel
theorem d1_24 : decode prog_27_method_6_code 24 = .ok (.iload_n 0, 1) := by decide +kernel
theorem d1_25 : decode prog_27_method_6_code 25 = .ok (.if_icmp .ne 6, 3) := by decide +kernel
theorem d1_28 : decode prog_27_method_6_code 28 = .ok (.aload 4, 2) := by decide +kernel
theorem d1_30 : decode prog_27_method_6_code 30 = .ok (.areturn, 1) := by decide +kernel
theorem pn_1 : plainName "com/example/mirrorlog/mirrorlog/core/message/Message$Kind" = true := by first | (simp [plainName, overriddenIn]; done) | decide +kernel
theorem ef_1 (m : MethodId) (x0 : Int32) : entryFrame m #[(.int x0)] 5 = mkF m 0 #[.val (.int x0), .unset, .unset, .unset, .unset] [] := by first | rfl | (simp [entryFrame, mkF, argsToLocals, Value.category]; done)
theorem d1_31 : decode prog_27_method_6_code 31 = .ok (.iinc 3 1, 3) := by decide +kernel
theorem d1_34 : decode prog_27_method_6_code 34 = .ok (.goto (-25), 3) := by decide +kernel
theorem os1_17 {z0 : Value} {z1 : Value} {z2 : Value} {z3 : Value} {s4 : Slot} {v : Addr} (h : One s4) : storeLocals #[.val z0, .val z1, .val z2, .val z3, s4] 4 (.ref v) = some #[.val z0, .val z1, .val z2, .val z3, .val (.ref v)] := by
  rcases h with rfl | ⟨w, rfl, hw⟩
  · rfl
  · cases w <;> first | rfl | (simp [Value.category] at hw)
set_option maxRecDepth 65536 in
set_option maxHeartbeats 40000000 in
theorem tn1_9_9 {p : Program} {l : Launch} {e : Env} {R : Room} {s : State} {m : MethodId} {args : Array Value} {below : List Frame} {meth : Method} {c : Code} {T0 : State} {locs : List Loc} {cells slots : Nat} {Z : State} {a0 : Array Value} {h0 : Heap} (p1 : Int32) (b : Addr) (i : Int32) (s4 : Slot) (w2 : Addr) (cl_b : Cell) (w3 : Int32)
    (X0 : Stand p l e R s m args below meth c T0 locs cells slots) (hx : p.tables.exec = Jvm.exec) (hZ : Z.Warmed39 s.vm) (hw : ∀ d ∈ tables_1, d.before a0 Z = true) (hby : c.code = prog_27_method_6_code) (hml : c.maxLocals = 5) (hown : s.vm.findClass "com/example/mirrorlog/mirrorlog/core/message/Message$Kind" = some m.cls) (e0 : T0.heap = h0) (Ar_b : Arr Z h0 b cl_b (.object "com/example/mirrorlog/mirrorlog/core/message/Message$Kind")) (hin16 : ¬ (i < 0 ∨ cl_b.slots.size ≤ (i).toNatClampNeg)) (hat16 : cl_b.slots[(i).toNatClampNeg]? = some (.ref w2)) (hs4 : One s4) (F_tag_w2 : Fld Z h0 w2 "com/example/mirrorlog/mirrorlog/core/message/Message$Kind" "tag" "B" (.int w3)) (hc11 : i < (17 : Int32)) (hc25 : ¬ (w3 = p1)) :
    ∃ (T' : State), Stand p l e R s m args below meth c T' locs cells slots ∧ T'.heap = h0 ∧
      ∀ target, Steps p.tables e below (T'.setTop (mkF m 9 #[.val (.int p1), .val (.ref b), .val (.int (17 : Int32)), .val (.int (i + (1 : Int32))), .val (.ref w2)] [])) target → Steps p.tables e below (T0.setTop (mkF m 9 #[.val (.int p1), .val (.ref b), .val (.int (17 : Int32)), .val (.int i), s4] [])) target := by
  obtain ⟨T4, X4, e4, st4⟩ := getF X0 hx hZ hown (host := "") (Or.inl (hw _ (List.mem_of_getElem? (i := 37) rfl))) Via.refl e0 F_tag_w2 (g := (mkF m 21 #[.val (.int p1), .val (.ref b), .val (.int (17 : Int32)), .val (.int i), .val (.ref w2)] [(.ref w2)])) rfl rfl (hb hby d1_21)
  refine ⟨T4, X4, e4, fun target kt => ?_⟩
  show Steps p.tables e below (T0.setTop (mkF m 9 #[.val (.int p1), .val (.ref b), .val (.int (17 : Int32)), .val (.int i), s4] [])) _
  refine XS.iloadN X0.here hx rfl (hb hby d1_9) rfl ?_
  show Steps p.tables e below (T0.setTop (mkF m 10 #[.val (.int p1), .val (.ref b), .val (.int (17 : Int32)), .val (.int i), s4] [(.int i)])) _
  refine XS.iloadN X0.here hx rfl (hb hby d1_10) rfl ?_
  show Steps p.tables e below (T0.setTop (mkF m 11 #[.val (.int p1), .val (.ref b), .val (.int (17 : Int32)), .val (.int i), s4] [(.int (17 : Int32)), (.int i)])) _
  refine XS.icmpNo X0.here hx rfl (hb hby d1_11) rfl (tlt hc11).2.1 ?_
  show Steps p.tables e below (T0.setTop (mkF m 14 #[.val (.int p1), .val (.ref b), .val (.int (17 : Int32)), .val (.int i), s4] [])) _
  refine XS.aloadN X0.here hx rfl (hb hby d1_14) rfl rfl ?_
  show Steps p.tables e below (T0.setTop (mkF m 15 #[.val (.int p1), .val (.ref b), .val (.int (17 : Int32)), .val (.int i), s4] [(.ref b)])) _
  refine XS.iloadN X0.here hx rfl (hb hby d1_15) rfl ?_
  show Steps p.tables e below (T0.setTop (mkF m 16 #[.val (.int p1), .val (.ref b), .val (.int (17 : Int32)), .val (.int i), s4] [(.int i), (.ref b)])) _
  refine X0.aaload hx (j := i) (v := (.ref w2)) (by rw [e0]; exact Ar_b.1) (State.isArrayOf_alike hZ.alike Ar_b.2.1) rfl Ar_b.2.2 hin16 hat16 (g := (mkF m 16 #[.val (.int p1), .val (.ref b), .val (.int (17 : Int32)), .val (.int i), s4] [(.int i), (.ref b)])) rfl rfl (hb hby d1_16) _ ?_
  show Steps p.tables e below (T0.setTop (mkF m 17 #[.val (.int p1), .val (.ref b), .val (.int (17 : Int32)), .val (.int i), s4] [(.ref w2)])) _
  refine XS.astore X0.here hx rfl (hb hby d1_17) rfl rfl (l' := #[.val (.int p1), .val (.ref b), .val (.int (17 : Int32)), .val (.int i), .val (.ref w2)]) (os1_17 hs4) ?_
  show Steps p.tables e below (T0.setTop (mkF m 19 #[.val (.int p1), .val (.ref b), .val (.int (17 : Int32)), .val (.int i), .val (.ref w2)] [])) _
  refine XS.aload X0.here hx rfl (hb hby d1_19) rfl rfl ?_
  show Steps p.tables e below (T0.setTop (mkF m 21 #[.val (.int p1), .val (.ref b), .val (.int (17 : Int32)), .val (.int i), .val (.ref w2)] [(.ref w2)])) _
  refine st4 _ ?_
  show Steps p.tables e below (T4.setTop (mkF m 24 #[.val (.int p1), .val (.ref b), .val (.int (17 : Int32)), .val (.int i), .val (.ref w2)] [(.int w3)])) _
  refine XS.iloadN X4.here hx rfl (hb hby d1_24) rfl ?_
  show Steps p.tables e below (T4.setTop (mkF m 25 #[.val (.int p1), .val (.ref b), .val (.int (17 : Int32)), .val (.int i), .val (.ref w2)] [(.int p1), (.int w3)])) _
  refine XS.icmpYes X4.here hx rfl (pc0 := 25) (pc' := 31) rfl (hb hby d1_25) rfl (feq hc25).2 (by decide) (by decide) ?_
  show Steps p.tables e below (T4.setTop (mkF m 31 #[.val (.int p1), .val (.ref b), .val (.int (17 : Int32)), .val (.int i), .val (.ref w2)] [])) _
  refine XS.iinc X4.here hx rfl (hb hby d1_31) rfl (l' := #[.val (.int p1), .val (.ref b), .val (.int (17 : Int32)), .val (.int (i + (1 : Int32))), .val (.ref w2)]) rfl ?_
  show Steps p.tables e below (T4.setTop (mkF m 34 #[.val (.int p1), .val (.ref b), .val (.int (17 : Int32)), .val (.int (i + (1 : Int32))), .val (.ref w2)] [])) _
  refine XS.goto X4.here hx rfl (pc0 := 34) (pc' := 9) rfl (hb hby d1_34) (by decide) (by decide) ?_
  exact kt
theorem own_turns {p : Program} {l : Launch} {e : Env} {R : Room} {s : State} {m : MethodId} {args : Array Value} {below : List Frame} {meth : Method} {c : Code} {locs : List Loc} {cells slots : Nat} {Z : State} {a0 : Array Value} {h0 : Heap} (hx : p.tables.exec = Jvm.exec) (hZ : Z.Warmed39 s.vm) (hw : ∀ d ∈ tables_1, d.before a0 Z = true) (hby : c.code = prog_27_method_6_code) (hml : c.maxLocals = 5) (hown : s.vm.findClass "com/example/mirrorlog/mirrorlog/core/message/Message$Kind" = some m.cls) (p1 : Int32) (b : Addr) (cV : Cell) (z_V : cV.slots.size = 17) (es : Nat → Addr) (he : ∀ i, i < 17 → cV.slots[i]? = some (.ref (es i))) (Ar_b : Arr Z h0 b (cloneOf cV) (.object "com/example/mirrorlog/mirrorlog/core/message/Message$Kind")) (ht : ∀ i, i < 17 → Fld Z h0 (es i) "com/example/mirrorlog/mirrorlog/core/message/Message$Kind" "tag" "B" (.int (Int32.ofNat (i + 1)))) (j : Nat) (hj : j < 17) (hp : p1 = Int32.ofNat (j + 1)) :
    ∀ (k i : Nat) (T0 : State) (s4 : Slot), i + k = j → One s4 → Stand p l e R s m args below meth c T0 locs cells slots → T0.heap = h0 →
    ∃ (T' : State) (s4' : Slot), One s4' ∧ Stand p l e R s m args below meth c T' locs cells slots ∧ T'.heap = h0 ∧
      ∀ target, Steps p.tables e below (T'.setTop (mkF m 9 #[.val (.int p1), .val (.ref b), .val (.int (17 : Int32)), .val (.int (Int32.ofNat j)), s4'] [])) target → Steps p.tables e below (T0.setTop (mkF m 9 #[.val (.int p1), .val (.ref b), .val (.int (17 : Int32)), .val (.int (Int32.ofNat i)), s4] [])) target := by
  intro k
  induction k with
  | zero =>
    intro i T0 s4 hi ho X0 e0
    have : i = j := by omega
    subst this
    exact ⟨T0, s4, ho, X0, e0, fun _ h => h⟩
  | succ k ih =>
    intro i T0 s4 hi ho X0 e0
    have hi17 : i < 17 := by omega
    have q1 := own_idx i hi17
    obtain ⟨T', X', e', st⟩ := tn1_9_9 p1 b (Int32.ofNat i) s4 (es i) (cloneOf cV) (Int32.ofNat (i + 1)) X0 hx hZ hw hby hml hown e0 Ar_b (by rw [q1.1]; show ¬ (_ ∨ cV.slots.size ≤ i); rw [z_V]; exact fun q => q.elim q1.2.1 (by omega)) (by rw [q1.1]; exact he i hi17) ho (ht i hi17) q1.2.2.1 (by rw [hp]; exact own_inj (by omega) hi17 hj)
    obtain ⟨T2, s4', ho', X2, e2, st2⟩ := ih (i + 1) T' (.val (.ref (es i))) (by omega) (One.val rfl) X' e'
    refine ⟨T2, s4', ho', X2, e2, fun target kt => st target ?_⟩
    have := st2 target kt
    rw [← q1.2.2.2]
    exact this
def QO (a : Addr) (h0 : Heap) (n0 : Nat) (v : Option Value) (h : Heap) (L : List Loc) : Prop := v = some (.ref a) ∧ Fr n0 L ∧ Keep h0 h []
set_option maxRecDepth 65536 in
set_option maxHeartbeats 40000000 in
theorem rm1 (l : Launch) (Z : State) (a0 : Array Value) (hw : ∀ d ∈ tables_1, d.before a0 Z = true) (ws : List Jvm.Cond) (p1 : Int32) (h0 : Heap) (n0 : Nat) (Z0 : n0 ≤ h0.size) (aV : Addr) (cV : Cell) (S_V : Sta Z h0 "com/example/mirrorlog/mirrorlog/core/message/Message$Kind" "$VALUES" "[Lcom/example/mirrorlog/mirrorlog/core/message/Message$Kind;" (.ref aV)) (E_V : Exa Z h0 aV "[Lcom/example/mirrorlog/mirrorlog/core/message/Message$Kind;") (A_V : Arr Z h0 aV cV (.object "com/example/mirrorlog/mirrorlog/core/message/Message$Kind")) (F_V : FitC Z cV) (z_V : cV.slots.size = 17) (es : Nat → Addr) (he : ∀ i, i < 17 → cV.slots[i]? = some (.ref (es i))) (ht : ∀ i, i < 17 → Fld Z h0 (es i) "com/example/mirrorlog/mirrorlog/core/message/Message$Kind" "tag" "B" (.int (Int32.ofNat (i + 1)))) (j : Nat) (hj : j < 17) (hp : p1 = Int32.ofNat (j + 1)) :
    MetFree l (⟨"com/example/mirrorlog/mirrorlog/core/message/Message$Kind", "ofTag", "(B)Lcom/example/mirrorlog/mirrorlog/core/message/Message$Kind;"⟩ : MethodName) (head1 (Jvm.Cond.code (⟨"com/example/mirrorlog/mirrorlog/core/message/Message$Kind", "ofTag", "(B)Lcom/example/mirrorlog/mirrorlog/core/message/Message$Kind;"⟩ : MethodName) prog_27_method_6_code 5 (some (.object "com/example/mirrorlog/mirrorlog/core/message/Message$Kind")) :: ws) ({ frames := 2, cells := 1, slots := 17, locals := 25 } : Room)) (fun a U => a = #[(.int p1)] ∧ Z.Warmed39 U.vm ∧ U.heap = h0) (fun _ _ _ _ _ => True) (fun _ U o U' => ∃ v L, o = .returned v ∧ QO (es j) h0 n0 v U'.heap L ∧ FrameEnd U o U' L ({ frames := 2, cells := 1, slots := 17, locals := 25 } : Room).cells ({ frames := 2, cells := 1, slots := 17, locals := 25 } : Room).slots) := by
  refine MetFree.of_bodySF (plainFor_of_name pn_1) hisR ?_
  intro p e s m args below meth c s₁ Bd hml0 hP hK
  obtain ⟨rfl, hZ, hh⟩ := hP
  have hx := Bd.exec
  have hby := Bd.bytes
  have hml : c.maxLocals = 5 := hml0
  have hown : s.vm.findClass "com/example/mirrorlog/mirrorlog/core/message/Message$Kind" = some m.cls := findClass_of_methodNamed Bd.named
  have hnm := (name_of_methodNamed Bd.named Bd.method).1
  have X0 : Stand p l e ({ frames := 2, cells := 1, slots := 17, locals := 25 } : Room) s m #[(.int p1)] below meth c s₁ [] 0 0 := Stand.of_body Bd
  have e0 : s₁.heap = h0 := by rw [← hh, Bd.state]; rfl
  have N0 := Fr.nil n0
  obtain ⟨_, _, ⟨T2, L2, k2, n2⟩, -, X2, ⟨Lc2, hQ2, l2, y2, z2⟩, st2⟩ := Jvm.LawKit.callS X0 hx (y := (⟨"com/example/mirrorlog/mirrorlog/core/message/Message$Kind", "values", "()[Lcom/example/mirrorlog/mirrorlog/core/message/Message$Kind;"⟩ : MethodName)) hown (mvT hZ (hw _ (List.mem_of_getElem? (i := 5) rfl))) (mvT hZ (hw _ (List.mem_of_getElem? (i := 6) rfl))) (mvT hZ (hw _ (List.mem_of_getElem? (i := 3) rfl))) (mvT hZ (hw _ (List.mem_of_getElem? (i := 7) rfl))) (by decide) (backOf (W := 0) (rm2 l Z a0 hw [] aV h0 n0 Z0 S_V E_V cV A_V F_V z_V) hZ (hw _ (List.mem_of_getElem? (i := 7) rfl)) (hw _ (List.mem_of_getElem? (i := 3) rfl)) (by decide) (by decide)) (g := (mkF m 0 #[.val (.int p1), .unset, .unset, .unset, .unset] [])) rfl (by rw [hml]; rfl) (argsL := []) (rest := []) (lenOf pd_1_1 rfl) rfl (by show 2 * 0 + _ ≤ _; exact Nat.le_of_eq rfl) (hb hby d1_0) (fun _ _ => ⟨rfl, e0, (by decide : 0 + 1 ≤ _), (by decide : 0 + 17 ≤ _)⟩)
  dsimp only [Pt.U, Pt.locs, Pt.cells, Pt.slots] at X2 l2 y2 z2 st2 hQ2
  subst l2 y2 z2
  obtain ⟨⟨b, rfl, Ar_b⟩, N2q, K2⟩ := hQ2
  have N2 := Fr.app N0 N2q
  have ht' : ∀ i, i < 17 → Fld Z T2.heap (es i) "com/example/mirrorlog/mirrorlog/core/message/Message$Kind" "tag" "B" (.int (Int32.ofNat (i + 1))) := fun i hi => (ht i hi).keep K2 (fun q => nomatch q)
  have qj := own_idx j hj
  obtain ⟨TA, s4, ho4, XA, eA, stA⟩ := own_turns hx hZ hw hby hml hown p1 b cV z_V es he Ar_b ht' j hj hp j 0 T2 .unset (Nat.zero_add j) One.u X2 rfl
  have ht2 := ht' j hj
  have hin16 : ¬ ((Int32.ofNat j) < 0 ∨ (cloneOf cV).slots.size ≤ (Int32.ofNat j).toNatClampNeg) := by rw [qj.1]; show ¬ (_ ∨ cV.slots.size ≤ j); rw [z_V]; exact fun q => q.elim qj.2.1 (by omega)
  have hat16 : (cloneOf cV).slots[(Int32.ofNat j).toNatClampNeg]? = some (.ref (es j)) := by rw [qj.1]; exact he j hj
  have pre0 : ∀ t, Steps p.tables e below (TA.setTop (mkF m 9 #[.val (.int p1), .val (.ref b), .val (.int (17 : Int32)), .val (.int (Int32.ofNat j)), s4] [])) t → Steps p.tables e below (s₁.setTop (entryFrame m #[(.int p1)] 5)) t := fun t kt0 => castTop (ef_1 m p1) (by
    have kt := stA t kt0
    show Steps p.tables e below (s₁.setTop (mkF m 0 #[.val (.int p1), .unset, .unset, .unset, .unset] [])) _
    refine st2 _ ?_
    show Steps p.tables e below (T2.setTop (mkF m 3 #[.val (.int p1), .unset, .unset, .unset, .unset] [(.ref b)])) _
    refine XS.astoreN X2.here hx rfl (hb hby d1_3) rfl rfl (l' := #[.val (.int p1), .val (.ref b), .unset, .unset, .unset]) rfl ?_
    show Steps p.tables e below (T2.setTop (mkF m 4 #[.val (.int p1), .val (.ref b), .unset, .unset, .unset] [])) _
    refine XS.aloadN X2.here hx rfl (hb hby d1_4) rfl rfl ?_
    show Steps p.tables e below (T2.setTop (mkF m 5 #[.val (.int p1), .val (.ref b), .unset, .unset, .unset] [(.ref b)])) _
    refine X2.arraylength hx Ar_b.1 (State.isArrayOf_alike hZ.alike Ar_b.2.1) (g := (mkF m 5 #[.val (.int p1), .val (.ref b), .unset, .unset, .unset] [(.ref b)])) rfl rfl (hb hby d1_5) _ ?_
    rw [len_of (z := (17 : Int32)) (c := cloneOf cV) (by show cV.slots.size = _; rw [z_V]; rfl) (by decide)]
    show Steps p.tables e below (T2.setTop (mkF m 6 #[.val (.int p1), .val (.ref b), .unset, .unset, .unset] [(.int (17 : Int32))])) _
    refine XS.istoreN X2.here hx rfl (hb hby d1_6) rfl (l' := #[.val (.int p1), .val (.ref b), .val (.int (17 : Int32)), .unset, .unset]) rfl ?_
    show Steps p.tables e below (T2.setTop (mkF m 7 #[.val (.int p1), .val (.ref b), .val (.int (17 : Int32)), .unset, .unset] [])) _
    refine XS.iconst X2.here hx rfl (hb hby d1_7) ?_
    show Steps p.tables e below (T2.setTop (mkF m 8 #[.val (.int p1), .val (.ref b), .val (.int (17 : Int32)), .unset, .unset] [(.int (0 : Int32))])) _
    refine XS.istoreN X2.here hx rfl (hb hby d1_8) rfl (l' := #[.val (.int p1), .val (.ref b), .val (.int (17 : Int32)), .val (.int (0 : Int32)), .unset]) rfl ?_
    exact kt)
  obtain ⟨T4, X4, e4, st4⟩ := getF XA hx hZ hown (host := "") (Or.inl (hw _ (List.mem_of_getElem? (i := 37) rfl))) Via.refl eA ht2 (g := (mkF m 21 #[.val (.int p1), .val (.ref b), .val (.int (17 : Int32)), .val (.int (Int32.ofNat j)), .val (.ref (es j))] [(.ref (es j))])) rfl rfl (hb hby d1_21)
  obtain ⟨fs, hr, hrun, hended, hW, hsame⟩ := X4.leave (v := some (.ref (es j))) (fun h => by rw [Bd.returns] at h; cases h)
  refine ⟨_, _, pre0 _ ?_, hrun, hended, _, _, rfl, ?_, ⟨_, rfl⟩, hW, hsame.mono (by decide) (by decide)⟩
  · show Steps p.tables e below (TA.setTop (mkF m 9 #[.val (.int p1), .val (.ref b), .val (.int (17 : Int32)), .val (.int (Int32.ofNat j)), s4] [])) _
    refine XS.iloadN XA.here hx rfl (hb hby d1_9) rfl ?_
    show Steps p.tables e below (TA.setTop (mkF m 10 #[.val (.int p1), .val (.ref b), .val (.int (17 : Int32)), .val (.int (Int32.ofNat j)), s4] [(.int (Int32.ofNat j))])) _
    refine XS.iloadN XA.here hx rfl (hb hby d1_10) rfl ?_
    show Steps p.tables e below (TA.setTop (mkF m 11 #[.val (.int p1), .val (.ref b), .val (.int (17 : Int32)), .val (.int (Int32.ofNat j)), s4] [(.int (17 : Int32)), (.int (Int32.ofNat j))])) _
    refine XS.icmpNo XA.here hx rfl (hb hby d1_11) rfl (tlt qj.2.2.1).2.1 ?_
    show Steps p.tables e below (TA.setTop (mkF m 14 #[.val (.int p1), .val (.ref b), .val (.int (17 : Int32)), .val (.int (Int32.ofNat j)), s4] [])) _
    refine XS.aloadN XA.here hx rfl (hb hby d1_14) rfl rfl ?_
    show Steps p.tables e below (TA.setTop (mkF m 15 #[.val (.int p1), .val (.ref b), .val (.int (17 : Int32)), .val (.int (Int32.ofNat j)), s4] [(.ref b)])) _
    refine XS.iloadN XA.here hx rfl (hb hby d1_15) rfl ?_
    show Steps p.tables e below (TA.setTop (mkF m 16 #[.val (.int p1), .val (.ref b), .val (.int (17 : Int32)), .val (.int (Int32.ofNat j)), s4] [(.int (Int32.ofNat j)), (.ref b)])) _
    refine XA.aaload hx (j := (Int32.ofNat j)) (v := (.ref (es j))) (by rw [eA]; exact Ar_b.1) (State.isArrayOf_alike hZ.alike Ar_b.2.1) rfl Ar_b.2.2 hin16 hat16 (g := (mkF m 16 #[.val (.int p1), .val (.ref b), .val (.int (17 : Int32)), .val (.int (Int32.ofNat j)), s4] [(.int (Int32.ofNat j)), (.ref b)])) rfl rfl (hb hby d1_16) _ ?_
    show Steps p.tables e below (TA.setTop (mkF m 17 #[.val (.int p1), .val (.ref b), .val (.int (17 : Int32)), .val (.int (Int32.ofNat j)), s4] [(.ref (es j))])) _
    refine XS.astore XA.here hx rfl (hb hby d1_17) rfl rfl (l' := #[.val (.int p1), .val (.ref b), .val (.int (17 : Int32)), .val (.int (Int32.ofNat j)), .val (.ref (es j))]) (os1_17 ho4) ?_
    show Steps p.tables e below (TA.setTop (mkF m 19 #[.val (.int p1), .val (.ref b), .val (.int (17 : Int32)), .val (.int (Int32.ofNat j)), .val (.ref (es j))] [])) _
    refine XS.aload XA.here hx rfl (hb hby d1_19) rfl rfl ?_
    show Steps p.tables e below (TA.setTop (mkF m 21 #[.val (.int p1), .val (.ref b), .val (.int (17 : Int32)), .val (.int (Int32.ofNat j)), .val (.ref (es j))] [(.ref (es j))])) _
    refine st4 _ ?_
    show Steps p.tables e below (T4.setTop (mkF m 24 #[.val (.int p1), .val (.ref b), .val (.int (17 : Int32)), .val (.int (Int32.ofNat j)), .val (.ref (es j))] [(.int (Int32.ofNat (j + 1)))])) _
    refine XS.iloadN X4.here hx rfl (hb hby d1_24) rfl ?_
    show Steps p.tables e below (T4.setTop (mkF m 25 #[.val (.int p1), .val (.ref b), .val (.int (17 : Int32)), .val (.int (Int32.ofNat j)), .val (.ref (es j))] [(.int p1), (.int (Int32.ofNat (j + 1)))])) _
    refine XS.icmpNo X4.here hx rfl (hb hby d1_25) rfl (teq hp.symm).2 ?_
    show Steps p.tables e below (T4.setTop (mkF m 28 #[.val (.int p1), .val (.ref b), .val (.int (17 : Int32)), .val (.int (Int32.ofNat j)), .val (.ref (es j))] [])) _
    refine XS.aload X4.here hx rfl (hb hby d1_28) rfl rfl ?_
    show Steps p.tables e below (T4.setTop (mkF m 30 #[.val (.int p1), .val (.ref b), .val (.int (17 : Int32)), .val (.int (Int32.ofNat j)), .val (.ref (es j))] [(.ref (es j))])) _
    jvm_step X4.here [X4.here.top, hx, (hb hby d1_30), X4.method', Bd.returns, Value.isRef, FieldType.isReference]
    first | (intro acts; rw [hr _ acts rfl rfl rfl]) | rw [hr _ _ rfl rfl rfl]
    exact Steps.refl _
  · show QO (es j) h0 n0 _ T4.heap _
    rw [e4]
    exact ⟨rfl, N2, K2⟩
theorem pn_0 : plainName "com/example/mirrorlog/mirrorlog/core/message/KindOfTagPinLaw" = true := by first | (simp [plainName, overriddenIn]; done) | decide +kernel
theorem pd_0_0 : parseMethodDescriptor "(B)Lcom/example/mirrorlog/mirrorlog/core/message/Message$Kind;" = some ⟨[.byte], some (.object "com/example/mirrorlog/mirrorlog/core/message/Message$Kind")⟩ := by decide +kernel
theorem pd_0_3 : parseMethodDescriptor "()B" = some ⟨[], some .byte⟩ := by decide +kernel
theorem ef_0 (m : MethodId) (x0 : Int32) : entryFrame m #[(.int x0)] maxLocals = mkF m 0 #[.val (.int x0), .unset, .unset] [] := by first | (simp [entryFrame, mkF, argsToLocals, Value.category, maxLocals]; done) | rfl
def Q0 (Z : State) (p1 : Int32) (h0 : Heap) (n0 : Nat) (v : Option Value) (h : Heap) (L : List Loc) : Prop := v = some (.int (1 : Int32)) ∧ Fr n0 L
set_option maxRecDepth 65536 in
set_option maxHeartbeats 40000000 in
theorem rm0 (l : Launch) (Z : State) (a0 : Array Value) (hw : ∀ d ∈ tables_1, d.before a0 Z = true) (ws : List Jvm.Cond) (p1 : Int32) (h0 : Heap) (n0 : Nat) (Z0 : n0 ≤ h0.size) (aV : Addr) (cV : Cell) (S_V : Sta Z h0 "com/example/mirrorlog/mirrorlog/core/message/Message$Kind" "$VALUES" "[Lcom/example/mirrorlog/mirrorlog/core/message/Message$Kind;" (.ref aV)) (E_V : Exa Z h0 aV "[Lcom/example/mirrorlog/mirrorlog/core/message/Message$Kind;") (A_V : Arr Z h0 aV cV (.object "com/example/mirrorlog/mirrorlog/core/message/Message$Kind")) (F_V : FitC Z cV) (z_V : cV.slots.size = 17) (es : Nat → Addr) (he : ∀ i, i < 17 → cV.slots[i]? = some (.ref (es i))) (ht : ∀ i, i < 17 → Fld Z h0 (es i) "com/example/mirrorlog/mirrorlog/core/message/Message$Kind" "tag" "B" (.int (Int32.ofNat (i + 1)))) (hE : ∀ i, i < 17 → Exa Z h0 (es i) "com/example/mirrorlog/mirrorlog/core/message/Message$Kind") (j : Nat) (hj : j < 17) (hp : (((p1 &&& (2147483647 : Int32)) % (17 : Int32)) + (1 : Int32)) = Int32.ofNat (j + 1)) :
    MetFree l x (head1 (Jvm.Cond.code x code maxLocals ret :: ws) room_1) (fun a U => a = #[(.int p1)] ∧ Z.Warmed39 U.vm ∧ U.heap = h0) (fun _ _ _ _ _ => True) (fun _ U o U' => ∃ v L, o = .returned v ∧ Q0 Z p1 h0 n0 v U'.heap L ∧ FrameEnd U o U' L room_1.cells room_1.slots) := by
  refine MetFree.of_bodySF (plainFor_of_name pn_0) hisR ?_
  intro p e s m args below meth c s₁ Bd hml0 hP hK
  obtain ⟨rfl, hZ, hh⟩ := hP
  have hx := Bd.exec
  have hby := Bd.bytes
  have hml : c.maxLocals = 3 := hml0
  have hown : s.vm.findClass "com/example/mirrorlog/mirrorlog/core/message/KindOfTagPinLaw" = some m.cls := findClass_of_methodNamed Bd.named
  have hnm := (name_of_methodNamed Bd.named Bd.method).1
  have X0 : Stand p l e room_1 s m #[(.int p1)] below meth c s₁ [] 0 0 := Stand.of_body Bd
  have e0 : s₁.heap = h0 := by rw [← hh, Bd.state]; rfl
  have N0 := Fr.nil n0
  have pre0 : ∀ t, Steps p.tables e below (s₁.setTop (mkF m 0 #[.val (.int p1), .unset, .unset] [])) t → Steps p.tables e below (s₁.setTop (entryFrame m #[(.int p1)] maxLocals)) t := fun t k => castTop (ef_0 m p1) k
  obtain ⟨_, _, ⟨T2, L2, k2, n2⟩, -, X2, ⟨Lc2, hQ2, l2, y2, z2⟩, st2⟩ := Jvm.LawKit.callS X0 hx (y := (⟨"com/example/mirrorlog/mirrorlog/core/message/Message$Kind", "ofTag", "(B)Lcom/example/mirrorlog/mirrorlog/core/message/Message$Kind;"⟩ : MethodName)) hown (mvT hZ (hw _ (List.mem_of_getElem? (i := 1) rfl))) (mvT hZ (hw _ (List.mem_of_getElem? (i := 2) rfl))) (mvT hZ (hw _ (List.mem_of_getElem? (i := 3) rfl))) (mvT hZ (hw _ (List.mem_of_getElem? (i := 4) rfl))) (by decide) (backOf (W := 0) (rm1 l Z a0 hw [] ((((p1 &&& (2147483647 : Int32)) % (17 : Int32)) + (1 : Int32)).toInt8.toInt32) h0 n0 Z0 aV cV S_V E_V A_V F_V z_V es he ht j hj (by rw [hp]; exact own_byte j hj)) hZ (hw _ (List.mem_of_getElem? (i := 4) rfl)) (hw _ (List.mem_of_getElem? (i := 3) rfl)) (by decide) (by decide)) (g := (mkF m 12 #[.val (.int p1), .val (.int (((p1 &&& (2147483647 : Int32)) % (17 : Int32)) + (1 : Int32))), .unset] [(.int ((((p1 &&& (2147483647 : Int32)) % (17 : Int32)) + (1 : Int32)).toInt8.toInt32))])) rfl (by rw [hml]; rfl) (argsL := [(.int ((((p1 &&& (2147483647 : Int32)) % (17 : Int32)) + (1 : Int32)).toInt8.toInt32))]) (rest := []) (lenOf pd_0_0 rfl) rfl (by show 2 * 0 + _ ≤ _; exact Nat.le_of_eq rfl) (hb hby at_12) (fun _ _ => ⟨rfl, e0, (by decide : 0 + 1 ≤ _), (by decide : 0 + 17 ≤ _)⟩)
  dsimp only [Pt.U, Pt.locs, Pt.cells, Pt.slots] at X2 l2 y2 z2 st2 hQ2
  subst l2 y2 z2
  obtain ⟨rfl, N2q, K2⟩ := hQ2
  have N2 := Fr.app N0 N2q
  obtain ⟨cq3, kq3, q3a, q3b, q3c⟩ := isOf hZ rfl ((hE j hj).keep K2)
  obtain ⟨_, _, ⟨T3, L3, k3, n3⟩, -, X3, ⟨Lc3, hQ3, l3, y3, z3⟩, st3⟩ := X2.virtualBack hx (y := (⟨"com/example/mirrorlog/mirrorlog/core/message/Message$Kind", "tag", "()B"⟩ : MethodName)) (z := (⟨"com/example/mirrorlog/mirrorlog/core/message/Message$Kind", "tag", "()B"⟩ : MethodName)) hown (mvT hZ (hw _ (List.mem_of_getElem? (i := 39) rfl))) (mvT hZ (hw _ (List.mem_of_getElem? (i := 40) rfl))) (notFace_of_selects (args := #[]) (mvT hZ (hw _ (List.mem_of_getElem? (i := 42) rfl)))) (mvT hZ (hw _ (List.mem_of_getElem? (i := 42) rfl))) (mvT hZ (hw _ (List.mem_of_getElem? (i := 41) rfl))) (by decide) (backOf (W := 0) (rm3 l Z a0 hw [] (es j) (Int32.ofNat (j + 1)) T2.heap n0 (Nat.le_trans Z0 K2.1) ((ht j hj).keep K2 (fun q => nomatch q))) hZ (hw _ (List.mem_of_getElem? (i := 43) rfl)) (hw _ (List.mem_of_getElem? (i := 3) rfl)) (by decide) (by decide)) q3a q3c (g := (mkF m 21 #[.val (.int p1), .val (.int (((p1 &&& (2147483647 : Int32)) % (17 : Int32)) + (1 : Int32))), .val (.ref (es j))] [(.ref (es j))])) rfl (by rw [hml]; rfl) (Steps.refl _) (argsL := []) (rest := []) (lenOf pd_0_3 rfl) rfl (by show 2 * 0 + _ ≤ _; exact Nat.le_of_eq rfl) (hb hby at_21) (fun _ _ => ⟨rfl, rfl, (by decide : 1 + 0 ≤ _), (by decide : 17 + 0 ≤ _)⟩)
  dsimp only [Pt.U, Pt.locs, Pt.cells, Pt.slots] at X3 l3 y3 z3 st3 hQ3
  subst l3 y3 z3
  obtain ⟨rfl, N3q, e3q⟩ := hQ3
  have N3 := Fr.app N2 N3q
  obtain ⟨fs, hr, hrun, hended, hW, hsame⟩ := X3.leave (v := some (.int (1 : Int32))) (fun h => by rw [Bd.returns] at h; cases h)
  refine ⟨_, _, pre0 _ ?_, hrun, hended, _, _, rfl, ?_, ⟨_, rfl⟩, hW, hsame.mono (by decide) (by decide)⟩
  · show Steps p.tables e below (s₁.setTop (mkF m 0 #[.val (.int p1), .unset, .unset] [])) _
    refine XS.iloadN X0.here hx rfl (hb hby at_0) rfl ?_
    show Steps p.tables e below (s₁.setTop (mkF m 1 #[.val (.int p1), .unset, .unset] [(.int p1)])) _
    refine X0.ldcInt hx hown (mvT hZ (hw _ (List.mem_of_getElem? (i := 0) rfl))) (g := (mkF m 1 #[.val (.int p1), .unset, .unset] [(.int p1)])) rfl (hb hby at_1) _ ?_
    show Steps p.tables e below (s₁.setTop (mkF m 3 #[.val (.int p1), .unset, .unset] [(.int (2147483647 : Int32)), (.int p1)])) _
    refine XS.iand X0.here hx rfl (hb hby at_3) rfl ?_
    show Steps p.tables e below (s₁.setTop (mkF m 4 #[.val (.int p1), .unset, .unset] [(.int (p1 &&& (2147483647 : Int32)))])) _
    refine XS.bipush X0.here hx rfl (hb hby at_4) ?_
    show Steps p.tables e below (s₁.setTop (mkF m 6 #[.val (.int p1), .unset, .unset] [(.int (17 : Int32)), (.int (p1 &&& (2147483647 : Int32)))])) _
    refine iremM (g := (mkF m 6 #[.val (.int p1), .unset, .unset] [(.int (17 : Int32)), (.int (p1 &&& (2147483647 : Int32)))])) X0 hx rfl (hb hby at_6) rfl (by decide) ?_
    show Steps p.tables e below (s₁.setTop (mkF m 7 #[.val (.int p1), .unset, .unset] [(.int ((p1 &&& (2147483647 : Int32)) % (17 : Int32)))])) _
    refine XS.iconst X0.here hx rfl (hb hby at_7) ?_
    show Steps p.tables e below (s₁.setTop (mkF m 8 #[.val (.int p1), .unset, .unset] [(.int (1 : Int32)), (.int ((p1 &&& (2147483647 : Int32)) % (17 : Int32)))])) _
    refine XS.iadd X0.here hx rfl (hb hby at_8) rfl ?_
    show Steps p.tables e below (s₁.setTop (mkF m 9 #[.val (.int p1), .unset, .unset] [(.int (((p1 &&& (2147483647 : Int32)) % (17 : Int32)) + (1 : Int32)))])) _
    refine XS.istoreN X0.here hx rfl (hb hby at_9) rfl (l' := #[.val (.int p1), .val (.int (((p1 &&& (2147483647 : Int32)) % (17 : Int32)) + (1 : Int32))), .unset]) rfl ?_
    show Steps p.tables e below (s₁.setTop (mkF m 10 #[.val (.int p1), .val (.int (((p1 &&& (2147483647 : Int32)) % (17 : Int32)) + (1 : Int32))), .unset] [])) _
    refine XS.iloadN X0.here hx rfl (hb hby at_10) rfl ?_
    show Steps p.tables e below (s₁.setTop (mkF m 11 #[.val (.int p1), .val (.int (((p1 &&& (2147483647 : Int32)) % (17 : Int32)) + (1 : Int32))), .unset] [(.int (((p1 &&& (2147483647 : Int32)) % (17 : Int32)) + (1 : Int32)))])) _
    refine XS.i2b X0.here hx rfl (hb hby at_11) rfl ?_
    show Steps p.tables e below (s₁.setTop (mkF m 12 #[.val (.int p1), .val (.int (((p1 &&& (2147483647 : Int32)) % (17 : Int32)) + (1 : Int32))), .unset] [(.int ((((p1 &&& (2147483647 : Int32)) % (17 : Int32)) + (1 : Int32)).toInt8.toInt32))])) _
    refine st2 _ ?_
    show Steps p.tables e below (T2.setTop (mkF m 15 #[.val (.int p1), .val (.int (((p1 &&& (2147483647 : Int32)) % (17 : Int32)) + (1 : Int32))), .unset] [(.ref (es j))])) _
    refine XS.astoreN X2.here hx rfl (hb hby at_15) rfl rfl (l' := #[.val (.int p1), .val (.int (((p1 &&& (2147483647 : Int32)) % (17 : Int32)) + (1 : Int32))), .val (.ref (es j))]) rfl ?_
    show Steps p.tables e below (T2.setTop (mkF m 16 #[.val (.int p1), .val (.int (((p1 &&& (2147483647 : Int32)) % (17 : Int32)) + (1 : Int32))), .val (.ref (es j))] [])) _
    refine XS.aloadN X2.here hx rfl (hb hby at_16) rfl rfl ?_
    show Steps p.tables e below (T2.setTop (mkF m 17 #[.val (.int p1), .val (.int (((p1 &&& (2147483647 : Int32)) % (17 : Int32)) + (1 : Int32))), .val (.ref (es j))] [(.ref (es j))])) _
    refine XS.ifnullNo X2.here hx rfl (hb hby at_17) rfl ?_
    show Steps p.tables e below (T2.setTop (mkF m 20 #[.val (.int p1), .val (.int (((p1 &&& (2147483647 : Int32)) % (17 : Int32)) + (1 : Int32))), .val (.ref (es j))] [])) _
    refine XS.aloadN X2.here hx rfl (hb hby at_20) rfl rfl ?_
    show Steps p.tables e below (T2.setTop (mkF m 21 #[.val (.int p1), .val (.int (((p1 &&& (2147483647 : Int32)) % (17 : Int32)) + (1 : Int32))), .val (.ref (es j))] [(.ref (es j))])) _
    refine st3.trans ?_
    show Steps p.tables e below (T3.setTop (mkF m 24 #[.val (.int p1), .val (.int (((p1 &&& (2147483647 : Int32)) % (17 : Int32)) + (1 : Int32))), .val (.ref (es j))] [(.int (nar .byte (Int32.ofNat (j + 1))))])) _
    refine XS.iloadN X3.here hx rfl (hb hby at_24) rfl ?_
    show Steps p.tables e below (T3.setTop (mkF m 25 #[.val (.int p1), .val (.int (((p1 &&& (2147483647 : Int32)) % (17 : Int32)) + (1 : Int32))), .val (.ref (es j))] [(.int (((p1 &&& (2147483647 : Int32)) % (17 : Int32)) + (1 : Int32))), (.int (nar .byte (Int32.ofNat (j + 1))))])) _
    refine XS.icmpNo X3.here hx rfl (hb hby at_25) rfl (teq (((own_byte j hj).trans hp.symm) : (nar .byte (Int32.ofNat (j + 1))) = (((p1 &&& (2147483647 : Int32)) % (17 : Int32)) + (1 : Int32)))).2 ?_
    show Steps p.tables e below (T3.setTop (mkF m 28 #[.val (.int p1), .val (.int (((p1 &&& (2147483647 : Int32)) % (17 : Int32)) + (1 : Int32))), .val (.ref (es j))] [])) _
    refine XS.iconst X3.here hx rfl (hb hby at_28) ?_
    show Steps p.tables e below (T3.setTop (mkF m 29 #[.val (.int p1), .val (.int (((p1 &&& (2147483647 : Int32)) % (17 : Int32)) + (1 : Int32))), .val (.ref (es j))] [(.int (1 : Int32))])) _
    refine XS.goto X3.here hx rfl (pc0 := 29) (pc' := 33) rfl (hb hby at_29) (by decide) (by decide) ?_
    show Steps p.tables e below (T3.setTop (mkF m 33 #[.val (.int p1), .val (.int (((p1 &&& (2147483647 : Int32)) % (17 : Int32)) + (1 : Int32))), .val (.ref (es j))] [(.int (1 : Int32))])) _
    exact retN X3 hx (t := .boolean) Bd.returns (by simp) (hb hby at_33) hr
  · show Q0 Z p1 h0 n0 _ T3.heap _
    exact ⟨rfl, N3⟩
set_option maxRecDepth 65536 in
set_option maxHeartbeats 40000000 in
theorem comes_1 {Post : Tables → Env → Array Value → State → Outcome → State → Prop} (hpost : ∀ tb e args s v u, (limb_1_1.after args s (.returned v) u = true ∧ limb_1_2.after args s (.returned v) u = true ∧ True) → FrameEnd s (.returned v) u (Jvm.fieldLocs frame_1_writes args s ++ Jvm.arrayLocs frame_1_arrays args s ++ Jvm.staticLocs frame_1_statics s) 16 128 → Post tb e args s (.returned v) u) :
    ArmFor flags0 classFile x code maxLocals ret World_1 tables_1 room_1 Calls_1 rest_1 Pre_1 Post := by
  intro l hfl _ _ p e ha hc hk s m args below hf hA hF happ hP
  obtain ⟨hcalls, hrest, hpre⟩ := hP
  obtain ⟨-, -, -, hnamed, -, -, -, hat⟩ := (Spec.applies_iff hf).mp happ
  obtain ⟨hg, hn⟩ := and_e (Cond.before_iff.mp (show (Jvm.Cond.and given_1 narrow_1).before args s = true from hpre))
  obtain ⟨g4, g5⟩ := and_e hg
  obtain ⟨w0, rfl⟩ : ∃ w0 : Value, args = #[w0] := by
    have hs : args.size = 1 := by simpa [Cond.value, given_1] using g4
    obtain ⟨L⟩ := args
    match L, hs with
    | [w0], _ => exact ⟨w0, rfl⟩
  have hw := fun d (hd : d ∈ tables_1) => atoms_spec (ws := Jvm.Cond.code x code maxLocals ret :: tables_1) hat d (List.mem_cons_of_mem _ hd)
  have hfit : Fit s := fun {y c} hc i hi => by
    obtain ⟨ha, rfl⟩ := Array.getElem?_eq_some_iff.mp hc
    have q := List.all_eq_true.mp ((Array.all_eq_true_iff_forall_mem.mp hF) _ (Array.getElem_mem ha)) i (List.mem_range.mpr hi)
    simpa [Array.getElem?_eq_getElem hi] using q
  obtain ⟨i0, ei0⟩ := is_v g5
  obtain rfl : w0 = (.int i0) := Option.some.inj ei0
  obtain ⟨hVa, hn0⟩ := and_e hn
  obtain ⟨hVe, hn1⟩ := and_e hn0
  obtain ⟨hVl, hn2⟩ := and_e hn1
  obtain ⟨hE0, hn3⟩ := and_e hn2
  obtain ⟨hX0, hn4⟩ := and_e hn3
  obtain ⟨hE1, hn5⟩ := and_e hn4
  obtain ⟨hX1, hn6⟩ := and_e hn5
  obtain ⟨hE2, hn7⟩ := and_e hn6
  obtain ⟨hX2, hn8⟩ := and_e hn7
  obtain ⟨hE3, hn9⟩ := and_e hn8
  obtain ⟨hX3, hn10⟩ := and_e hn9
  obtain ⟨hE4, hn11⟩ := and_e hn10
  obtain ⟨hX4, hn12⟩ := and_e hn11
  obtain ⟨hE5, hn13⟩ := and_e hn12
  obtain ⟨hX5, hn14⟩ := and_e hn13
  obtain ⟨hE6, hn15⟩ := and_e hn14
  obtain ⟨hX6, hn16⟩ := and_e hn15
  obtain ⟨hE7, hn17⟩ := and_e hn16
  obtain ⟨hX7, hn18⟩ := and_e hn17
  obtain ⟨hE8, hn19⟩ := and_e hn18
  obtain ⟨hX8, hn20⟩ := and_e hn19
  obtain ⟨hE9, hn21⟩ := and_e hn20
  obtain ⟨hX9, hn22⟩ := and_e hn21
  obtain ⟨hE10, hn23⟩ := and_e hn22
  obtain ⟨hX10, hn24⟩ := and_e hn23
  obtain ⟨hE11, hn25⟩ := and_e hn24
  obtain ⟨hX11, hn26⟩ := and_e hn25
  obtain ⟨hE12, hn27⟩ := and_e hn26
  obtain ⟨hX12, hn28⟩ := and_e hn27
  obtain ⟨hE13, hn29⟩ := and_e hn28
  obtain ⟨hX13, hn30⟩ := and_e hn29
  obtain ⟨hE14, hn31⟩ := and_e hn30
  obtain ⟨hX14, hn32⟩ := and_e hn31
  obtain ⟨hE15, hn33⟩ := and_e hn32
  obtain ⟨hX15, hn34⟩ := and_e hn33
  obtain ⟨hE16, hn35⟩ := and_e hn34
  obtain ⟨hX16, hn36⟩ := and_e hn35
  obtain ⟨hT0, hn37⟩ := and_e hn36
  obtain ⟨hT1, hn38⟩ := and_e hn37
  obtain ⟨hT2, hn39⟩ := and_e hn38
  obtain ⟨hT3, hn40⟩ := and_e hn39
  obtain ⟨hT4, hn41⟩ := and_e hn40
  obtain ⟨hT5, hn42⟩ := and_e hn41
  obtain ⟨hT6, hn43⟩ := and_e hn42
  obtain ⟨hT7, hn44⟩ := and_e hn43
  obtain ⟨hT8, hn45⟩ := and_e hn44
  obtain ⟨hT9, hn46⟩ := and_e hn45
  obtain ⟨hT10, hn47⟩ := and_e hn46
  obtain ⟨hT11, hn48⟩ := and_e hn47
  obtain ⟨hT12, hn49⟩ := and_e hn48
  obtain ⟨hT13, hn50⟩ := and_e hn49
  obtain ⟨hT14, hn51⟩ := and_e hn50
  obtain ⟨hT15, hn52⟩ := and_e hn51
  have hT16 := hn52
  obtain ⟨aV, evV⟩ := exa_v hVe
  have S_V := Sta.start evV (Or.inr ⟨(hw _ (List.mem_of_getElem? (i := 3) rfl)), (hw _ (List.mem_of_getElem? (i := 9) rfl))⟩)
  have E_V := Exa.start evV hVe
  obtain ⟨cV, A_V⟩ := Arr.start evV hVa
  have z_V := own_len evV A_V hVl
  have F_V := FitC.start hfit A_V
  obtain ⟨a0, ev0⟩ := exa_v hE0
  have x0 := (elem_in (own_eqref hX0 ev0) evV (Term.int_eval (0 : Int32)) A_V.1).2
  have E0 := Exa.start ev0 hE0
  have f0 := Fld.start ((fld_at ev0).symm.trans (Jvm.Free.NT.SwA.eq_int (Cond.before_iff.mpr hT0)))
  obtain ⟨a1, ev1⟩ := exa_v hE1
  have x1 := (elem_in (own_eqref hX1 ev1) evV (Term.int_eval (1 : Int32)) A_V.1).2
  have E1 := Exa.start ev1 hE1
  have f1 := Fld.start ((fld_at ev1).symm.trans (Jvm.Free.NT.SwA.eq_int (Cond.before_iff.mpr hT1)))
  obtain ⟨a2, ev2⟩ := exa_v hE2
  have x2 := (elem_in (own_eqref hX2 ev2) evV (Term.int_eval (2 : Int32)) A_V.1).2
  have E2 := Exa.start ev2 hE2
  have f2 := Fld.start ((fld_at ev2).symm.trans (Jvm.Free.NT.SwA.eq_int (Cond.before_iff.mpr hT2)))
  obtain ⟨a3, ev3⟩ := exa_v hE3
  have x3 := (elem_in (own_eqref hX3 ev3) evV (Term.int_eval (3 : Int32)) A_V.1).2
  have E3 := Exa.start ev3 hE3
  have f3 := Fld.start ((fld_at ev3).symm.trans (Jvm.Free.NT.SwA.eq_int (Cond.before_iff.mpr hT3)))
  obtain ⟨a4, ev4⟩ := exa_v hE4
  have x4 := (elem_in (own_eqref hX4 ev4) evV (Term.int_eval (4 : Int32)) A_V.1).2
  have E4 := Exa.start ev4 hE4
  have f4 := Fld.start ((fld_at ev4).symm.trans (Jvm.Free.NT.SwA.eq_int (Cond.before_iff.mpr hT4)))
  obtain ⟨a5, ev5⟩ := exa_v hE5
  have x5 := (elem_in (own_eqref hX5 ev5) evV (Term.int_eval (5 : Int32)) A_V.1).2
  have E5 := Exa.start ev5 hE5
  have f5 := Fld.start ((fld_at ev5).symm.trans (Jvm.Free.NT.SwA.eq_int (Cond.before_iff.mpr hT5)))
  obtain ⟨a6, ev6⟩ := exa_v hE6
  have x6 := (elem_in (own_eqref hX6 ev6) evV (Term.int_eval (6 : Int32)) A_V.1).2
  have E6 := Exa.start ev6 hE6
  have f6 := Fld.start ((fld_at ev6).symm.trans (Jvm.Free.NT.SwA.eq_int (Cond.before_iff.mpr hT6)))
  obtain ⟨a7, ev7⟩ := exa_v hE7
  have x7 := (elem_in (own_eqref hX7 ev7) evV (Term.int_eval (7 : Int32)) A_V.1).2
  have E7 := Exa.start ev7 hE7
  have f7 := Fld.start ((fld_at ev7).symm.trans (Jvm.Free.NT.SwA.eq_int (Cond.before_iff.mpr hT7)))
  obtain ⟨a8, ev8⟩ := exa_v hE8
  have x8 := (elem_in (own_eqref hX8 ev8) evV (Term.int_eval (8 : Int32)) A_V.1).2
  have E8 := Exa.start ev8 hE8
  have f8 := Fld.start ((fld_at ev8).symm.trans (Jvm.Free.NT.SwA.eq_int (Cond.before_iff.mpr hT8)))
  obtain ⟨a9, ev9⟩ := exa_v hE9
  have x9 := (elem_in (own_eqref hX9 ev9) evV (Term.int_eval (9 : Int32)) A_V.1).2
  have E9 := Exa.start ev9 hE9
  have f9 := Fld.start ((fld_at ev9).symm.trans (Jvm.Free.NT.SwA.eq_int (Cond.before_iff.mpr hT9)))
  obtain ⟨a10, ev10⟩ := exa_v hE10
  have x10 := (elem_in (own_eqref hX10 ev10) evV (Term.int_eval (10 : Int32)) A_V.1).2
  have E10 := Exa.start ev10 hE10
  have f10 := Fld.start ((fld_at ev10).symm.trans (Jvm.Free.NT.SwA.eq_int (Cond.before_iff.mpr hT10)))
  obtain ⟨a11, ev11⟩ := exa_v hE11
  have x11 := (elem_in (own_eqref hX11 ev11) evV (Term.int_eval (11 : Int32)) A_V.1).2
  have E11 := Exa.start ev11 hE11
  have f11 := Fld.start ((fld_at ev11).symm.trans (Jvm.Free.NT.SwA.eq_int (Cond.before_iff.mpr hT11)))
  obtain ⟨a12, ev12⟩ := exa_v hE12
  have x12 := (elem_in (own_eqref hX12 ev12) evV (Term.int_eval (12 : Int32)) A_V.1).2
  have E12 := Exa.start ev12 hE12
  have f12 := Fld.start ((fld_at ev12).symm.trans (Jvm.Free.NT.SwA.eq_int (Cond.before_iff.mpr hT12)))
  obtain ⟨a13, ev13⟩ := exa_v hE13
  have x13 := (elem_in (own_eqref hX13 ev13) evV (Term.int_eval (13 : Int32)) A_V.1).2
  have E13 := Exa.start ev13 hE13
  have f13 := Fld.start ((fld_at ev13).symm.trans (Jvm.Free.NT.SwA.eq_int (Cond.before_iff.mpr hT13)))
  obtain ⟨a14, ev14⟩ := exa_v hE14
  have x14 := (elem_in (own_eqref hX14 ev14) evV (Term.int_eval (14 : Int32)) A_V.1).2
  have E14 := Exa.start ev14 hE14
  have f14 := Fld.start ((fld_at ev14).symm.trans (Jvm.Free.NT.SwA.eq_int (Cond.before_iff.mpr hT14)))
  obtain ⟨a15, ev15⟩ := exa_v hE15
  have x15 := (elem_in (own_eqref hX15 ev15) evV (Term.int_eval (15 : Int32)) A_V.1).2
  have E15 := Exa.start ev15 hE15
  have f15 := Fld.start ((fld_at ev15).symm.trans (Jvm.Free.NT.SwA.eq_int (Cond.before_iff.mpr hT15)))
  obtain ⟨a16, ev16⟩ := exa_v hE16
  have x16 := (elem_in (own_eqref hX16 ev16) evV (Term.int_eval (16 : Int32)) A_V.1).2
  have E16 := Exa.start ev16 hE16
  have f16 := Fld.start ((fld_at ev16).symm.trans (Jvm.Free.NT.SwA.eq_int (Cond.before_iff.mpr hT16)))
  obtain ⟨j, hj, hp⟩ := own_mod17 i0
  let es : Nat → Addr := fun i => ([a0, a1, a2, a3, a4, a5, a6, a7, a8, a9, a10, a11, a12, a13, a14, a15, a16] : List Addr).getD i 0
  have he : ∀ i, i < 17 → cV.slots[i]? = some (.ref (es i)) := fun i hi => by
    match i, hi with
    | 0, _ => exact x0
    | 1, _ => exact x1
    | 2, _ => exact x2
    | 3, _ => exact x3
    | 4, _ => exact x4
    | 5, _ => exact x5
    | 6, _ => exact x6
    | 7, _ => exact x7
    | 8, _ => exact x8
    | 9, _ => exact x9
    | 10, _ => exact x10
    | 11, _ => exact x11
    | 12, _ => exact x12
    | 13, _ => exact x13
    | 14, _ => exact x14
    | 15, _ => exact x15
    | 16, _ => exact x16
    | n + 17, h => exact absurd h (by omega)
  have ht : ∀ i, i < 17 → Fld s s.heap (es i) "com/example/mirrorlog/mirrorlog/core/message/Message$Kind" "tag" "B" (.int (Int32.ofNat (i + 1))) := fun i hi => by
    match i, hi with
    | 0, _ => exact f0
    | 1, _ => exact f1
    | 2, _ => exact f2
    | 3, _ => exact f3
    | 4, _ => exact f4
    | 5, _ => exact f5
    | 6, _ => exact f6
    | 7, _ => exact f7
    | 8, _ => exact f8
    | 9, _ => exact f9
    | 10, _ => exact f10
    | 11, _ => exact f11
    | 12, _ => exact f12
    | 13, _ => exact f13
    | 14, _ => exact f14
    | 15, _ => exact f15
    | 16, _ => exact f16
    | n + 17, h => exact absurd h (by omega)
  have hEE : ∀ i, i < 17 → Exa s s.heap (es i) "com/example/mirrorlog/mirrorlog/core/message/Message$Kind" := fun i hi => by
    match i, hi with
    | 0, _ => exact E0
    | 1, _ => exact E1
    | 2, _ => exact E2
    | 3, _ => exact E3
    | 4, _ => exact E4
    | 5, _ => exact E5
    | 6, _ => exact E6
    | 7, _ => exact E7
    | 8, _ => exact E8
    | 9, _ => exact E9
    | 10, _ => exact E10
    | 11, _ => exact E11
    | 12, _ => exact E12
    | 13, _ => exact E13
    | 14, _ => exact E14
    | 15, _ => exact E15
    | 16, _ => exact E16
    | n + 17, h => exact absurd h (by omega)
  obtain ⟨n, o, h1, h2, h3, _, L, rfl, ⟨rfl, N⟩, hq⟩ := rm0 l s _ hw tables_1 i0 s.heap s.heap.size (Nat.le_refl _) aV cV S_V E_V A_V F_V z_V es he ht hEE j hj hp p e ha hc hk s m _ below hf ((Spec.applies_iff_loose hf).mp happ).1 ⟨rfl, State.Warmed39.refl s, rfl⟩ trivial
  exact ⟨n, _, h1, h2, h3, hpost _ _ _ _ _ _ ⟨Cond.after_iff.mpr rfl, Cond.after_iff.mpr (eq_i res_at (Term.int_eval (1)) rfl), trivial⟩ ⟨hq.1, hq.2.1, (hq.2.2.sift fun y hy => Or.inr (N y hy)).mono (by decide) (by decide)⟩⟩
theorem main_1_1 : Claimed_1_1 := comes_1 fun _ _ _ _ _ _ h hF => ⟨h.1, hF⟩
theorem main_1_2 : Claimed_1_2 := comes_1 fun _ _ _ _ _ _ h hF => ⟨h.2.1, hF⟩
end Jvm.Pilot.@@N@@
namespace Jvm.Pilot.@@N@@
open Jvm Jvm.ClassFile Sem Op Lib Jvm.Free Jvm.Stand Jvm.Pilot.@@N@@.Jvm.D
/-! MADE BY PROGRAM (witnessworld.py) out of the Statement's table words and the real class files: 13 classes; the members and pool entries that the words name. The judged class is class 1, her method 1. -/
namespace start1
open Jvm.ClassFile
def u (s : String) : CpInfo := .utf8 (stringToUtf16 s)
/-- a pool by its gaps: so many unusable entries, then the entry; so many at the end -/
def gap : Nat → List CpInfo → List CpInfo
  | 0, r => r
  | n + 1, r => .unusable :: gap n r
def poolList (es : List (Nat × CpInfo)) (last : Nat) : List CpInfo := es.foldr (fun e r => gap e.1 (e.2 :: r)) (gap last [])
def pool (es : List (Nat × CpInfo)) (last : Nat) : Array CpInfo := ⟨poolList es last⟩
def fileOf (pool : Array CpInfo) (this : Nat) (attrs : Array Attribute := #[]) (ms : Array MethodInfo := #[]) (fl : Nat := 33) (sup : Nat := 0) (ifs : Array Nat := #[]) (fds : Array FieldInfo := #[]) : ClassFile where
  minorVersion := 0
  majorVersion := 65
  constantPool := pool
  accessFlags := fl
  thisClass := this
  superClass := sup
  interfaces := ifs
  fields := fds
  methods := ms
  attributes := attrs
def plain (name : String) (sup : Option ClassId) : Class where
  name := name
  kind := .ordinary
  loader := none
  accessFlags := 33
  super := sup
  interfaces := #[]
  cf := none
  fields := #[]
  methods := #[]
  instanceTypes := #[]
  staticTypes := #[]
  resolved := #[]
  callSites := []
  init := .initialized
  statics := none
  mirror := none

def pool0 : Array CpInfo := pool [(5, u "<init>"), (0, u "()V"), (1, .class_ 10), (1, u "java/lang/Object"), (85, u "clone"), (0, u "()Ljava/lang/Object;")] 26

def k0m0 : Method := { name := "<init>", desc := "()V", sig := { parameters := [], returnType := none }, accessFlags := 1, code := none }
def k0m1 : Method := { name := "clone", desc := "()Ljava/lang/Object;", sig := { parameters := [], returnType := some (.object "java/lang/Object") }, accessFlags := 260, code := none }
/-- java/lang/Object -/
def k0 : Class := { plain "java/lang/Object" none with
  accessFlags := 33
  interfaces := #[]
  cf := some (fileOf pool0 8 #[] #[{ accessFlags := 1, nameIndex := 5, descriptorIndex := 6, attributes := #[] }, { accessFlags := 260, nameIndex := 96, descriptorIndex := 97, attributes := #[] }] 33 0 #[] #[])
  fields := #[]
  methods := #[k0m0, k0m1]
  instanceTypes := #[]
  staticTypes := #[]
  resolved := Array.replicate 124 none
  statics := none }

def pool1 : Array CpInfo := pool [(2, .class_ 4), (1, u "java/lang/Object"), (0, u "<init>"), (0, u "()V"), (0, .integer 2147483647), (0, .methodref 9 10), (0, .class_ 11), (0, .nameAndType 12 13), (0, u "com/example/mirrorlog/mirrorlog/core/message/Message$Kind"), (0, u "ofTag"), (0, u "(B)Lcom/example/mirrorlog/mirrorlog/core/message/Message$Kind;"), (0, .methodref 9 15), (0, .nameAndType 16 17), (0, u "tag"), (0, u "()B"), (0, .class_ 19), (0, u "com/example/mirrorlog/mirrorlog/core/message/KindOfTagPinLaw"), (2, u "law"), (0, u "(I)Z")] 10

def k1m0 : Method := { name := "<init>", desc := "()V", sig := { parameters := [], returnType := none }, accessFlags := 2, code := none }
def k1c1 : Code := { maxStack := 2, maxLocals := 3, code := code, exceptionTable := #[], attributes := #[] }
def k1m1 : Method := { name := "law", desc := "(I)Z", sig := { parameters := [.int], returnType := some .boolean }, accessFlags := 9, code := some k1c1 }
/-- com/example/mirrorlog/mirrorlog/core/message/KindOfTagPinLaw -/
def k1 : Class := { plain "com/example/mirrorlog/mirrorlog/core/message/KindOfTagPinLaw" (some 0) with
  accessFlags := 49
  interfaces := #[]
  cf := some (fileOf pool1 18 #[] #[{ accessFlags := 2, nameIndex := 5, descriptorIndex := 6, attributes := #[] }, { accessFlags := 9, nameIndex := 22, descriptorIndex := 23, attributes := #[] }] 49 2 #[] #[])
  fields := #[]
  methods := #[k1m0, k1m1]
  instanceTypes := #[]
  staticTypes := #[]
  resolved := Array.replicate 34 none
  statics := none }

def pool2 : Array CpInfo := pool [(1, .class_ 2), (0, u "java/lang/constant/Constable"), (0, .class_ 4), (0, u "java/lang/Object")] 6

/-- java/lang/constant/Constable -/
def k2 : Class := { plain "java/lang/constant/Constable" (some 0) with
  accessFlags := 1537
  interfaces := #[]
  cf := some (fileOf pool2 1 #[] #[] 1537 3 #[] #[])
  fields := #[]
  methods := #[]
  instanceTypes := #[]
  staticTypes := #[]
  resolved := Array.replicate 11 none
  statics := none }

def pool3 : Array CpInfo := pool [(1, .class_ 2), (0, u "java/lang/Comparable"), (0, .class_ 4), (0, u "java/lang/Object")] 7

/-- java/lang/Comparable -/
def k3 : Class := { plain "java/lang/Comparable" (some 0) with
  accessFlags := 1537
  interfaces := #[]
  cf := some (fileOf pool3 1 #[] #[] 1537 3 #[] #[])
  fields := #[]
  methods := #[]
  instanceTypes := #[]
  staticTypes := #[]
  resolved := Array.replicate 12 none
  statics := none }

def pool4 : Array CpInfo := pool [(1, .class_ 2), (0, u "java/io/Serializable"), (0, .class_ 4), (0, u "java/lang/Object")] 2

/-- java/io/Serializable -/
def k4 : Class := { plain "java/io/Serializable" (some 0) with
  accessFlags := 1537
  interfaces := #[]
  cf := some (fileOf pool4 1 #[] #[] 1537 3 #[] #[])
  fields := #[]
  methods := #[]
  instanceTypes := #[]
  staticTypes := #[]
  resolved := Array.replicate 7 none
  statics := none }

def pool5 : Array CpInfo := pool [(2, .class_ 4), (1, u "java/lang/Enum"), (0, u "name"), (0, u "Ljava/lang/String;"), (2, u "ordinal"), (0, u "I"), (1, .class_ 14), (1, u "java/lang/Object"), (4, u "hash"), (86, .class_ 108), (1, u "java/lang/Enum$EnumDesc"), (2, .class_ 112), (0, u "java/lang/constant/Constable"), (0, .class_ 114), (0, u "java/lang/Comparable"), (0, .class_ 116), (0, u "java/io/Serializable")] 87

/-- java/lang/Enum -/
def k5 : Class := { plain "java/lang/Enum" (some 0) with
  accessFlags := 1057
  interfaces := #[2, 3, 4]
  cf := some (fileOf pool5 2 #[.nestMembers #[106]] #[] 1057 12 #[111, 113, 115] #[{ accessFlags := 18, nameIndex := 5, descriptorIndex := 6, attributes := #[] }, { accessFlags := 18, nameIndex := 9, descriptorIndex := 10, attributes := #[] }, { accessFlags := 2, nameIndex := 19, descriptorIndex := 10, attributes := #[] }])
  fields := #[{ name := "name", type := (.object "java/lang/String"), accessFlags := 18, slot := 0, constantValue := 0 }, { name := "ordinal", type := .int, accessFlags := 18, slot := 1, constantValue := 0 }, { name := "hash", type := .int, accessFlags := 2, slot := 2, constantValue := 0 }]
  methods := #[]
  instanceTypes := #[(.object "java/lang/String"), .int, .int]
  staticTypes := #[]
  resolved := Array.replicate 204 none
  statics := none }

def pool6 : Array CpInfo := pool [(1, .class_ 2), (0, u "com/example/mirrorlog/mirrorlog/core/message/Message$Kind"), (2, u "BEGIN"), (0, u "Lcom/example/mirrorlog/mirrorlog/core/message/Message$Kind;"), (2, u "BEGAN"), (2, u "REGISTER_BRANCH"), (2, u "BRANCH_REGISTERED"), (2, u "COMMIT"), (2, u "SERVE_RESOURCE"), (2, u "LIST_SESSIONS"), (2, u "SESSION_LIST"), (2, u "LIST_LOCKS"), (2, u "LOCK_LIST"), (2, u "COMMIT_BRANCHES"), (2, u "DONE"), (2, u "FAILURE"), (2, u "ROLLBACK"), (2, u "ROLLBACK_BRANCH"), (2, u "ROLLBACK_AGAIN"), (2, u "FORGET"), (0, .fieldref 1 56), (0, .nameAndType 57 58), (0, u "$VALUES"), (0, u "[Lcom/example/mirrorlog/mirrorlog/core/message/Message$Kind;"), (0, .methodref 60 61), (0, .class_ 58), (0, .nameAndType 62 63), (0, u "clone"), (0, u "()Ljava/lang/Object;"), (1, .class_ 67), (1, u "java/lang/Enum"), (6, .fieldref 1 75), (0, .nameAndType 76 77), (0, u "tag"), (0, u "B"), (2, u "reader"), (0, u "Lcom/example/mirrorlog/mirrorlog/core/message/Wire$Reader;"), (6, .class_ 89), (0, u "com/example/mirrorlog/mirrorlog/core/message/Message"), (0, .methodref 1 91), (0, .nameAndType 92 93), (0, u "values"), (0, u "()[Lcom/example/mirrorlog/mirrorlog/core/message/Message$Kind;"), (69, u "()B"), (2, u "ofTag"), (0, u "(B)Lcom/example/mirrorlog/mirrorlog/core/message/Message$Kind;")] 147

def k6c0 : Code := { maxStack := 1, maxLocals := 0, code := prog_27_method_1_code, exceptionTable := #[], attributes := #[] }
def k6m0 : Method := { name := "values", desc := "()[Lcom/example/mirrorlog/mirrorlog/core/message/Message$Kind;", sig := { parameters := [], returnType := some (.array (.object "com/example/mirrorlog/mirrorlog/core/message/Message$Kind")) }, accessFlags := 9, code := some k6c0 }
def k6c1 : Code := { maxStack := 1, maxLocals := 1, code := prog_27_method_4_code, exceptionTable := #[], attributes := #[] }
def k6m1 : Method := { name := "tag", desc := "()B", sig := { parameters := [], returnType := some .byte }, accessFlags := 0, code := some k6c1 }
def k6c2 : Code := { maxStack := 3, maxLocals := 5, code := prog_27_method_6_code, exceptionTable := #[], attributes := #[] }
def k6m2 : Method := { name := "ofTag", desc := "(B)Lcom/example/mirrorlog/mirrorlog/core/message/Message$Kind;", sig := { parameters := [.byte], returnType := some (.object "com/example/mirrorlog/mirrorlog/core/message/Message$Kind") }, accessFlags := 8, code := some k6c2 }
/-- com/example/mirrorlog/mirrorlog/core/message/Message$Kind -/
def k6 : Class := { plain "com/example/mirrorlog/mirrorlog/core/message/Message$Kind" (some 5) with
  accessFlags := 16433
  interfaces := #[]
  cf := some (fileOf pool6 1 #[.nestHost 88] #[{ accessFlags := 9, nameIndex := 92, descriptorIndex := 93, attributes := #[] }, { accessFlags := 0, nameIndex := 76, descriptorIndex := 163, attributes := #[] }, { accessFlags := 8, nameIndex := 166, descriptorIndex := 167, attributes := #[] }] 16433 65 #[] #[{ accessFlags := 16409, nameIndex := 5, descriptorIndex := 6, attributes := #[] }, { accessFlags := 16409, nameIndex := 9, descriptorIndex := 6, attributes := #[] }, { accessFlags := 16409, nameIndex := 12, descriptorIndex := 6, attributes := #[] }, { accessFlags := 16409, nameIndex := 15, descriptorIndex := 6, attributes := #[] }, { accessFlags := 16409, nameIndex := 18, descriptorIndex := 6, attributes := #[] }, { accessFlags := 16409, nameIndex := 21, descriptorIndex := 6, attributes := #[] }, { accessFlags := 16409, nameIndex := 24, descriptorIndex := 6, attributes := #[] }, { accessFlags := 16409, nameIndex := 27, descriptorIndex := 6, attributes := #[] }, { accessFlags := 16409, nameIndex := 30, descriptorIndex := 6, attributes := #[] }, { accessFlags := 16409, nameIndex := 33, descriptorIndex := 6, attributes := #[] }, { accessFlags := 16409, nameIndex := 36, descriptorIndex := 6, attributes := #[] }, { accessFlags := 16409, nameIndex := 39, descriptorIndex := 6, attributes := #[] }, { accessFlags := 16409, nameIndex := 42, descriptorIndex := 6, attributes := #[] }, { accessFlags := 16409, nameIndex := 45, descriptorIndex := 6, attributes := #[] }, { accessFlags := 16409, nameIndex := 48, descriptorIndex := 6, attributes := #[] }, { accessFlags := 16409, nameIndex := 51, descriptorIndex := 6, attributes := #[] }, { accessFlags := 16409, nameIndex := 54, descriptorIndex := 6, attributes := #[] }, { accessFlags := 18, nameIndex := 76, descriptorIndex := 77, attributes := #[] }, { accessFlags := 18, nameIndex := 80, descriptorIndex := 81, attributes := #[] }, { accessFlags := 4122, nameIndex := 57, descriptorIndex := 58, attributes := #[] }])
  fields := #[{ name := "BEGIN", type := (.object "com/example/mirrorlog/mirrorlog/core/message/Message$Kind"), accessFlags := 16409, slot := 0, constantValue := 0 }, { name := "BEGAN", type := (.object "com/example/mirrorlog/mirrorlog/core/message/Message$Kind"), accessFlags := 16409, slot := 1, constantValue := 0 }, { name := "REGISTER_BRANCH", type := (.object "com/example/mirrorlog/mirrorlog/core/message/Message$Kind"), accessFlags := 16409, slot := 2, constantValue := 0 }, { name := "BRANCH_REGISTERED", type := (.object "com/example/mirrorlog/mirrorlog/core/message/Message$Kind"), accessFlags := 16409, slot := 3, constantValue := 0 }, { name := "COMMIT", type := (.object "com/example/mirrorlog/mirrorlog/core/message/Message$Kind"), accessFlags := 16409, slot := 4, constantValue := 0 }, { name := "SERVE_RESOURCE", type := (.object "com/example/mirrorlog/mirrorlog/core/message/Message$Kind"), accessFlags := 16409, slot := 5, constantValue := 0 }, { name := "LIST_SESSIONS", type := (.object "com/example/mirrorlog/mirrorlog/core/message/Message$Kind"), accessFlags := 16409, slot := 6, constantValue := 0 }, { name := "SESSION_LIST", type := (.object "com/example/mirrorlog/mirrorlog/core/message/Message$Kind"), accessFlags := 16409, slot := 7, constantValue := 0 }, { name := "LIST_LOCKS", type := (.object "com/example/mirrorlog/mirrorlog/core/message/Message$Kind"), accessFlags := 16409, slot := 8, constantValue := 0 }, { name := "LOCK_LIST", type := (.object "com/example/mirrorlog/mirrorlog/core/message/Message$Kind"), accessFlags := 16409, slot := 9, constantValue := 0 }, { name := "COMMIT_BRANCHES", type := (.object "com/example/mirrorlog/mirrorlog/core/message/Message$Kind"), accessFlags := 16409, slot := 10, constantValue := 0 }, { name := "DONE", type := (.object "com/example/mirrorlog/mirrorlog/core/message/Message$Kind"), accessFlags := 16409, slot := 11, constantValue := 0 }, { name := "FAILURE", type := (.object "com/example/mirrorlog/mirrorlog/core/message/Message$Kind"), accessFlags := 16409, slot := 12, constantValue := 0 }, { name := "ROLLBACK", type := (.object "com/example/mirrorlog/mirrorlog/core/message/Message$Kind"), accessFlags := 16409, slot := 13, constantValue := 0 }, { name := "ROLLBACK_BRANCH", type := (.object "com/example/mirrorlog/mirrorlog/core/message/Message$Kind"), accessFlags := 16409, slot := 14, constantValue := 0 }, { name := "ROLLBACK_AGAIN", type := (.object "com/example/mirrorlog/mirrorlog/core/message/Message$Kind"), accessFlags := 16409, slot := 15, constantValue := 0 }, { name := "FORGET", type := (.object "com/example/mirrorlog/mirrorlog/core/message/Message$Kind"), accessFlags := 16409, slot := 16, constantValue := 0 }, { name := "tag", type := .byte, accessFlags := 18, slot := 3, constantValue := 0 }, { name := "reader", type := (.object "com/example/mirrorlog/mirrorlog/core/message/Wire$Reader"), accessFlags := 18, slot := 4, constantValue := 0 }, { name := "$VALUES", type := (.array (.object "com/example/mirrorlog/mirrorlog/core/message/Message$Kind")), accessFlags := 4122, slot := 17, constantValue := 0 }]
  methods := #[k6m0, k6m1, k6m2]
  instanceTypes := #[(.object "java/lang/String"), .int, .int, .byte, (.object "com/example/mirrorlog/mirrorlog/core/message/Wire$Reader")]
  staticTypes := #[(.object "com/example/mirrorlog/mirrorlog/core/message/Message$Kind"), (.object "com/example/mirrorlog/mirrorlog/core/message/Message$Kind"), (.object "com/example/mirrorlog/mirrorlog/core/message/Message$Kind"), (.object "com/example/mirrorlog/mirrorlog/core/message/Message$Kind"), (.object "com/example/mirrorlog/mirrorlog/core/message/Message$Kind"), (.object "com/example/mirrorlog/mirrorlog/core/message/Message$Kind"), (.object "com/example/mirrorlog/mirrorlog/core/message/Message$Kind"), (.object "com/example/mirrorlog/mirrorlog/core/message/Message$Kind"), (.object "com/example/mirrorlog/mirrorlog/core/message/Message$Kind"), (.object "com/example/mirrorlog/mirrorlog/core/message/Message$Kind"), (.object "com/example/mirrorlog/mirrorlog/core/message/Message$Kind"), (.object "com/example/mirrorlog/mirrorlog/core/message/Message$Kind"), (.object "com/example/mirrorlog/mirrorlog/core/message/Message$Kind"), (.object "com/example/mirrorlog/mirrorlog/core/message/Message$Kind"), (.object "com/example/mirrorlog/mirrorlog/core/message/Message$Kind"), (.object "com/example/mirrorlog/mirrorlog/core/message/Message$Kind"), (.object "com/example/mirrorlog/mirrorlog/core/message/Message$Kind"), (.array (.object "com/example/mirrorlog/mirrorlog/core/message/Message$Kind"))]
  resolved := Array.replicate 315 none
  statics := some 0 }

def pool7 : Array CpInfo := pool [(1, .class_ 2), (0, u "java/lang/Cloneable"), (0, .class_ 4), (0, u "java/lang/Object")] 2

/-- java/lang/Cloneable -/
def k7 : Class := { plain "java/lang/Cloneable" (some 0) with
  accessFlags := 1537
  interfaces := #[]
  cf := some (fileOf pool7 1 #[] #[] 1537 3 #[] #[])
  fields := #[]
  methods := #[]
  instanceTypes := #[]
  staticTypes := #[]
  resolved := Array.replicate 7 none
  statics := none }

/-- the primitive byte -/
def k8 : Class := { plain "byte" none with kind := .primitive 'B', accessFlags := 0x411 }
/-- [B -/
def k9 : Class := { plain "[B" (some 0) with kind := .array 8 .byte, interfaces := #[7, 4], accessFlags := 1041 }

/-- the primitive int -/
def k10 : Class := { plain "int" none with kind := .primitive 'I', accessFlags := 0x411 }
/-- [I -/
def k11 : Class := { plain "[I" (some 0) with kind := .array 10 .int, interfaces := #[7, 4], accessFlags := 1041 }

/-- [Lcom/example/mirrorlog/mirrorlog/core/message/Message$Kind; -/
def k12 : Class := { plain "[Lcom/example/mirrorlog/mirrorlog/core/message/Message$Kind;" (some 0) with kind := .array 6 (.object "com/example/mirrorlog/mirrorlog/core/message/Message$Kind"), interfaces := #[7, 4], accessFlags := 1041 }

def heap : Heap := #[{ cls := 6, slots := #[.ref 2, .ref 3, .ref 4, .ref 5, .ref 6, .ref 7, .ref 8, .ref 9, .ref 10, .ref 11, .ref 12, .ref 13, .ref 14, .ref 15, .ref 16, .ref 17, .ref 18, .ref 1], vm := .statics 6 },
  { cls := 12, slots := #[.ref 2, .ref 3, .ref 4, .ref 5, .ref 6, .ref 7, .ref 8, .ref 9, .ref 10, .ref 11, .ref 12, .ref 13, .ref 14, .ref 15, .ref 16, .ref 17, .ref 18], vm := .none },
  { cls := 6, slots := #[.null, .int 0, .int 0, .int 1, .null], vm := .none },
  { cls := 6, slots := #[.null, .int 1, .int 0, .int 2, .null], vm := .none },
  { cls := 6, slots := #[.null, .int 2, .int 0, .int 3, .null], vm := .none },
  { cls := 6, slots := #[.null, .int 3, .int 0, .int 4, .null], vm := .none },
  { cls := 6, slots := #[.null, .int 4, .int 0, .int 5, .null], vm := .none },
  { cls := 6, slots := #[.null, .int 5, .int 0, .int 6, .null], vm := .none },
  { cls := 6, slots := #[.null, .int 6, .int 0, .int 7, .null], vm := .none },
  { cls := 6, slots := #[.null, .int 7, .int 0, .int 8, .null], vm := .none },
  { cls := 6, slots := #[.null, .int 8, .int 0, .int 9, .null], vm := .none },
  { cls := 6, slots := #[.null, .int 9, .int 0, .int 10, .null], vm := .none },
  { cls := 6, slots := #[.null, .int 10, .int 0, .int 11, .null], vm := .none },
  { cls := 6, slots := #[.null, .int 11, .int 0, .int 12, .null], vm := .none },
  { cls := 6, slots := #[.null, .int 12, .int 0, .int 13, .null], vm := .none },
  { cls := 6, slots := #[.null, .int 13, .int 0, .int 14, .null], vm := .none },
  { cls := 6, slots := #[.null, .int 14, .int 0, .int 15, .null], vm := .none },
  { cls := 6, slots := #[.null, .int 15, .int 0, .int 16, .null], vm := .none },
  { cls := 6, slots := #[.null, .int 16, .int 0, .int 17, .null], vm := .none }]
def classes : Array Class := #[k0, k1, k2, k3, k4, k5, k6, k7, k8, k9, k10, k11, k12]
def interned : List (Array UInt16 × Addr) := []
def slotsUsed : Nat := 120
def theMethod : MethodId := ⟨1, 1⟩
def args0 : Array Value := #[.int 3]
def aboutOver (below : List Frame) : State where
  vm := { classes := classes, interned := interned.toArray }
  heap := heap
  slotsUsed := slotsUsed
  threads := #[{ frames := .invoking theMethod args0 :: below }]
def below0 : List Frame := [.native { method := ⟨0, 0⟩, args := #[] }]
def about1 : State := aboutOver below0
def p0 : Program := .bare "" "" ""
def e0 : Env := launch0.env 0 0 0
theorem w_frames : about1.frames = Frame.invoking theMethod args0 :: below0 := rfl
set_option maxRecDepth 65536 in
theorem w_args : argsFit about1.vm theMethod args0 = true := by decide +kernel
set_option maxRecDepth 65536 in
theorem w_heap : heapFits about1 = true := by decide +kernel
set_option maxRecDepth 65536 in
theorem w_runnable : about1.curStatus? = some .runnable := by decide +kernel
set_option maxRecDepth 65536 in
theorem w_alone : about1.alone = true := by decide +kernel
set_option maxRecDepth 65536 in
theorem w_named : about1.methodNamed? x = some theMethod := by decide +kernel
set_option maxRecDepth 65536 in
theorem w_hears : about1.hears theMethod below0 = true := by decide +kernel
set_option maxRecDepth 65536 in
theorem w_ripe : about1.ripe theMethod args0 below0 = true := by decide +kernel
theorem w_running : about1.status = .running := rfl
set_option maxRecDepth 65536 in
theorem w_room : about1.hasRoom e0.platform room_1 = true :=
  launch0.hasRoom_least _ room_1 (by decide +kernel) (by decide +kernel) (by decide +kernel) (by decide +kernel) (by decide +kernel) (by decide +kernel)
theorem allAtoms_all (ts : List Jvm.Cond) (a : Array Jvm.Value) (st : Jvm.State) : (allAtoms ts).before a st = ts.all (fun c => c.before a st) := by
  induction ts with
  | nil => rfl
  | cons c t ih =>
    show (Jvm.Cond.and c (allAtoms t)).before a st = _
    rw [Jvm.Cond.before_and, ih, List.all_cons]
def words1 : List Jvm.Cond := Jvm.Cond.code x code maxLocals ret :: tables_1
/-- a 'code' word, met by the world's own term for the bytes: nothing is compared byte by byte -/
theorem code_word {y : MethodName} {bytes : ByteArray} {mx : Nat} {rt : Option FieldType} {a : Array Value} {s : State} {m : MethodId} {meth : Method} {c : Code} (h1 : s.methodNamed? y = some m) (h2 : s.vm.method? m = some meth) (h3 : meth.code = some c) (h4 : c.code = bytes)
    (h5 : (c.maxLocals == mx && c.exceptionTable.isEmpty && decide (c.maxStack ≤ mostOperands) && decide (meth.sig.returnType = rt) && !meth.locks && decide (parseMethodDescriptor y.desc = some meth.sig)) = true) : (Jvm.Cond.code y bytes mx rt).before a s = true := by
  simp only [Bool.and_eq_true, beq_iff_eq, Bool.not_eq_true', decide_eq_true_eq] at h5
  obtain ⟨⟨⟨⟨⟨g1, g2⟩, g3⟩, g4⟩, g5⟩, g6⟩ := h5
  simp [Cond.before, Cond.holds, Cond.value, h1, h2, h3, h4, g1, g2, g3, g4, g5, g6]
def isCode : Jvm.Cond → Bool
  | .code _ _ _ _ => true
  | _ => false
theorem all_split {L : List Jvm.Cond} {P : Jvm.Cond → Bool} (h1 : L.all (fun c => isCode c || P c) = true) (h2 : ∀ c ∈ L.filter isCode, P c = true) : L.all P = true := by
  refine List.all_eq_true.mpr fun c hc => ?_
  have h := List.all_eq_true.mp h1 c hc
  rcases Bool.eq_false_or_eq_true (isCode c) with hi | hi
  · exact h2 c (List.mem_filter.mpr ⟨hc, hi⟩)
  · simpa [hi] using h
set_option maxRecDepth 65536 in
theorem w_c0 : (Jvm.Cond.code x code maxLocals ret).before args0 about1 = true := code_word (m := ⟨1, 1⟩) (meth := k1m1) (c := k1c1) (by decide +kernel) rfl rfl rfl (by decide +kernel)
set_option maxRecDepth 65536 in
theorem w_c1 : (Jvm.Cond.code ({ cls := "com/example/mirrorlog/mirrorlog/core/message/Message$Kind", name := "ofTag", desc := "(B)Lcom/example/mirrorlog/mirrorlog/core/message/Message$Kind;" } : Jvm.MethodName) prog_27_method_6_code (5 : Nat) (Option.some (Jvm.ClassFile.FieldType.object "com/example/mirrorlog/mirrorlog/core/message/Message$Kind"))).before args0 about1 = true := code_word (m := ⟨6, 2⟩) (meth := k6m2) (c := k6c2) (by decide +kernel) rfl rfl rfl (by decide +kernel)
set_option maxRecDepth 65536 in
theorem w_c2 : (Jvm.Cond.code ({ cls := "com/example/mirrorlog/mirrorlog/core/message/Message$Kind", name := "values", desc := "()[Lcom/example/mirrorlog/mirrorlog/core/message/Message$Kind;" } : Jvm.MethodName) prog_27_method_1_code (0 : Nat) (Option.some (Jvm.ClassFile.FieldType.array (Jvm.ClassFile.FieldType.object "com/example/mirrorlog/mirrorlog/core/message/Message$Kind")))).before args0 about1 = true := code_word (m := ⟨6, 0⟩) (meth := k6m0) (c := k6c0) (by decide +kernel) rfl rfl rfl (by decide +kernel)
set_option maxRecDepth 65536 in
theorem w_c3 : (Jvm.Cond.code ({ cls := "com/example/mirrorlog/mirrorlog/core/message/Message$Kind", name := "tag", desc := "()B" } : Jvm.MethodName) prog_27_method_4_code (1 : Nat) (Option.some Jvm.ClassFile.FieldType.byte)).before args0 about1 = true := code_word (m := ⟨6, 1⟩) (meth := k6m1) (c := k6c1) (by decide +kernel) rfl rfl rfl (by decide +kernel)
def codes1 : List Jvm.Cond := [Jvm.Cond.code x code maxLocals ret, Jvm.Cond.code ({ cls := "com/example/mirrorlog/mirrorlog/core/message/Message$Kind", name := "ofTag", desc := "(B)Lcom/example/mirrorlog/mirrorlog/core/message/Message$Kind;" } : Jvm.MethodName) prog_27_method_6_code (5 : Nat) (Option.some (Jvm.ClassFile.FieldType.object "com/example/mirrorlog/mirrorlog/core/message/Message$Kind")), Jvm.Cond.code ({ cls := "com/example/mirrorlog/mirrorlog/core/message/Message$Kind", name := "values", desc := "()[Lcom/example/mirrorlog/mirrorlog/core/message/Message$Kind;" } : Jvm.MethodName) prog_27_method_1_code (0 : Nat) (Option.some (Jvm.ClassFile.FieldType.array (Jvm.ClassFile.FieldType.object "com/example/mirrorlog/mirrorlog/core/message/Message$Kind"))), Jvm.Cond.code ({ cls := "com/example/mirrorlog/mirrorlog/core/message/Message$Kind", name := "tag", desc := "()B" } : Jvm.MethodName) prog_27_method_4_code (1 : Nat) (Option.some Jvm.ClassFile.FieldType.byte)]
set_option maxRecDepth 65536 in
theorem codes_eq : words1.filter isCode = codes1 := rfl
theorem w_codes : ∀ c ∈ words1.filter isCode, c.before args0 about1 = true := by
  rw [codes_eq]
  intro c hc
  simp only [codes1, List.mem_cons, List.not_mem_nil, or_false] at hc
  rcases hc with rfl | rfl | rfl | rfl
  · exact w_c0
  · exact w_c1
  · exact w_c2
  · exact w_c3
set_option maxRecDepth 65536 in
theorem w_t1 : (words1.take 24).all (fun c => isCode c || c.before args0 about1) = true := by decide +kernel
set_option maxRecDepth 65536 in
theorem w_t2 : (words1.drop 24).all (fun c => isCode c || c.before args0 about1) = true := by decide +kernel
theorem w_tables : (allAtoms (Jvm.Cond.code x code maxLocals ret :: tables_1)).before args0 about1 = true := by
  rw [allAtoms_all]
  show words1.all (fun c => c.before args0 about1) = true
  refine all_split ?_ w_codes
  rw [← List.take_append_drop 24 words1, List.all_append, w_t1, w_t2]
  rfl
set_option maxRecDepth 65536 in
theorem w_case : (Jvm.Cond.and given_1 narrow_1).before args0 about1 = true := by decide +kernel
theorem w_applies : (headSpec (Jvm.Cond.code x code maxLocals ret :: tables_1) room_1).applies x e0.platform about1 = true :=
  (Spec.applies_iff w_frames).mpr ⟨w_running, w_runnable, w_alone, w_named, w_hears, w_ripe, w_room, w_tables⟩
theorem atStart : AtStart classFile x code maxLocals ret World_1 tables_1 room_1 Calls_1 rest_1 Pre_1 launch0 p0 e0 about1 theMethod args0 below0 :=
  ⟨lists_1, trivial, launch0.admits_env _ _ _, launch0.least_env, fairChoices_fair.cas, fairChoices_fair.clock, w_frames, w_args, w_heap, w_applies, trivial, trivial, w_case⟩
end start1
theorem witness_1 : WitnessClaimed_1 := ⟨start1.p0, start1.e0, start1.about1, start1.theMethod, start1.args0, start1.below0, start1.atStart⟩
end Jvm.Pilot.@@N@@
