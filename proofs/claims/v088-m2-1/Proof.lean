import JvmDerived
import JvmDerived.Pilot.@@N@@Statement
import JvmDerived.Pilot.@@N@@Code
set_option linter.unusedVariables false
set_option linter.unusedSimpArgs false
namespace Jvm.RoadKit
open Sem ClassFile Op Lib Jvm.Stand Jvm.Free Jvm.LawKit
section New
variable {p : Program} {l : Launch} {e : Env} {R : Room} {s : State} {m : MethodId} {args : Array Value} {below : List Frame} {meth : Method} {c : Code} {T : State} {locs : List Loc} {cells slots : Nat}
theorem retI (X : Stand p l e R s m args below meth c T locs cells slots) (hx : p.tables.exec = Jvm.exec) {pc : Nat} {Ls : Array Slot} {z : Int32} {rest : List Value} (hret : meth.sig.returnType = some .int) (hd : decode c.code pc = .ok (.ireturn, 1)) {fs : List Frame}
    (hl : ∀ (f : JFrame) (acts : List Action), f.method = m → f.locked = none → f.entered = [] → (doReturn e (T.setTop f) acts (some (.int z))).1 = T.setFrames fs) : Steps p.tables e below (T.setTop (mkF m pc Ls (.int z :: rest))) (T.setFrames fs) := by
  have hm' : T.vm.method? m = some meth := X.method'
  have hn : narrow .int (.int z) = .int z := rfl
  show Steps p.tables e below (T.setTop { method := m, pc := pc, locals := Ls, stack := _ :: rest, locked := none }) _
  jvm_step X.here [X.here.top, hx, hd, hm', hret, hn]
  first | (intro acts; rw [hl _ acts rfl rfl rfl]) | rw [hl _ _ rfl rfl rfl]
  exact Steps.refl _
end New
end Jvm.RoadKit
namespace Jvm.Pilot.@@N@@
open Jvm Jvm.ClassFile Sem Op Lib Jvm.Free Jvm.Stand Jvm.LawKit Jvm.RoadKit Bundle Jvm.Pilot.@@N@@.Jvm.D
theorem own_notin {x y : Addr} (h : x ≠ y) : x ∉ [y] := fun q => h (List.mem_singleton.mp q)
theorem own_allge {n b : Nat} (h : n ≤ b) : ∀ x ∈ [b], x ∈ ([] : List Addr) ∨ n ≤ x := fun x hx => Or.inr (by rw [List.mem_singleton.mp hx]; exact h)
theorem own_by (x : Int32) : nar .byte (x.toInt8.toInt32) = x.toInt8.toInt32 := by
  show (x.toInt8.toInt32).toInt8.toInt32 = x.toInt8.toInt32
  rw [Int8.toInt8_toInt32]
theorem own_comp (b : Int32) (hb : nar .byte b = b) : ¬ (b = ((b ^^^ (-1 : Int32)).toInt8.toInt32)) := fun q => by
  have h1 := c_i2b (b ^^^ (-1 : Int32))
  have h2 := c_xor2 b (-1 : Int32)
  have e1 : (-1 : Int32).toInt = -1 := by decide
  rw [← q] at h1
  omega
theorem own_and3 (x : Int32) : (x &&& (3 : Int32)) = (0 : Int32) ∨ (x &&& (3 : Int32)) = (1 : Int32) ∨ (x &&& (3 : Int32)) = (2 : Int32) ∨ (x &&& (3 : Int32)) = (3 : Int32) := by
  have h1 := c_and x (3 : Int32) (by decide)
  have h6 : (3 : Int32).toInt = 3 := by decide
  have e0 : (0 : Int32).toInt = 0 := by decide
  have e1 : (1 : Int32).toInt = 1 := by decide
  have e2 : (2 : Int32).toInt = 2 := by decide
  simp only [← Int32.toInt_inj, e0, e1, e2, h6]
  omega
theorem d2_0 : decode prog_44_method_1_code 0 = .ok (.aload_n 0, 1) := by decide +kernel
theorem d2_1 : decode prog_44_method_1_code 1 = .ok (.invokespecial 1, 3) := by decide +kernel
theorem d2_4 : decode prog_44_method_1_code 4 = .ok (.aload_n 0, 1) := by decide +kernel
theorem d2_5 : decode prog_44_method_1_code 5 = .ok (.aload_n 1, 1) := by decide +kernel
theorem d2_6 : decode prog_44_method_1_code 6 = .ok (.putfield 7, 3) := by decide +kernel
theorem d2_9 : decode prog_44_method_1_code 9 = .ok (.return_, 1) := by decide +kernel
theorem pn_2 : plainName "com/example/mirrorlog/mirrorlog/core/undo/Bytes" = true := by first | (simp [plainName, overriddenIn]; done) | decide +kernel
theorem ef_2 (m : MethodId) (x0 : Addr) (x1 : Addr) : entryFrame m #[(.ref x0), (.ref x1)] 2 = mkF m 0 #[.val (.ref x0), .val (.ref x1)] [] := by first | (simp [entryFrame, mkF, argsToLocals, Value.category]; done) | rfl
def Q2 (Z : State) (a1 : Addr) (a2 : Addr) (u_bytes_a1 : Value) (h0 : Heap) (n0 : Nat) (v : Option Value) (h : Heap) (L : List Loc) : Prop := v = none ∧ Fr n0 L ∧ Keep h0 h [a1] ∧ Exa Z h a1 "com/example/mirrorlog/mirrorlog/core/undo/Bytes" ∧ Fld Z h a1 "com/example/mirrorlog/mirrorlog/core/undo/Bytes" "bytes" "[B" (.ref a2)
set_option maxRecDepth 65536 in
set_option maxHeartbeats 40000000 in
theorem rm2 (l : Launch) (Z : State) (a0 : Array Value) (hw : ∀ d ∈ tables_1, d.before a0 Z = true) (ws : List Jvm.Cond) (a1 : Addr) (a2 : Addr) (u_bytes_a1 : Value) (h0 : Heap) (n0 : Nat) (Z0 : n0 ≤ h0.size) (E_a1 : Exa Z h0 a1 "com/example/mirrorlog/mirrorlog/core/undo/Bytes") (F_bytes_a1 : Fld Z h0 a1 "com/example/mirrorlog/mirrorlog/core/undo/Bytes" "bytes" "[B" u_bytes_a1) (g_a1 : n0 ≤ a1) :
    MetFree l (⟨"com/example/mirrorlog/mirrorlog/core/undo/Bytes", "<init>", "([B)V"⟩ : MethodName) (head1 (Jvm.Cond.code (⟨"com/example/mirrorlog/mirrorlog/core/undo/Bytes", "<init>", "([B)V"⟩ : MethodName) prog_44_method_1_code 2 none :: ws) ({ frames := 1, cells := 0, slots := 0, locals := 12 } : Room)) (fun a U => a = #[(.ref a1), (.ref a2)] ∧ Z.Warmed39 U.vm ∧ U.heap = h0) (fun _ _ _ _ _ => True) (fun _ U o U' => ∃ v L, o = .returned v ∧ Q2 Z a1 a2 u_bytes_a1 h0 n0 v U'.heap L ∧ FrameEnd U o U' L ({ frames := 1, cells := 0, slots := 0, locals := 12 } : Room).cells ({ frames := 1, cells := 0, slots := 0, locals := 12 } : Room).slots) := by
  refine MetFree.of_bodySF (plainFor_of_name pn_2) hisR ?_
  intro p e s m args below meth c s₁ Bd hml0 hP hK
  obtain ⟨rfl, hZ, hh⟩ := hP
  have hx := Bd.exec
  have hby := Bd.bytes
  have hml : c.maxLocals = 2 := hml0
  have hown : s.vm.findClass "com/example/mirrorlog/mirrorlog/core/undo/Bytes" = some m.cls := findClass_of_methodNamed Bd.named
  have hnm := (name_of_methodNamed Bd.named Bd.method).1
  have X0 : Stand p l e ({ frames := 1, cells := 0, slots := 0, locals := 12 } : Room) s m #[(.ref a1), (.ref a2)] below meth c s₁ [] 0 0 := Stand.of_body Bd
  have e0 : s₁.heap = h0 := by rw [← hh, Bd.state]; rfl
  have N0 := Fr.nil n0
  have pre0 : ∀ t, Steps p.tables e below (s₁.setTop (mkF m 0 #[.val (.ref a1), .val (.ref a2)] [])) t → Steps p.tables e below (s₁.setTop (entryFrame m #[(.ref a1), (.ref a2)] 2)) t := fun t k => castTop (ef_2 m a1 a2) k
  obtain ⟨T3, X3, e3, st3⟩ := initO X0 hx hZ hown (hw _ (List.mem_of_getElem? (i := 19) rfl)) (hw _ (List.mem_of_getElem? (i := 20) rfl)) (hw _ (List.mem_of_getElem? (i := 21) rfl)) e0 (g := (mkF m 1 #[.val (.ref a1), .val (.ref a2)] [(.ref a1)])) rfl (by rw [hml]; rfl) rfl (hb hby d2_1) (by decide) (W := 0) (by show 2 * 0 + _ ≤ _; exact Nat.le_of_eq rfl) (by decide)
  obtain ⟨T4, h4, X4, e4, W4, st4⟩ := putF X3 hx hZ hown (host := "") (Or.inl (hw _ (List.mem_of_getElem? (i := 22) rfl))) Via.refl e3 F_bytes_a1 E_a1 (Or.inr ⟨(hw _ (List.mem_of_getElem? (i := 23) rfl)), rfl, hnm⟩) (hw _ (List.mem_of_getElem? (i := 6) rfl)) (ty := (.array .byte)) (by decide) rfl rfl (g := (mkF m 6 #[.val (.ref a1), .val (.ref a2)] [(.ref a2), (.ref a1)])) rfl rfl (hb hby d2_6)
  have Fw4 := F_bytes_a1.same W4
  have K4 : Keep h0 h4 [a1] := (Keep.refl h0 [a1]).wr W4 (Or.inl (List.mem_of_getElem? (i := 0) rfl))
  have N4 := Fr.snoc X4 N0 g_a1
  obtain ⟨fs, hr, hrun, hended, hW, hsame⟩ := X4.leave (v := none) (fun _ => rfl)
  refine ⟨_, _, pre0 _ ?_, hrun, hended, _, _, rfl, ?_, ⟨_, rfl⟩, hW, hsame.mono (by decide) (by decide)⟩
  · show Steps p.tables e below (s₁.setTop (mkF m 0 #[.val (.ref a1), .val (.ref a2)] [])) _
    refine XS.aloadN X0.here hx rfl (hb hby d2_0) rfl rfl ?_
    show Steps p.tables e below (s₁.setTop (mkF m 1 #[.val (.ref a1), .val (.ref a2)] [(.ref a1)])) _
    refine st3 _ ?_
    show Steps p.tables e below (T3.setTop (mkF m 4 #[.val (.ref a1), .val (.ref a2)] [])) _
    refine XS.aloadN X3.here hx rfl (hb hby d2_4) rfl rfl ?_
    show Steps p.tables e below (T3.setTop (mkF m 5 #[.val (.ref a1), .val (.ref a2)] [(.ref a1)])) _
    refine XS.aloadN X3.here hx rfl (hb hby d2_5) rfl rfl ?_
    show Steps p.tables e below (T3.setTop (mkF m 6 #[.val (.ref a1), .val (.ref a2)] [(.ref a2), (.ref a1)])) _
    refine st4 _ ?_
    show Steps p.tables e below (T4.setTop (mkF m 9 #[.val (.ref a1), .val (.ref a2)] [])) _
    exact X4.returnOut hx Bd.returns (hb hby d2_9) hr
  · show Q2 Z a1 a2 u_bytes_a1 h0 n0 _ T4.heap _
    rw [e4]
    exact ⟨rfl, N4, K4, (E_a1.wr W4), Fw4⟩
def QO (Z : State) (k : ClassId) (z : Int32) (vs : List Value) (h0 : Heap) (n0 : Nat) (v : Option Value) (h : Heap) (L : List Loc) : Prop := (∃ r c : Nat, v = some (.ref r) ∧ h0.size ≤ r ∧ h0.size ≤ c ∧ Exa Z h r "com/example/mirrorlog/mirrorlog/core/undo/Bytes" ∧ Fld Z h r "com/example/mirrorlog/mirrorlog/core/undo/Bytes" "bytes" "[B" (.ref c) ∧ Arv Z h c k .byte z vs (.int (0 : Int32)) ∧ Exa Z h c "[B") ∧ Fr n0 L ∧ Keep h0 h []
theorem d1_0 : decode prog_44_method_2_code 0 = .ok (.new 8, 3) := by decide +kernel
theorem d1_3 : decode prog_44_method_2_code 3 = .ok (.dup, 1) := by decide +kernel
theorem d1_4 : decode prog_44_method_2_code 4 = .ok (.aload_n 0, 1) := by decide +kernel
theorem d1_5 : decode prog_44_method_2_code 5 = .ok (.invokevirtual 13, 3) := by decide +kernel
theorem d1_8 : decode prog_44_method_2_code 8 = .ok (.checkcast 14, 3) := by decide +kernel
theorem d1_11 : decode prog_44_method_2_code 11 = .ok (.invokespecial 18, 3) := by decide +kernel
theorem d1_14 : decode prog_44_method_2_code 14 = .ok (.areturn, 1) := by decide +kernel
theorem pn_1 : plainName "com/example/mirrorlog/mirrorlog/core/undo/Bytes" = true := by first | (simp [plainName, overriddenIn]; done) | decide +kernel
theorem pd_1_1 : parseMethodDescriptor "()Ljava/lang/Object;" = some ⟨[], some (.object "java/lang/Object")⟩ := by decide +kernel
theorem pd_1_2 : parseMethodDescriptor "([B)V" = some ⟨[(.array .byte)], none⟩ := by decide +kernel
theorem ef_1 (m : MethodId) (x0 : Addr) : entryFrame m #[(.ref x0)] 1 = mkF m 0 #[.val (.ref x0)] [] := by first | (simp [entryFrame, mkF, argsToLocals, Value.category]; done) | rfl
set_option maxRecDepth 65536 in
set_option maxHeartbeats 40000000 in
theorem rm1 (l : Launch) (Z : State) (a0 : Array Value) (hw : ∀ d ∈ tables_1, d.before a0 Z = true) (ws : List Jvm.Cond) (a1 : Addr) (h0 : Heap) (n0 : Nat) (Z0 : n0 ≤ h0.size) (E_a1 : Exa Z h0 a1 "[B") (k : ClassId) (z : Int32) (vs : List Value) (V_a1 : Arv Z h0 a1 k .byte z vs (.int (0 : Int32))) (hz3 : z.toNatClampNeg ≤ 3) :
    MetFree l (⟨"com/example/mirrorlog/mirrorlog/core/undo/Bytes", "of", "([B)Lcom/example/mirrorlog/mirrorlog/core/undo/Bytes;"⟩ : MethodName) (head1 (Jvm.Cond.code (⟨"com/example/mirrorlog/mirrorlog/core/undo/Bytes", "of", "([B)Lcom/example/mirrorlog/mirrorlog/core/undo/Bytes;"⟩ : MethodName) prog_44_method_2_code 1 (some (.object "com/example/mirrorlog/mirrorlog/core/undo/Bytes")) :: ws) ({ frames := 2, cells := 2, slots := 4, locals := 26 } : Room)) (fun a U => a = #[(.ref a1)] ∧ Z.Warmed39 U.vm ∧ U.heap = h0) (fun _ _ _ _ _ => True) (fun _ U o U' => ∃ v L, o = .returned v ∧ QO Z k z vs h0 n0 v U'.heap L ∧ FrameEnd U o U' L ({ frames := 2, cells := 2, slots := 4, locals := 26 } : Room).cells ({ frames := 2, cells := 2, slots := 4, locals := 26 } : Room).slots) := by
  refine MetFree.of_bodySF (plainFor_of_name pn_1) hisR ?_
  intro p e s m args below meth c s₁ Bd hml0 hP hK
  obtain ⟨rfl, hZ, hh⟩ := hP
  have hx := Bd.exec
  have hby := Bd.bytes
  have hml : c.maxLocals = 1 := hml0
  have hown : s.vm.findClass "com/example/mirrorlog/mirrorlog/core/undo/Bytes" = some m.cls := findClass_of_methodNamed Bd.named
  have hnm := (name_of_methodNamed Bd.named Bd.method).1
  have X0 : Stand p l e ({ frames := 2, cells := 2, slots := 4, locals := 26 } : Room) s m #[(.ref a1)] below meth c s₁ [] 0 0 := Stand.of_body Bd
  have e0 : s₁.heap = h0 := by rw [← hh, Bd.state]; rfl
  have N0 := Fr.nil n0
  have pre0 : ∀ t, Steps p.tables e below (s₁.setTop (mkF m 0 #[.val (.ref a1)] [])) t → Steps p.tables e below (s₁.setTop (entryFrame m #[(.ref a1)] 1)) t := fun t k => castTop (ef_1 m a1) k
  obtain ⟨T2, h2, X2, e2, E2, A2, D2, -, st2⟩ := newO X0 hx hZ hown (hw _ (List.mem_of_getElem? (i := 5) rfl)) (hw _ (List.mem_of_getElem? (i := 6) rfl)) (hw _ (List.mem_of_getElem? (i := 3) rfl)) e0 (g := (mkF m 0 #[.val (.ref a1)] [])) rfl (hb hby d1_0) (by decide) (by decide)
  obtain ⟨b2, g2⟩ : ∃ z, z = h0.size := ⟨_, rfl⟩
  rw [← g2] at A2 D2 st2
  have F_bytes_b2 : Fld Z h2 b2 "com/example/mirrorlog/mirrorlog/core/undo/Bytes" "bytes" "[B" .null := D2 (Or.inr (hw _ (List.mem_of_getElem? (i := 23) rfl))) (ty := (.array .byte)) (by decide)
  have E_b2 := A2
  have g_b2 : n0 ≤ b2 := Nat.le_trans Z0 (Nat.le_of_eq g2.symm)
  have sz_b2 : h0.size ≤ b2 := (Nat.le_trans (Keep.refl h0 []).1 (Nat.le_of_eq g2.symm))
  have K2 : Keep h0 h2 [] := (Keep.refl h0 []).ext E2
  obtain ⟨T3, h3, X3, e3, E3, V3, Y3, st3⟩ := cloneH X2 hx hZ hown (hw _ (List.mem_of_getElem? (i := 7) rfl)) (hw _ (List.mem_of_getElem? (i := 8) rfl)) (hw _ (List.mem_of_getElem? (i := 12) rfl)) (hw _ (List.mem_of_getElem? (i := 10) rfl)) (hw _ (List.mem_of_getElem? (i := 11) rfl)) (hw _ (List.mem_of_getElem? (i := 13) rfl)) e2 (V_a1.ext E2).arh (E_a1.ext E2) (g := (mkF m 5 #[.val (.ref a1)] [(.ref a1), (.ref b2), (.ref b2)])) rfl (by rw [hml]; rfl) rfl (hb hby d1_5) (by decide) (W := 2) (cap := 3) (by show 2 * 0 + _ ≤ _; exact Nat.le_of_eq rfl) (by decide) hz3 (by decide) (by decide)
  obtain ⟨b3, g3⟩ : ∃ z, z = h2.size := ⟨_, rfl⟩
  rw [← g3] at V3 Y3 st3
  have n_b2_b3 : b2 ≠ b3 := Nat.ne_of_lt (by rw [g3]; exact E_b2.lt)
  obtain ⟨T4, X4, e4, st4⟩ := castY X3 hx hZ hown (hw _ (List.mem_of_getElem? (i := 14) rfl)) e3 (Ins.self Y3) (g := (mkF m 8 #[.val (.ref a1)] [(.ref b3), (.ref b2), (.ref b2)])) rfl rfl (hb hby d1_8)
  obtain ⟨_, _, ⟨T5, L5, k5, n5⟩, -, X5, ⟨Lc5, hQ5, l5, y5, z5⟩, st5⟩ := X4.specialBack hx (y := (⟨"com/example/mirrorlog/mirrorlog/core/undo/Bytes", "<init>", "([B)V"⟩ : MethodName)) rfl hown (mvT hZ (hw _ (List.mem_of_getElem? (i := 16) rfl))) (mvT hZ (hw _ (List.mem_of_getElem? (i := 17) rfl))) (mvT hZ (hw _ (List.mem_of_getElem? (i := 18) rfl))) (by decide) (backOf (W := 1) (rm2 l Z a0 hw [] b2 b3 _ h3 n0 (Nat.le_trans (Nat.le_trans Z0 E2.1) E3.1) (E_b2.ext E3) (F_bytes_b2.ext E3) g_b2) hZ (hw _ (List.mem_of_getElem? (i := 18) rfl)) (hw _ (List.mem_of_getElem? (i := 3) rfl)) (by decide) (by decide)) (g := (mkF m 11 #[.val (.ref a1)] [(.ref b3), (.ref b2), (.ref b2)])) rfl (by rw [hml]; rfl) (Steps.refl _) (a := b2) (argsL := [(.ref b3)]) (rest := [(.ref b2)]) (lenOf pd_1_2 rfl) rfl (by show 2 * 0 + _ ≤ _; exact Nat.le_of_eq rfl) (hb hby d1_11) (fun _ _ => ⟨rfl, e4, (by decide : 2 + 0 ≤ _), (by decide : 4 + 0 ≤ _)⟩)
  dsimp only [Pt.U, Pt.locs, Pt.cells, Pt.slots] at X5 l5 y5 z5 st5 hQ5
  subst l5 y5 z5
  obtain ⟨rfl, N5q, Kc, Yc, Fc⟩ := hQ5
  have N5 := Fr.app N0 N5q
  obtain ⟨fs, hr, hrun, hended, hW, hsame⟩ := X5.leave (v := some (.ref b2)) (fun h => by rw [Bd.returns] at h; cases h)
  refine ⟨_, _, pre0 _ ?_, hrun, hended, _, _, rfl, ?_, ⟨_, rfl⟩, hW, hsame.mono (by decide) (by decide)⟩
  · show Steps p.tables e below (s₁.setTop (mkF m 0 #[.val (.ref a1)] [])) _
    refine st2 _ ?_
    show Steps p.tables e below (T2.setTop (mkF m 3 #[.val (.ref a1)] [(.ref b2)])) _
    refine XS.dup X2.here hx rfl (hb hby d1_3) rfl rfl ?_
    show Steps p.tables e below (T2.setTop (mkF m 4 #[.val (.ref a1)] [(.ref b2), (.ref b2)])) _
    refine XS.aloadN X2.here hx rfl (hb hby d1_4) rfl rfl ?_
    show Steps p.tables e below (T2.setTop (mkF m 5 #[.val (.ref a1)] [(.ref a1), (.ref b2), (.ref b2)])) _
    refine st3 _ ?_
    show Steps p.tables e below (T3.setTop (mkF m 8 #[.val (.ref a1)] [(.ref b3), (.ref b2), (.ref b2)])) _
    refine st4 _ ?_
    show Steps p.tables e below (T4.setTop (mkF m 11 #[.val (.ref a1)] [(.ref b3), (.ref b2), (.ref b2)])) _
    refine st5.trans ?_
    show Steps p.tables e below (T5.setTop (mkF m 14 #[.val (.ref a1)] [(.ref b2)])) _
    jvm_step X5.here [X5.here.top, hx, (hb hby d1_14), X5.method', Bd.returns, Value.isRef, FieldType.isReference]
    first | (intro acts; rw [hr _ acts rfl rfl rfl]) | rw [hr _ _ rfl rfl rfl]
    exact Steps.refl _
  · show QO Z k z vs h0 n0 _ T5.heap _
    exact ⟨⟨b2, b3, rfl, sz_b2, by rw [g3]; exact E2.1, Yc, Fc, Arv.keep V3 Kc (own_notin (Ne.symm n_b2_b3)), Y3.keep Kc⟩, N5, (K2.ext E3).trans Kc (own_allge sz_b2)⟩
def QT (Z : State) (k : ClassId) (z : Int32) (vs : List Value) (h0 : Heap) (n0 : Nat) (v : Option Value) (h : Heap) (L : List Loc) : Prop := (∃ o : Addr, v = some (.ref o) ∧ Arv Z h o k .byte z vs (.int (0 : Int32))) ∧ Fr n0 L ∧ Keep h0 h []
theorem d4_0 : decode prog_44_method_4_code 0 = .ok (.aload_n 0, 1) := by decide +kernel
theorem d4_1 : decode prog_44_method_4_code 1 = .ok (.getfield 7, 3) := by decide +kernel
theorem d4_4 : decode prog_44_method_4_code 4 = .ok (.invokevirtual 13, 3) := by decide +kernel
theorem d4_7 : decode prog_44_method_4_code 7 = .ok (.checkcast 14, 3) := by decide +kernel
theorem d4_10 : decode prog_44_method_4_code 10 = .ok (.areturn, 1) := by decide +kernel
theorem pn_4 : plainName "com/example/mirrorlog/mirrorlog/core/undo/Bytes" = true := by first | (simp [plainName, overriddenIn]; done) | decide +kernel
theorem pd_4_1 : parseMethodDescriptor "()Ljava/lang/Object;" = some ⟨[], some (.object "java/lang/Object")⟩ := by decide +kernel
theorem ef_4 (m : MethodId) (x0 : Addr) : entryFrame m #[(.ref x0)] 1 = mkF m 0 #[.val (.ref x0)] [] := by first | (simp [entryFrame, mkF, argsToLocals, Value.category]; done) | rfl
set_option maxRecDepth 65536 in
set_option maxHeartbeats 40000000 in
theorem rm4 (l : Launch) (Z : State) (a0 : Array Value) (hw : ∀ d ∈ tables_1, d.before a0 Z = true) (ws : List Jvm.Cond) (a1 : Addr) (w2 : Addr) (h0 : Heap) (n0 : Nat) (Z0 : n0 ≤ h0.size) (F_bytes_a1 : Fld Z h0 a1 "com/example/mirrorlog/mirrorlog/core/undo/Bytes" "bytes" "[B" (.ref w2)) (E_w2 : Exa Z h0 w2 "[B") (k : ClassId) (z : Int32) (vs : List Value) (V_w2 : Arv Z h0 w2 k .byte z vs (.int (0 : Int32))) (hz3 : z.toNatClampNeg ≤ 3) :
    MetFree l (⟨"com/example/mirrorlog/mirrorlog/core/undo/Bytes", "toArray", "()[B"⟩ : MethodName) (head1 (Jvm.Cond.code (⟨"com/example/mirrorlog/mirrorlog/core/undo/Bytes", "toArray", "()[B"⟩ : MethodName) prog_44_method_4_code 1 (some (.array .byte)) :: ws) ({ frames := 1, cells := 1, slots := 3, locals := 14 } : Room)) (fun a U => a = #[(.ref a1)] ∧ Z.Warmed39 U.vm ∧ U.heap = h0) (fun _ _ _ _ _ => True) (fun _ U o U' => ∃ v L, o = .returned v ∧ QT Z k z vs h0 n0 v U'.heap L ∧ FrameEnd U o U' L ({ frames := 1, cells := 1, slots := 3, locals := 14 } : Room).cells ({ frames := 1, cells := 1, slots := 3, locals := 14 } : Room).slots) := by
  refine MetFree.of_bodySF (plainFor_of_name pn_4) hisR ?_
  intro p e s m args below meth c s₁ Bd hml0 hP hK
  obtain ⟨rfl, hZ, hh⟩ := hP
  have hx := Bd.exec
  have hby := Bd.bytes
  have hml : c.maxLocals = 1 := hml0
  have hown : s.vm.findClass "com/example/mirrorlog/mirrorlog/core/undo/Bytes" = some m.cls := findClass_of_methodNamed Bd.named
  have hnm := (name_of_methodNamed Bd.named Bd.method).1
  have X0 : Stand p l e ({ frames := 1, cells := 1, slots := 3, locals := 14 } : Room) s m #[(.ref a1)] below meth c s₁ [] 0 0 := Stand.of_body Bd
  have e0 : s₁.heap = h0 := by rw [← hh, Bd.state]; rfl
  have N0 := Fr.nil n0
  have pre0 : ∀ t, Steps p.tables e below (s₁.setTop (mkF m 0 #[.val (.ref a1)] [])) t → Steps p.tables e below (s₁.setTop (entryFrame m #[(.ref a1)] 1)) t := fun t k => castTop (ef_4 m a1) k
  obtain ⟨T3, X3, e3, st3⟩ := getF X0 hx hZ hown (host := "") (Or.inl (hw _ (List.mem_of_getElem? (i := 22) rfl))) Via.refl e0 F_bytes_a1 (g := (mkF m 1 #[.val (.ref a1)] [(.ref a1)])) rfl rfl (hb hby d4_1)
  obtain ⟨T4, h4, X4, e4, E4, V4, Y4, st4⟩ := cloneH X3 hx hZ hown (hw _ (List.mem_of_getElem? (i := 7) rfl)) (hw _ (List.mem_of_getElem? (i := 8) rfl)) (hw _ (List.mem_of_getElem? (i := 12) rfl)) (hw _ (List.mem_of_getElem? (i := 10) rfl)) (hw _ (List.mem_of_getElem? (i := 11) rfl)) (hw _ (List.mem_of_getElem? (i := 13) rfl)) e3 V_w2.arh E_w2 (g := (mkF m 4 #[.val (.ref a1)] [(.ref w2)])) rfl (by rw [hml]; rfl) rfl (hb hby d4_4) (by decide) (W := 0) (cap := 3) (by show 2 * 0 + _ ≤ _; exact Nat.le_of_eq rfl) (by decide) hz3 (by decide) (by decide)
  obtain ⟨b4, g4⟩ : ∃ z, z = h0.size := ⟨_, rfl⟩
  rw [← g4] at V4 Y4 st4
  obtain ⟨T5, X5, e5, st5⟩ := castY X4 hx hZ hown (hw _ (List.mem_of_getElem? (i := 14) rfl)) e4 (Ins.self Y4) (g := (mkF m 7 #[.val (.ref a1)] [(.ref b4)])) rfl rfl (hb hby d4_7)
  obtain ⟨fs, hr, hrun, hended, hW, hsame⟩ := X5.leave (v := some (.ref b4)) (fun h => by rw [Bd.returns] at h; cases h)
  refine ⟨_, _, pre0 _ ?_, hrun, hended, _, _, rfl, ?_, ⟨_, rfl⟩, hW, hsame.mono (by decide) (by decide)⟩
  · show Steps p.tables e below (s₁.setTop (mkF m 0 #[.val (.ref a1)] [])) _
    refine XS.aloadN X0.here hx rfl (hb hby d4_0) rfl rfl ?_
    show Steps p.tables e below (s₁.setTop (mkF m 1 #[.val (.ref a1)] [(.ref a1)])) _
    refine st3 _ ?_
    show Steps p.tables e below (T3.setTop (mkF m 4 #[.val (.ref a1)] [(.ref w2)])) _
    refine st4 _ ?_
    show Steps p.tables e below (T4.setTop (mkF m 7 #[.val (.ref a1)] [(.ref b4)])) _
    refine st5 _ ?_
    show Steps p.tables e below (T5.setTop (mkF m 10 #[.val (.ref a1)] [(.ref b4)])) _
    jvm_step X5.here [X5.here.top, hx, (hb hby d4_10), X5.method', Bd.returns, Value.isRef, FieldType.isReference]
    first | (intro acts; rw [hr _ acts rfl rfl rfl]) | rw [hr _ _ rfl rfl rfl]
    exact Steps.refl _
  · show QT Z k z vs h0 n0 _ T5.heap _
    rw [e5]
    exact ⟨⟨b4, rfl, V4⟩, N0, (Keep.refl h0 []).ext E4⟩
def QF (val : Int32) (h0 : Heap) (n0 : Nat) (v : Option Value) (h : Heap) (L : List Loc) : Prop := v = some (.int val) ∧ Fr n0 L ∧ h = h0
theorem d7_0 : decode jdk_48_method_13_code 0 = .ok (.iconst 0, 1) := by decide +kernel
theorem d7_1 : decode jdk_48_method_13_code 1 = .ok (.istore_n 3, 1) := by decide +kernel
theorem d7_2 : decode jdk_48_method_13_code 2 = .ok (.iload_n 2, 1) := by decide +kernel
theorem d7_3 : decode jdk_48_method_13_code 3 = .ok (.bipush 7, 2) := by decide +kernel
theorem d7_5 : decode jdk_48_method_13_code 5 = .ok (.if_icmp .le 44, 3) := by decide +kernel
theorem d7_49 : decode jdk_48_method_13_code 49 = .ok (.iload_n 3, 1) := by decide +kernel
theorem d7_50 : decode jdk_48_method_13_code 50 = .ok (.iload_n 2, 1) := by decide +kernel
theorem d7_51 : decode jdk_48_method_13_code 51 = .ok (.if_icmp .ge 20, 3) := by decide +kernel
theorem d7_71 : decode jdk_48_method_13_code 71 = .ok (.iconst (-1), 1) := by decide +kernel
theorem d7_72 : decode jdk_48_method_13_code 72 = .ok (.ireturn, 1) := by decide +kernel
theorem pn_7 : plainName "jdk/internal/util/ArraysSupport" = true := by first | (simp [plainName, overriddenIn]; done) | decide +kernel
theorem ef_7 (m : MethodId) (x0 : Addr) (x1 : Addr) (x2 : Int32) : entryFrame m #[(.ref x0), (.ref x1), (.int x2)] 4 = mkF m 0 #[.val (.ref x0), .val (.ref x1), .val (.int x2), .unset] [] := by first | (simp [entryFrame, mkF, argsToLocals, Value.category]; done) | rfl
set_option maxRecDepth 65536 in
set_option maxHeartbeats 40000000 in
theorem rm7e0 (l : Launch) (Z : State) (a0 : Array Value) (hw : ∀ d ∈ tables_1, d.before a0 Z = true) (ws : List Jvm.Cond) (a1 : Addr) (a2 : Addr) (p3 : Int32) (h0 : Heap) (n0 : Nat) (Z0 : n0 ≤ h0.size) (hc5 : ¬ ((7 : Int32) < p3)) (hc51 : ¬ ((0 : Int32) < p3)) :
    MetFree l (⟨"jdk/internal/util/ArraysSupport", "mismatch", "([B[BI)I"⟩ : MethodName) (head1 (Jvm.Cond.code (⟨"jdk/internal/util/ArraysSupport", "mismatch", "([B[BI)I"⟩ : MethodName) jdk_48_method_13_code 4 (some .int) :: ws) ({ frames := 0, cells := 0, slots := 0, locals := 0 } : Room)) (fun a U => a = #[(.ref a1), (.ref a2), (.int p3)] ∧ Z.Warmed39 U.vm ∧ U.heap = h0) (fun _ _ _ _ _ => True) (fun _ U o U' => ∃ v L, o = .returned v ∧ QF (-1 : Int32) h0 n0 v U'.heap L ∧ FrameEnd U o U' L ({ frames := 0, cells := 0, slots := 0, locals := 0 } : Room).cells ({ frames := 0, cells := 0, slots := 0, locals := 0 } : Room).slots) := by
  refine MetFree.of_bodySF (plainFor_of_name pn_7) hisR ?_
  intro p e s m args below meth c s₁ Bd hml0 hP hK
  obtain ⟨rfl, hZ, hh⟩ := hP
  have hx := Bd.exec
  have hby := Bd.bytes
  have hml : c.maxLocals = 4 := hml0
  have hown : s.vm.findClass "jdk/internal/util/ArraysSupport" = some m.cls := findClass_of_methodNamed Bd.named
  have hnm := (name_of_methodNamed Bd.named Bd.method).1
  have X0 : Stand p l e ({ frames := 0, cells := 0, slots := 0, locals := 0 } : Room) s m #[(.ref a1), (.ref a2), (.int p3)] below meth c s₁ [] 0 0 := Stand.of_body Bd
  have e0 : s₁.heap = h0 := by rw [← hh, Bd.state]; rfl
  have N0 := Fr.nil n0
  have pre0 : ∀ t, Steps p.tables e below (s₁.setTop (mkF m 0 #[.val (.ref a1), .val (.ref a2), .val (.int p3), .unset] [])) t → Steps p.tables e below (s₁.setTop (entryFrame m #[(.ref a1), (.ref a2), (.int p3)] 4)) t := fun t k => castTop (ef_7 m a1 a2 p3) k
  obtain ⟨fs, hr, hrun, hended, hW, hsame⟩ := X0.leave (v := some (.int (-1 : Int32))) (fun h => by rw [Bd.returns] at h; cases h)
  refine ⟨_, _, pre0 _ ?_, hrun, hended, _, _, rfl, ?_, ⟨_, rfl⟩, hW, hsame.mono (by decide) (by decide)⟩
  · show Steps p.tables e below (s₁.setTop (mkF m 0 #[.val (.ref a1), .val (.ref a2), .val (.int p3), .unset] [])) _
    refine XS.iconst X0.here hx rfl (hb hby d7_0) ?_
    show Steps p.tables e below (s₁.setTop (mkF m 1 #[.val (.ref a1), .val (.ref a2), .val (.int p3), .unset] [(.int (0 : Int32))])) _
    refine XS.istoreN X0.here hx rfl (hb hby d7_1) rfl (l' := #[.val (.ref a1), .val (.ref a2), .val (.int p3), .val (.int (0 : Int32))]) rfl ?_
    show Steps p.tables e below (s₁.setTop (mkF m 2 #[.val (.ref a1), .val (.ref a2), .val (.int p3), .val (.int (0 : Int32))] [])) _
    refine XS.iloadN X0.here hx rfl (hb hby d7_2) rfl ?_
    show Steps p.tables e below (s₁.setTop (mkF m 3 #[.val (.ref a1), .val (.ref a2), .val (.int p3), .val (.int (0 : Int32))] [(.int p3)])) _
    refine XS.bipush X0.here hx rfl (hb hby d7_3) ?_
    show Steps p.tables e below (s₁.setTop (mkF m 5 #[.val (.ref a1), .val (.ref a2), .val (.int p3), .val (.int (0 : Int32))] [(.int (7 : Int32)), (.int p3)])) _
    refine XS.icmpYes X0.here hx rfl (pc0 := 5) (pc' := 49) rfl (hb hby d7_5) rfl (flt hc5).2.2.2 (by decide) (by decide) ?_
    show Steps p.tables e below (s₁.setTop (mkF m 49 #[.val (.ref a1), .val (.ref a2), .val (.int p3), .val (.int (0 : Int32))] [])) _
    refine XS.iloadN X0.here hx rfl (hb hby d7_49) rfl ?_
    show Steps p.tables e below (s₁.setTop (mkF m 50 #[.val (.ref a1), .val (.ref a2), .val (.int p3), .val (.int (0 : Int32))] [(.int (0 : Int32))])) _
    refine XS.iloadN X0.here hx rfl (hb hby d7_50) rfl ?_
    show Steps p.tables e below (s₁.setTop (mkF m 51 #[.val (.ref a1), .val (.ref a2), .val (.int p3), .val (.int (0 : Int32))] [(.int p3), (.int (0 : Int32))])) _
    refine XS.icmpYes X0.here hx rfl (pc0 := 51) (pc' := 71) rfl (hb hby d7_51) rfl (flt hc51).2.1 (by decide) (by decide) ?_
    show Steps p.tables e below (s₁.setTop (mkF m 71 #[.val (.ref a1), .val (.ref a2), .val (.int p3), .val (.int (0 : Int32))] [])) _
    refine XS.iconst X0.here hx rfl (hb hby d7_71) ?_
    show Steps p.tables e below (s₁.setTop (mkF m 72 #[.val (.ref a1), .val (.ref a2), .val (.int p3), .val (.int (0 : Int32))] [(.int (-1 : Int32))])) _
    exact retI X0 hx Bd.returns (hb hby d7_72) hr
  · show QF (-1 : Int32) h0 n0 _ s₁.heap _
    rw [e0]
    exact ⟨rfl, N0, rfl⟩
theorem d7_54 : decode jdk_48_method_13_code 54 = .ok (.aload_n 0, 1) := by decide +kernel
theorem d7_55 : decode jdk_48_method_13_code 55 = .ok (.iload_n 3, 1) := by decide +kernel
theorem d7_56 : decode jdk_48_method_13_code 56 = .ok (.baload, 1) := by decide +kernel
theorem d7_57 : decode jdk_48_method_13_code 57 = .ok (.aload_n 1, 1) := by decide +kernel
theorem d7_58 : decode jdk_48_method_13_code 58 = .ok (.iload_n 3, 1) := by decide +kernel
theorem d7_59 : decode jdk_48_method_13_code 59 = .ok (.baload, 1) := by decide +kernel
theorem d7_60 : decode jdk_48_method_13_code 60 = .ok (.if_icmp .eq 5, 3) := by decide +kernel
theorem d7_65 : decode jdk_48_method_13_code 65 = .ok (.iinc 3 1, 3) := by decide +kernel
theorem d7_68 : decode jdk_48_method_13_code 68 = .ok (.goto (-19), 3) := by decide +kernel
set_option maxRecDepth 65536 in
set_option maxHeartbeats 40000000 in
theorem rm7e1 (l : Launch) (Z : State) (a0 : Array Value) (hw : ∀ d ∈ tables_1, d.before a0 Z = true) (ws : List Jvm.Cond) (a1 : Addr) (a2 : Addr) (p3 : Int32) (w4 : Int32) (cl_a1 : Cell) (w5 : Int32) (cl_a2 : Cell) (h0 : Heap) (n0 : Nat) (Z0 : n0 ≤ h0.size) (Ar_a1 : Arr Z h0 a1 cl_a1 .byte) (hin56 : ¬ ((0 : Int32) < 0 ∨ cl_a1.slots.size ≤ ((0 : Int32)).toNatClampNeg)) (hat56 : cl_a1.slots[((0 : Int32)).toNatClampNeg]? = some (.int w4)) (Ar_a2 : Arr Z h0 a2 cl_a2 .byte) (hin59 : ¬ ((0 : Int32) < 0 ∨ cl_a2.slots.size ≤ ((0 : Int32)).toNatClampNeg)) (hat59 : cl_a2.slots[((0 : Int32)).toNatClampNeg]? = some (.int w5)) (hc5 : ¬ ((7 : Int32) < p3)) (hc51 : (0 : Int32) < p3) (hc60 : w4 = w5) (hc51_2 : ¬ (((0 : Int32) + (1 : Int32)) < p3)) :
    MetFree l (⟨"jdk/internal/util/ArraysSupport", "mismatch", "([B[BI)I"⟩ : MethodName) (head1 (Jvm.Cond.code (⟨"jdk/internal/util/ArraysSupport", "mismatch", "([B[BI)I"⟩ : MethodName) jdk_48_method_13_code 4 (some .int) :: ws) ({ frames := 0, cells := 0, slots := 0, locals := 0 } : Room)) (fun a U => a = #[(.ref a1), (.ref a2), (.int p3)] ∧ Z.Warmed39 U.vm ∧ U.heap = h0) (fun _ _ _ _ _ => True) (fun _ U o U' => ∃ v L, o = .returned v ∧ QF (-1 : Int32) h0 n0 v U'.heap L ∧ FrameEnd U o U' L ({ frames := 0, cells := 0, slots := 0, locals := 0 } : Room).cells ({ frames := 0, cells := 0, slots := 0, locals := 0 } : Room).slots) := by
  refine MetFree.of_bodySF (plainFor_of_name pn_7) hisR ?_
  intro p e s m args below meth c s₁ Bd hml0 hP hK
  obtain ⟨rfl, hZ, hh⟩ := hP
  have hx := Bd.exec
  have hby := Bd.bytes
  have hml : c.maxLocals = 4 := hml0
  have hown : s.vm.findClass "jdk/internal/util/ArraysSupport" = some m.cls := findClass_of_methodNamed Bd.named
  have hnm := (name_of_methodNamed Bd.named Bd.method).1
  have X0 : Stand p l e ({ frames := 0, cells := 0, slots := 0, locals := 0 } : Room) s m #[(.ref a1), (.ref a2), (.int p3)] below meth c s₁ [] 0 0 := Stand.of_body Bd
  have e0 : s₁.heap = h0 := by rw [← hh, Bd.state]; rfl
  have N0 := Fr.nil n0
  have pre0 : ∀ t, Steps p.tables e below (s₁.setTop (mkF m 0 #[.val (.ref a1), .val (.ref a2), .val (.int p3), .unset] [])) t → Steps p.tables e below (s₁.setTop (entryFrame m #[(.ref a1), (.ref a2), (.int p3)] 4)) t := fun t k => castTop (ef_7 m a1 a2 p3) k
  obtain ⟨fs, hr, hrun, hended, hW, hsame⟩ := X0.leave (v := some (.int (-1 : Int32))) (fun h => by rw [Bd.returns] at h; cases h)
  refine ⟨_, _, pre0 _ ?_, hrun, hended, _, _, rfl, ?_, ⟨_, rfl⟩, hW, hsame.mono (by decide) (by decide)⟩
  · show Steps p.tables e below (s₁.setTop (mkF m 0 #[.val (.ref a1), .val (.ref a2), .val (.int p3), .unset] [])) _
    refine XS.iconst X0.here hx rfl (hb hby d7_0) ?_
    show Steps p.tables e below (s₁.setTop (mkF m 1 #[.val (.ref a1), .val (.ref a2), .val (.int p3), .unset] [(.int (0 : Int32))])) _
    refine XS.istoreN X0.here hx rfl (hb hby d7_1) rfl (l' := #[.val (.ref a1), .val (.ref a2), .val (.int p3), .val (.int (0 : Int32))]) rfl ?_
    show Steps p.tables e below (s₁.setTop (mkF m 2 #[.val (.ref a1), .val (.ref a2), .val (.int p3), .val (.int (0 : Int32))] [])) _
    refine XS.iloadN X0.here hx rfl (hb hby d7_2) rfl ?_
    show Steps p.tables e below (s₁.setTop (mkF m 3 #[.val (.ref a1), .val (.ref a2), .val (.int p3), .val (.int (0 : Int32))] [(.int p3)])) _
    refine XS.bipush X0.here hx rfl (hb hby d7_3) ?_
    show Steps p.tables e below (s₁.setTop (mkF m 5 #[.val (.ref a1), .val (.ref a2), .val (.int p3), .val (.int (0 : Int32))] [(.int (7 : Int32)), (.int p3)])) _
    refine XS.icmpYes X0.here hx rfl (pc0 := 5) (pc' := 49) rfl (hb hby d7_5) rfl (flt hc5).2.2.2 (by decide) (by decide) ?_
    show Steps p.tables e below (s₁.setTop (mkF m 49 #[.val (.ref a1), .val (.ref a2), .val (.int p3), .val (.int (0 : Int32))] [])) _
    refine XS.iloadN X0.here hx rfl (hb hby d7_49) rfl ?_
    show Steps p.tables e below (s₁.setTop (mkF m 50 #[.val (.ref a1), .val (.ref a2), .val (.int p3), .val (.int (0 : Int32))] [(.int (0 : Int32))])) _
    refine XS.iloadN X0.here hx rfl (hb hby d7_50) rfl ?_
    show Steps p.tables e below (s₁.setTop (mkF m 51 #[.val (.ref a1), .val (.ref a2), .val (.int p3), .val (.int (0 : Int32))] [(.int p3), (.int (0 : Int32))])) _
    refine XS.icmpNo X0.here hx rfl (hb hby d7_51) rfl (tlt hc51).2.1 ?_
    show Steps p.tables e below (s₁.setTop (mkF m 54 #[.val (.ref a1), .val (.ref a2), .val (.int p3), .val (.int (0 : Int32))] [])) _
    refine XS.aloadN X0.here hx rfl (hb hby d7_54) rfl rfl ?_
    show Steps p.tables e below (s₁.setTop (mkF m 55 #[.val (.ref a1), .val (.ref a2), .val (.int p3), .val (.int (0 : Int32))] [(.ref a1)])) _
    refine XS.iloadN X0.here hx rfl (hb hby d7_55) rfl ?_
    show Steps p.tables e below (s₁.setTop (mkF m 56 #[.val (.ref a1), .val (.ref a2), .val (.int p3), .val (.int (0 : Int32))] [(.int (0 : Int32)), (.ref a1)])) _
    refine X0.baloadBytes hx (j := (0 : Int32)) (v := (.int w4)) (by rw [e0]; exact Ar_a1.1) (State.isArrayOf_alike hZ.alike Ar_a1.2.1) Ar_a1.2.2 hin56 hat56 (g := (mkF m 56 #[.val (.ref a1), .val (.ref a2), .val (.int p3), .val (.int (0 : Int32))] [(.int (0 : Int32)), (.ref a1)])) rfl rfl (hb hby d7_56) _ ?_
    show Steps p.tables e below (s₁.setTop (mkF m 57 #[.val (.ref a1), .val (.ref a2), .val (.int p3), .val (.int (0 : Int32))] [(.int w4)])) _
    refine XS.aloadN X0.here hx rfl (hb hby d7_57) rfl rfl ?_
    show Steps p.tables e below (s₁.setTop (mkF m 58 #[.val (.ref a1), .val (.ref a2), .val (.int p3), .val (.int (0 : Int32))] [(.ref a2), (.int w4)])) _
    refine XS.iloadN X0.here hx rfl (hb hby d7_58) rfl ?_
    show Steps p.tables e below (s₁.setTop (mkF m 59 #[.val (.ref a1), .val (.ref a2), .val (.int p3), .val (.int (0 : Int32))] [(.int (0 : Int32)), (.ref a2), (.int w4)])) _
    refine X0.baloadBytes hx (j := (0 : Int32)) (v := (.int w5)) (by rw [e0]; exact Ar_a2.1) (State.isArrayOf_alike hZ.alike Ar_a2.2.1) Ar_a2.2.2 hin59 hat59 (g := (mkF m 59 #[.val (.ref a1), .val (.ref a2), .val (.int p3), .val (.int (0 : Int32))] [(.int (0 : Int32)), (.ref a2), (.int w4)])) rfl rfl (hb hby d7_59) _ ?_
    show Steps p.tables e below (s₁.setTop (mkF m 60 #[.val (.ref a1), .val (.ref a2), .val (.int p3), .val (.int (0 : Int32))] [(.int w5), (.int w4)])) _
    refine XS.icmpYes X0.here hx rfl (pc0 := 60) (pc' := 65) rfl (hb hby d7_60) rfl (teq hc60).1 (by decide) (by decide) ?_
    show Steps p.tables e below (s₁.setTop (mkF m 65 #[.val (.ref a1), .val (.ref a2), .val (.int p3), .val (.int (0 : Int32))] [])) _
    refine XS.iinc X0.here hx rfl (hb hby d7_65) rfl (l' := #[.val (.ref a1), .val (.ref a2), .val (.int p3), .val (.int ((0 : Int32) + (1 : Int32)))]) rfl ?_
    show Steps p.tables e below (s₁.setTop (mkF m 68 #[.val (.ref a1), .val (.ref a2), .val (.int p3), .val (.int ((0 : Int32) + (1 : Int32)))] [])) _
    refine XS.goto X0.here hx rfl (pc0 := 68) (pc' := 49) rfl (hb hby d7_68) (by decide) (by decide) ?_
    show Steps p.tables e below (s₁.setTop (mkF m 49 #[.val (.ref a1), .val (.ref a2), .val (.int p3), .val (.int ((0 : Int32) + (1 : Int32)))] [])) _
    refine XS.iloadN X0.here hx rfl (hb hby d7_49) rfl ?_
    show Steps p.tables e below (s₁.setTop (mkF m 50 #[.val (.ref a1), .val (.ref a2), .val (.int p3), .val (.int ((0 : Int32) + (1 : Int32)))] [(.int ((0 : Int32) + (1 : Int32)))])) _
    refine XS.iloadN X0.here hx rfl (hb hby d7_50) rfl ?_
    show Steps p.tables e below (s₁.setTop (mkF m 51 #[.val (.ref a1), .val (.ref a2), .val (.int p3), .val (.int ((0 : Int32) + (1 : Int32)))] [(.int p3), (.int ((0 : Int32) + (1 : Int32)))])) _
    refine XS.icmpYes X0.here hx rfl (pc0 := 51) (pc' := 71) rfl (hb hby d7_51) rfl (flt hc51_2).2.1 (by decide) (by decide) ?_
    show Steps p.tables e below (s₁.setTop (mkF m 71 #[.val (.ref a1), .val (.ref a2), .val (.int p3), .val (.int ((0 : Int32) + (1 : Int32)))] [])) _
    refine XS.iconst X0.here hx rfl (hb hby d7_71) ?_
    show Steps p.tables e below (s₁.setTop (mkF m 72 #[.val (.ref a1), .val (.ref a2), .val (.int p3), .val (.int ((0 : Int32) + (1 : Int32)))] [(.int (-1 : Int32))])) _
    exact retI X0 hx Bd.returns (hb hby d7_72) hr
  · show QF (-1 : Int32) h0 n0 _ s₁.heap _
    rw [e0]
    exact ⟨rfl, N0, rfl⟩
set_option maxRecDepth 65536 in
set_option maxHeartbeats 40000000 in
theorem rm7e2 (l : Launch) (Z : State) (a0 : Array Value) (hw : ∀ d ∈ tables_1, d.before a0 Z = true) (ws : List Jvm.Cond) (a1 : Addr) (a2 : Addr) (p3 : Int32) (w4 : Int32) (cl_a1 : Cell) (w5 : Int32) (cl_a2 : Cell) (w6 : Int32) (w7 : Int32) (h0 : Heap) (n0 : Nat) (Z0 : n0 ≤ h0.size) (Ar_a1 : Arr Z h0 a1 cl_a1 .byte) (hin56 : ¬ ((0 : Int32) < 0 ∨ cl_a1.slots.size ≤ ((0 : Int32)).toNatClampNeg)) (hat56 : cl_a1.slots[((0 : Int32)).toNatClampNeg]? = some (.int w4)) (Ar_a2 : Arr Z h0 a2 cl_a2 .byte) (hin59 : ¬ ((0 : Int32) < 0 ∨ cl_a2.slots.size ≤ ((0 : Int32)).toNatClampNeg)) (hat59 : cl_a2.slots[((0 : Int32)).toNatClampNeg]? = some (.int w5)) (hin56_2 : ¬ (((0 : Int32) + (1 : Int32)) < 0 ∨ cl_a1.slots.size ≤ (((0 : Int32) + (1 : Int32))).toNatClampNeg)) (hat56_2 : cl_a1.slots[(((0 : Int32) + (1 : Int32))).toNatClampNeg]? = some (.int w6)) (hin59_2 : ¬ (((0 : Int32) + (1 : Int32)) < 0 ∨ cl_a2.slots.size ≤ (((0 : Int32) + (1 : Int32))).toNatClampNeg)) (hat59_2 : cl_a2.slots[(((0 : Int32) + (1 : Int32))).toNatClampNeg]? = some (.int w7)) (hc5 : ¬ ((7 : Int32) < p3)) (hc51 : (0 : Int32) < p3) (hc60 : w4 = w5) (hc51_2 : ((0 : Int32) + (1 : Int32)) < p3) (hc60_2 : w6 = w7) (hc51_3 : ¬ ((((0 : Int32) + (1 : Int32)) + (1 : Int32)) < p3)) :
    MetFree l (⟨"jdk/internal/util/ArraysSupport", "mismatch", "([B[BI)I"⟩ : MethodName) (head1 (Jvm.Cond.code (⟨"jdk/internal/util/ArraysSupport", "mismatch", "([B[BI)I"⟩ : MethodName) jdk_48_method_13_code 4 (some .int) :: ws) ({ frames := 0, cells := 0, slots := 0, locals := 0 } : Room)) (fun a U => a = #[(.ref a1), (.ref a2), (.int p3)] ∧ Z.Warmed39 U.vm ∧ U.heap = h0) (fun _ _ _ _ _ => True) (fun _ U o U' => ∃ v L, o = .returned v ∧ QF (-1 : Int32) h0 n0 v U'.heap L ∧ FrameEnd U o U' L ({ frames := 0, cells := 0, slots := 0, locals := 0 } : Room).cells ({ frames := 0, cells := 0, slots := 0, locals := 0 } : Room).slots) := by
  refine MetFree.of_bodySF (plainFor_of_name pn_7) hisR ?_
  intro p e s m args below meth c s₁ Bd hml0 hP hK
  obtain ⟨rfl, hZ, hh⟩ := hP
  have hx := Bd.exec
  have hby := Bd.bytes
  have hml : c.maxLocals = 4 := hml0
  have hown : s.vm.findClass "jdk/internal/util/ArraysSupport" = some m.cls := findClass_of_methodNamed Bd.named
  have hnm := (name_of_methodNamed Bd.named Bd.method).1
  have X0 : Stand p l e ({ frames := 0, cells := 0, slots := 0, locals := 0 } : Room) s m #[(.ref a1), (.ref a2), (.int p3)] below meth c s₁ [] 0 0 := Stand.of_body Bd
  have e0 : s₁.heap = h0 := by rw [← hh, Bd.state]; rfl
  have N0 := Fr.nil n0
  have pre0 : ∀ t, Steps p.tables e below (s₁.setTop (mkF m 0 #[.val (.ref a1), .val (.ref a2), .val (.int p3), .unset] [])) t → Steps p.tables e below (s₁.setTop (entryFrame m #[(.ref a1), (.ref a2), (.int p3)] 4)) t := fun t k => castTop (ef_7 m a1 a2 p3) k
  obtain ⟨fs, hr, hrun, hended, hW, hsame⟩ := X0.leave (v := some (.int (-1 : Int32))) (fun h => by rw [Bd.returns] at h; cases h)
  refine ⟨_, _, pre0 _ ?_, hrun, hended, _, _, rfl, ?_, ⟨_, rfl⟩, hW, hsame.mono (by decide) (by decide)⟩
  · show Steps p.tables e below (s₁.setTop (mkF m 0 #[.val (.ref a1), .val (.ref a2), .val (.int p3), .unset] [])) _
    refine XS.iconst X0.here hx rfl (hb hby d7_0) ?_
    show Steps p.tables e below (s₁.setTop (mkF m 1 #[.val (.ref a1), .val (.ref a2), .val (.int p3), .unset] [(.int (0 : Int32))])) _
    refine XS.istoreN X0.here hx rfl (hb hby d7_1) rfl (l' := #[.val (.ref a1), .val (.ref a2), .val (.int p3), .val (.int (0 : Int32))]) rfl ?_
    show Steps p.tables e below (s₁.setTop (mkF m 2 #[.val (.ref a1), .val (.ref a2), .val (.int p3), .val (.int (0 : Int32))] [])) _
    refine XS.iloadN X0.here hx rfl (hb hby d7_2) rfl ?_
    show Steps p.tables e below (s₁.setTop (mkF m 3 #[.val (.ref a1), .val (.ref a2), .val (.int p3), .val (.int (0 : Int32))] [(.int p3)])) _
    refine XS.bipush X0.here hx rfl (hb hby d7_3) ?_
    show Steps p.tables e below (s₁.setTop (mkF m 5 #[.val (.ref a1), .val (.ref a2), .val (.int p3), .val (.int (0 : Int32))] [(.int (7 : Int32)), (.int p3)])) _
    refine XS.icmpYes X0.here hx rfl (pc0 := 5) (pc' := 49) rfl (hb hby d7_5) rfl (flt hc5).2.2.2 (by decide) (by decide) ?_
    show Steps p.tables e below (s₁.setTop (mkF m 49 #[.val (.ref a1), .val (.ref a2), .val (.int p3), .val (.int (0 : Int32))] [])) _
    refine XS.iloadN X0.here hx rfl (hb hby d7_49) rfl ?_
    show Steps p.tables e below (s₁.setTop (mkF m 50 #[.val (.ref a1), .val (.ref a2), .val (.int p3), .val (.int (0 : Int32))] [(.int (0 : Int32))])) _
    refine XS.iloadN X0.here hx rfl (hb hby d7_50) rfl ?_
    show Steps p.tables e below (s₁.setTop (mkF m 51 #[.val (.ref a1), .val (.ref a2), .val (.int p3), .val (.int (0 : Int32))] [(.int p3), (.int (0 : Int32))])) _
    refine XS.icmpNo X0.here hx rfl (hb hby d7_51) rfl (tlt hc51).2.1 ?_
    show Steps p.tables e below (s₁.setTop (mkF m 54 #[.val (.ref a1), .val (.ref a2), .val (.int p3), .val (.int (0 : Int32))] [])) _
    refine XS.aloadN X0.here hx rfl (hb hby d7_54) rfl rfl ?_
    show Steps p.tables e below (s₁.setTop (mkF m 55 #[.val (.ref a1), .val (.ref a2), .val (.int p3), .val (.int (0 : Int32))] [(.ref a1)])) _
    refine XS.iloadN X0.here hx rfl (hb hby d7_55) rfl ?_
    show Steps p.tables e below (s₁.setTop (mkF m 56 #[.val (.ref a1), .val (.ref a2), .val (.int p3), .val (.int (0 : Int32))] [(.int (0 : Int32)), (.ref a1)])) _
    refine X0.baloadBytes hx (j := (0 : Int32)) (v := (.int w4)) (by rw [e0]; exact Ar_a1.1) (State.isArrayOf_alike hZ.alike Ar_a1.2.1) Ar_a1.2.2 hin56 hat56 (g := (mkF m 56 #[.val (.ref a1), .val (.ref a2), .val (.int p3), .val (.int (0 : Int32))] [(.int (0 : Int32)), (.ref a1)])) rfl rfl (hb hby d7_56) _ ?_
    show Steps p.tables e below (s₁.setTop (mkF m 57 #[.val (.ref a1), .val (.ref a2), .val (.int p3), .val (.int (0 : Int32))] [(.int w4)])) _
    refine XS.aloadN X0.here hx rfl (hb hby d7_57) rfl rfl ?_
    show Steps p.tables e below (s₁.setTop (mkF m 58 #[.val (.ref a1), .val (.ref a2), .val (.int p3), .val (.int (0 : Int32))] [(.ref a2), (.int w4)])) _
    refine XS.iloadN X0.here hx rfl (hb hby d7_58) rfl ?_
    show Steps p.tables e below (s₁.setTop (mkF m 59 #[.val (.ref a1), .val (.ref a2), .val (.int p3), .val (.int (0 : Int32))] [(.int (0 : Int32)), (.ref a2), (.int w4)])) _
    refine X0.baloadBytes hx (j := (0 : Int32)) (v := (.int w5)) (by rw [e0]; exact Ar_a2.1) (State.isArrayOf_alike hZ.alike Ar_a2.2.1) Ar_a2.2.2 hin59 hat59 (g := (mkF m 59 #[.val (.ref a1), .val (.ref a2), .val (.int p3), .val (.int (0 : Int32))] [(.int (0 : Int32)), (.ref a2), (.int w4)])) rfl rfl (hb hby d7_59) _ ?_
    show Steps p.tables e below (s₁.setTop (mkF m 60 #[.val (.ref a1), .val (.ref a2), .val (.int p3), .val (.int (0 : Int32))] [(.int w5), (.int w4)])) _
    refine XS.icmpYes X0.here hx rfl (pc0 := 60) (pc' := 65) rfl (hb hby d7_60) rfl (teq hc60).1 (by decide) (by decide) ?_
    show Steps p.tables e below (s₁.setTop (mkF m 65 #[.val (.ref a1), .val (.ref a2), .val (.int p3), .val (.int (0 : Int32))] [])) _
    refine XS.iinc X0.here hx rfl (hb hby d7_65) rfl (l' := #[.val (.ref a1), .val (.ref a2), .val (.int p3), .val (.int ((0 : Int32) + (1 : Int32)))]) rfl ?_
    show Steps p.tables e below (s₁.setTop (mkF m 68 #[.val (.ref a1), .val (.ref a2), .val (.int p3), .val (.int ((0 : Int32) + (1 : Int32)))] [])) _
    refine XS.goto X0.here hx rfl (pc0 := 68) (pc' := 49) rfl (hb hby d7_68) (by decide) (by decide) ?_
    show Steps p.tables e below (s₁.setTop (mkF m 49 #[.val (.ref a1), .val (.ref a2), .val (.int p3), .val (.int ((0 : Int32) + (1 : Int32)))] [])) _
    refine XS.iloadN X0.here hx rfl (hb hby d7_49) rfl ?_
    show Steps p.tables e below (s₁.setTop (mkF m 50 #[.val (.ref a1), .val (.ref a2), .val (.int p3), .val (.int ((0 : Int32) + (1 : Int32)))] [(.int ((0 : Int32) + (1 : Int32)))])) _
    refine XS.iloadN X0.here hx rfl (hb hby d7_50) rfl ?_
    show Steps p.tables e below (s₁.setTop (mkF m 51 #[.val (.ref a1), .val (.ref a2), .val (.int p3), .val (.int ((0 : Int32) + (1 : Int32)))] [(.int p3), (.int ((0 : Int32) + (1 : Int32)))])) _
    refine XS.icmpNo X0.here hx rfl (hb hby d7_51) rfl (tlt hc51_2).2.1 ?_
    show Steps p.tables e below (s₁.setTop (mkF m 54 #[.val (.ref a1), .val (.ref a2), .val (.int p3), .val (.int ((0 : Int32) + (1 : Int32)))] [])) _
    refine XS.aloadN X0.here hx rfl (hb hby d7_54) rfl rfl ?_
    show Steps p.tables e below (s₁.setTop (mkF m 55 #[.val (.ref a1), .val (.ref a2), .val (.int p3), .val (.int ((0 : Int32) + (1 : Int32)))] [(.ref a1)])) _
    refine XS.iloadN X0.here hx rfl (hb hby d7_55) rfl ?_
    show Steps p.tables e below (s₁.setTop (mkF m 56 #[.val (.ref a1), .val (.ref a2), .val (.int p3), .val (.int ((0 : Int32) + (1 : Int32)))] [(.int ((0 : Int32) + (1 : Int32))), (.ref a1)])) _
    refine X0.baloadBytes hx (j := ((0 : Int32) + (1 : Int32))) (v := (.int w6)) (by rw [e0]; exact Ar_a1.1) (State.isArrayOf_alike hZ.alike Ar_a1.2.1) Ar_a1.2.2 hin56_2 hat56_2 (g := (mkF m 56 #[.val (.ref a1), .val (.ref a2), .val (.int p3), .val (.int ((0 : Int32) + (1 : Int32)))] [(.int ((0 : Int32) + (1 : Int32))), (.ref a1)])) rfl rfl (hb hby d7_56) _ ?_
    show Steps p.tables e below (s₁.setTop (mkF m 57 #[.val (.ref a1), .val (.ref a2), .val (.int p3), .val (.int ((0 : Int32) + (1 : Int32)))] [(.int w6)])) _
    refine XS.aloadN X0.here hx rfl (hb hby d7_57) rfl rfl ?_
    show Steps p.tables e below (s₁.setTop (mkF m 58 #[.val (.ref a1), .val (.ref a2), .val (.int p3), .val (.int ((0 : Int32) + (1 : Int32)))] [(.ref a2), (.int w6)])) _
    refine XS.iloadN X0.here hx rfl (hb hby d7_58) rfl ?_
    show Steps p.tables e below (s₁.setTop (mkF m 59 #[.val (.ref a1), .val (.ref a2), .val (.int p3), .val (.int ((0 : Int32) + (1 : Int32)))] [(.int ((0 : Int32) + (1 : Int32))), (.ref a2), (.int w6)])) _
    refine X0.baloadBytes hx (j := ((0 : Int32) + (1 : Int32))) (v := (.int w7)) (by rw [e0]; exact Ar_a2.1) (State.isArrayOf_alike hZ.alike Ar_a2.2.1) Ar_a2.2.2 hin59_2 hat59_2 (g := (mkF m 59 #[.val (.ref a1), .val (.ref a2), .val (.int p3), .val (.int ((0 : Int32) + (1 : Int32)))] [(.int ((0 : Int32) + (1 : Int32))), (.ref a2), (.int w6)])) rfl rfl (hb hby d7_59) _ ?_
    show Steps p.tables e below (s₁.setTop (mkF m 60 #[.val (.ref a1), .val (.ref a2), .val (.int p3), .val (.int ((0 : Int32) + (1 : Int32)))] [(.int w7), (.int w6)])) _
    refine XS.icmpYes X0.here hx rfl (pc0 := 60) (pc' := 65) rfl (hb hby d7_60) rfl (teq hc60_2).1 (by decide) (by decide) ?_
    show Steps p.tables e below (s₁.setTop (mkF m 65 #[.val (.ref a1), .val (.ref a2), .val (.int p3), .val (.int ((0 : Int32) + (1 : Int32)))] [])) _
    refine XS.iinc X0.here hx rfl (hb hby d7_65) rfl (l' := #[.val (.ref a1), .val (.ref a2), .val (.int p3), .val (.int (((0 : Int32) + (1 : Int32)) + (1 : Int32)))]) rfl ?_
    show Steps p.tables e below (s₁.setTop (mkF m 68 #[.val (.ref a1), .val (.ref a2), .val (.int p3), .val (.int (((0 : Int32) + (1 : Int32)) + (1 : Int32)))] [])) _
    refine XS.goto X0.here hx rfl (pc0 := 68) (pc' := 49) rfl (hb hby d7_68) (by decide) (by decide) ?_
    show Steps p.tables e below (s₁.setTop (mkF m 49 #[.val (.ref a1), .val (.ref a2), .val (.int p3), .val (.int (((0 : Int32) + (1 : Int32)) + (1 : Int32)))] [])) _
    refine XS.iloadN X0.here hx rfl (hb hby d7_49) rfl ?_
    show Steps p.tables e below (s₁.setTop (mkF m 50 #[.val (.ref a1), .val (.ref a2), .val (.int p3), .val (.int (((0 : Int32) + (1 : Int32)) + (1 : Int32)))] [(.int (((0 : Int32) + (1 : Int32)) + (1 : Int32)))])) _
    refine XS.iloadN X0.here hx rfl (hb hby d7_50) rfl ?_
    show Steps p.tables e below (s₁.setTop (mkF m 51 #[.val (.ref a1), .val (.ref a2), .val (.int p3), .val (.int (((0 : Int32) + (1 : Int32)) + (1 : Int32)))] [(.int p3), (.int (((0 : Int32) + (1 : Int32)) + (1 : Int32)))])) _
    refine XS.icmpYes X0.here hx rfl (pc0 := 51) (pc' := 71) rfl (hb hby d7_51) rfl (flt hc51_3).2.1 (by decide) (by decide) ?_
    show Steps p.tables e below (s₁.setTop (mkF m 71 #[.val (.ref a1), .val (.ref a2), .val (.int p3), .val (.int (((0 : Int32) + (1 : Int32)) + (1 : Int32)))] [])) _
    refine XS.iconst X0.here hx rfl (hb hby d7_71) ?_
    show Steps p.tables e below (s₁.setTop (mkF m 72 #[.val (.ref a1), .val (.ref a2), .val (.int p3), .val (.int (((0 : Int32) + (1 : Int32)) + (1 : Int32)))] [(.int (-1 : Int32))])) _
    exact retI X0 hx Bd.returns (hb hby d7_72) hr
  · show QF (-1 : Int32) h0 n0 _ s₁.heap _
    rw [e0]
    exact ⟨rfl, N0, rfl⟩
set_option maxRecDepth 65536 in
set_option maxHeartbeats 40000000 in
theorem rm7e3 (l : Launch) (Z : State) (a0 : Array Value) (hw : ∀ d ∈ tables_1, d.before a0 Z = true) (ws : List Jvm.Cond) (a1 : Addr) (a2 : Addr) (p3 : Int32) (w4 : Int32) (cl_a1 : Cell) (w5 : Int32) (cl_a2 : Cell) (w6 : Int32) (w7 : Int32) (w8 : Int32) (w9 : Int32) (h0 : Heap) (n0 : Nat) (Z0 : n0 ≤ h0.size) (Ar_a1 : Arr Z h0 a1 cl_a1 .byte) (hin56 : ¬ ((0 : Int32) < 0 ∨ cl_a1.slots.size ≤ ((0 : Int32)).toNatClampNeg)) (hat56 : cl_a1.slots[((0 : Int32)).toNatClampNeg]? = some (.int w4)) (Ar_a2 : Arr Z h0 a2 cl_a2 .byte) (hin59 : ¬ ((0 : Int32) < 0 ∨ cl_a2.slots.size ≤ ((0 : Int32)).toNatClampNeg)) (hat59 : cl_a2.slots[((0 : Int32)).toNatClampNeg]? = some (.int w5)) (hin56_2 : ¬ (((0 : Int32) + (1 : Int32)) < 0 ∨ cl_a1.slots.size ≤ (((0 : Int32) + (1 : Int32))).toNatClampNeg)) (hat56_2 : cl_a1.slots[(((0 : Int32) + (1 : Int32))).toNatClampNeg]? = some (.int w6)) (hin59_2 : ¬ (((0 : Int32) + (1 : Int32)) < 0 ∨ cl_a2.slots.size ≤ (((0 : Int32) + (1 : Int32))).toNatClampNeg)) (hat59_2 : cl_a2.slots[(((0 : Int32) + (1 : Int32))).toNatClampNeg]? = some (.int w7)) (hin56_3 : ¬ ((((0 : Int32) + (1 : Int32)) + (1 : Int32)) < 0 ∨ cl_a1.slots.size ≤ ((((0 : Int32) + (1 : Int32)) + (1 : Int32))).toNatClampNeg)) (hat56_3 : cl_a1.slots[((((0 : Int32) + (1 : Int32)) + (1 : Int32))).toNatClampNeg]? = some (.int w8)) (hin59_3 : ¬ ((((0 : Int32) + (1 : Int32)) + (1 : Int32)) < 0 ∨ cl_a2.slots.size ≤ ((((0 : Int32) + (1 : Int32)) + (1 : Int32))).toNatClampNeg)) (hat59_3 : cl_a2.slots[((((0 : Int32) + (1 : Int32)) + (1 : Int32))).toNatClampNeg]? = some (.int w9)) (hc5 : ¬ ((7 : Int32) < p3)) (hc51 : (0 : Int32) < p3) (hc60 : w4 = w5) (hc51_2 : ((0 : Int32) + (1 : Int32)) < p3) (hc60_2 : w6 = w7) (hc51_3 : (((0 : Int32) + (1 : Int32)) + (1 : Int32)) < p3) (hc60_3 : w8 = w9) (hc51_4 : ¬ (((((0 : Int32) + (1 : Int32)) + (1 : Int32)) + (1 : Int32)) < p3)) :
    MetFree l (⟨"jdk/internal/util/ArraysSupport", "mismatch", "([B[BI)I"⟩ : MethodName) (head1 (Jvm.Cond.code (⟨"jdk/internal/util/ArraysSupport", "mismatch", "([B[BI)I"⟩ : MethodName) jdk_48_method_13_code 4 (some .int) :: ws) ({ frames := 0, cells := 0, slots := 0, locals := 0 } : Room)) (fun a U => a = #[(.ref a1), (.ref a2), (.int p3)] ∧ Z.Warmed39 U.vm ∧ U.heap = h0) (fun _ _ _ _ _ => True) (fun _ U o U' => ∃ v L, o = .returned v ∧ QF (-1 : Int32) h0 n0 v U'.heap L ∧ FrameEnd U o U' L ({ frames := 0, cells := 0, slots := 0, locals := 0 } : Room).cells ({ frames := 0, cells := 0, slots := 0, locals := 0 } : Room).slots) := by
  refine MetFree.of_bodySF (plainFor_of_name pn_7) hisR ?_
  intro p e s m args below meth c s₁ Bd hml0 hP hK
  obtain ⟨rfl, hZ, hh⟩ := hP
  have hx := Bd.exec
  have hby := Bd.bytes
  have hml : c.maxLocals = 4 := hml0
  have hown : s.vm.findClass "jdk/internal/util/ArraysSupport" = some m.cls := findClass_of_methodNamed Bd.named
  have hnm := (name_of_methodNamed Bd.named Bd.method).1
  have X0 : Stand p l e ({ frames := 0, cells := 0, slots := 0, locals := 0 } : Room) s m #[(.ref a1), (.ref a2), (.int p3)] below meth c s₁ [] 0 0 := Stand.of_body Bd
  have e0 : s₁.heap = h0 := by rw [← hh, Bd.state]; rfl
  have N0 := Fr.nil n0
  have pre0 : ∀ t, Steps p.tables e below (s₁.setTop (mkF m 0 #[.val (.ref a1), .val (.ref a2), .val (.int p3), .unset] [])) t → Steps p.tables e below (s₁.setTop (entryFrame m #[(.ref a1), (.ref a2), (.int p3)] 4)) t := fun t k => castTop (ef_7 m a1 a2 p3) k
  obtain ⟨fs, hr, hrun, hended, hW, hsame⟩ := X0.leave (v := some (.int (-1 : Int32))) (fun h => by rw [Bd.returns] at h; cases h)
  refine ⟨_, _, pre0 _ ?_, hrun, hended, _, _, rfl, ?_, ⟨_, rfl⟩, hW, hsame.mono (by decide) (by decide)⟩
  · show Steps p.tables e below (s₁.setTop (mkF m 0 #[.val (.ref a1), .val (.ref a2), .val (.int p3), .unset] [])) _
    refine XS.iconst X0.here hx rfl (hb hby d7_0) ?_
    show Steps p.tables e below (s₁.setTop (mkF m 1 #[.val (.ref a1), .val (.ref a2), .val (.int p3), .unset] [(.int (0 : Int32))])) _
    refine XS.istoreN X0.here hx rfl (hb hby d7_1) rfl (l' := #[.val (.ref a1), .val (.ref a2), .val (.int p3), .val (.int (0 : Int32))]) rfl ?_
    show Steps p.tables e below (s₁.setTop (mkF m 2 #[.val (.ref a1), .val (.ref a2), .val (.int p3), .val (.int (0 : Int32))] [])) _
    refine XS.iloadN X0.here hx rfl (hb hby d7_2) rfl ?_
    show Steps p.tables e below (s₁.setTop (mkF m 3 #[.val (.ref a1), .val (.ref a2), .val (.int p3), .val (.int (0 : Int32))] [(.int p3)])) _
    refine XS.bipush X0.here hx rfl (hb hby d7_3) ?_
    show Steps p.tables e below (s₁.setTop (mkF m 5 #[.val (.ref a1), .val (.ref a2), .val (.int p3), .val (.int (0 : Int32))] [(.int (7 : Int32)), (.int p3)])) _
    refine XS.icmpYes X0.here hx rfl (pc0 := 5) (pc' := 49) rfl (hb hby d7_5) rfl (flt hc5).2.2.2 (by decide) (by decide) ?_
    show Steps p.tables e below (s₁.setTop (mkF m 49 #[.val (.ref a1), .val (.ref a2), .val (.int p3), .val (.int (0 : Int32))] [])) _
    refine XS.iloadN X0.here hx rfl (hb hby d7_49) rfl ?_
    show Steps p.tables e below (s₁.setTop (mkF m 50 #[.val (.ref a1), .val (.ref a2), .val (.int p3), .val (.int (0 : Int32))] [(.int (0 : Int32))])) _
    refine XS.iloadN X0.here hx rfl (hb hby d7_50) rfl ?_
    show Steps p.tables e below (s₁.setTop (mkF m 51 #[.val (.ref a1), .val (.ref a2), .val (.int p3), .val (.int (0 : Int32))] [(.int p3), (.int (0 : Int32))])) _
    refine XS.icmpNo X0.here hx rfl (hb hby d7_51) rfl (tlt hc51).2.1 ?_
    show Steps p.tables e below (s₁.setTop (mkF m 54 #[.val (.ref a1), .val (.ref a2), .val (.int p3), .val (.int (0 : Int32))] [])) _
    refine XS.aloadN X0.here hx rfl (hb hby d7_54) rfl rfl ?_
    show Steps p.tables e below (s₁.setTop (mkF m 55 #[.val (.ref a1), .val (.ref a2), .val (.int p3), .val (.int (0 : Int32))] [(.ref a1)])) _
    refine XS.iloadN X0.here hx rfl (hb hby d7_55) rfl ?_
    show Steps p.tables e below (s₁.setTop (mkF m 56 #[.val (.ref a1), .val (.ref a2), .val (.int p3), .val (.int (0 : Int32))] [(.int (0 : Int32)), (.ref a1)])) _
    refine X0.baloadBytes hx (j := (0 : Int32)) (v := (.int w4)) (by rw [e0]; exact Ar_a1.1) (State.isArrayOf_alike hZ.alike Ar_a1.2.1) Ar_a1.2.2 hin56 hat56 (g := (mkF m 56 #[.val (.ref a1), .val (.ref a2), .val (.int p3), .val (.int (0 : Int32))] [(.int (0 : Int32)), (.ref a1)])) rfl rfl (hb hby d7_56) _ ?_
    show Steps p.tables e below (s₁.setTop (mkF m 57 #[.val (.ref a1), .val (.ref a2), .val (.int p3), .val (.int (0 : Int32))] [(.int w4)])) _
    refine XS.aloadN X0.here hx rfl (hb hby d7_57) rfl rfl ?_
    show Steps p.tables e below (s₁.setTop (mkF m 58 #[.val (.ref a1), .val (.ref a2), .val (.int p3), .val (.int (0 : Int32))] [(.ref a2), (.int w4)])) _
    refine XS.iloadN X0.here hx rfl (hb hby d7_58) rfl ?_
    show Steps p.tables e below (s₁.setTop (mkF m 59 #[.val (.ref a1), .val (.ref a2), .val (.int p3), .val (.int (0 : Int32))] [(.int (0 : Int32)), (.ref a2), (.int w4)])) _
    refine X0.baloadBytes hx (j := (0 : Int32)) (v := (.int w5)) (by rw [e0]; exact Ar_a2.1) (State.isArrayOf_alike hZ.alike Ar_a2.2.1) Ar_a2.2.2 hin59 hat59 (g := (mkF m 59 #[.val (.ref a1), .val (.ref a2), .val (.int p3), .val (.int (0 : Int32))] [(.int (0 : Int32)), (.ref a2), (.int w4)])) rfl rfl (hb hby d7_59) _ ?_
    show Steps p.tables e below (s₁.setTop (mkF m 60 #[.val (.ref a1), .val (.ref a2), .val (.int p3), .val (.int (0 : Int32))] [(.int w5), (.int w4)])) _
    refine XS.icmpYes X0.here hx rfl (pc0 := 60) (pc' := 65) rfl (hb hby d7_60) rfl (teq hc60).1 (by decide) (by decide) ?_
    show Steps p.tables e below (s₁.setTop (mkF m 65 #[.val (.ref a1), .val (.ref a2), .val (.int p3), .val (.int (0 : Int32))] [])) _
    refine XS.iinc X0.here hx rfl (hb hby d7_65) rfl (l' := #[.val (.ref a1), .val (.ref a2), .val (.int p3), .val (.int ((0 : Int32) + (1 : Int32)))]) rfl ?_
    show Steps p.tables e below (s₁.setTop (mkF m 68 #[.val (.ref a1), .val (.ref a2), .val (.int p3), .val (.int ((0 : Int32) + (1 : Int32)))] [])) _
    refine XS.goto X0.here hx rfl (pc0 := 68) (pc' := 49) rfl (hb hby d7_68) (by decide) (by decide) ?_
    show Steps p.tables e below (s₁.setTop (mkF m 49 #[.val (.ref a1), .val (.ref a2), .val (.int p3), .val (.int ((0 : Int32) + (1 : Int32)))] [])) _
    refine XS.iloadN X0.here hx rfl (hb hby d7_49) rfl ?_
    show Steps p.tables e below (s₁.setTop (mkF m 50 #[.val (.ref a1), .val (.ref a2), .val (.int p3), .val (.int ((0 : Int32) + (1 : Int32)))] [(.int ((0 : Int32) + (1 : Int32)))])) _
    refine XS.iloadN X0.here hx rfl (hb hby d7_50) rfl ?_
    show Steps p.tables e below (s₁.setTop (mkF m 51 #[.val (.ref a1), .val (.ref a2), .val (.int p3), .val (.int ((0 : Int32) + (1 : Int32)))] [(.int p3), (.int ((0 : Int32) + (1 : Int32)))])) _
    refine XS.icmpNo X0.here hx rfl (hb hby d7_51) rfl (tlt hc51_2).2.1 ?_
    show Steps p.tables e below (s₁.setTop (mkF m 54 #[.val (.ref a1), .val (.ref a2), .val (.int p3), .val (.int ((0 : Int32) + (1 : Int32)))] [])) _
    refine XS.aloadN X0.here hx rfl (hb hby d7_54) rfl rfl ?_
    show Steps p.tables e below (s₁.setTop (mkF m 55 #[.val (.ref a1), .val (.ref a2), .val (.int p3), .val (.int ((0 : Int32) + (1 : Int32)))] [(.ref a1)])) _
    refine XS.iloadN X0.here hx rfl (hb hby d7_55) rfl ?_
    show Steps p.tables e below (s₁.setTop (mkF m 56 #[.val (.ref a1), .val (.ref a2), .val (.int p3), .val (.int ((0 : Int32) + (1 : Int32)))] [(.int ((0 : Int32) + (1 : Int32))), (.ref a1)])) _
    refine X0.baloadBytes hx (j := ((0 : Int32) + (1 : Int32))) (v := (.int w6)) (by rw [e0]; exact Ar_a1.1) (State.isArrayOf_alike hZ.alike Ar_a1.2.1) Ar_a1.2.2 hin56_2 hat56_2 (g := (mkF m 56 #[.val (.ref a1), .val (.ref a2), .val (.int p3), .val (.int ((0 : Int32) + (1 : Int32)))] [(.int ((0 : Int32) + (1 : Int32))), (.ref a1)])) rfl rfl (hb hby d7_56) _ ?_
    show Steps p.tables e below (s₁.setTop (mkF m 57 #[.val (.ref a1), .val (.ref a2), .val (.int p3), .val (.int ((0 : Int32) + (1 : Int32)))] [(.int w6)])) _
    refine XS.aloadN X0.here hx rfl (hb hby d7_57) rfl rfl ?_
    show Steps p.tables e below (s₁.setTop (mkF m 58 #[.val (.ref a1), .val (.ref a2), .val (.int p3), .val (.int ((0 : Int32) + (1 : Int32)))] [(.ref a2), (.int w6)])) _
    refine XS.iloadN X0.here hx rfl (hb hby d7_58) rfl ?_
    show Steps p.tables e below (s₁.setTop (mkF m 59 #[.val (.ref a1), .val (.ref a2), .val (.int p3), .val (.int ((0 : Int32) + (1 : Int32)))] [(.int ((0 : Int32) + (1 : Int32))), (.ref a2), (.int w6)])) _
    refine X0.baloadBytes hx (j := ((0 : Int32) + (1 : Int32))) (v := (.int w7)) (by rw [e0]; exact Ar_a2.1) (State.isArrayOf_alike hZ.alike Ar_a2.2.1) Ar_a2.2.2 hin59_2 hat59_2 (g := (mkF m 59 #[.val (.ref a1), .val (.ref a2), .val (.int p3), .val (.int ((0 : Int32) + (1 : Int32)))] [(.int ((0 : Int32) + (1 : Int32))), (.ref a2), (.int w6)])) rfl rfl (hb hby d7_59) _ ?_
    show Steps p.tables e below (s₁.setTop (mkF m 60 #[.val (.ref a1), .val (.ref a2), .val (.int p3), .val (.int ((0 : Int32) + (1 : Int32)))] [(.int w7), (.int w6)])) _
    refine XS.icmpYes X0.here hx rfl (pc0 := 60) (pc' := 65) rfl (hb hby d7_60) rfl (teq hc60_2).1 (by decide) (by decide) ?_
    show Steps p.tables e below (s₁.setTop (mkF m 65 #[.val (.ref a1), .val (.ref a2), .val (.int p3), .val (.int ((0 : Int32) + (1 : Int32)))] [])) _
    refine XS.iinc X0.here hx rfl (hb hby d7_65) rfl (l' := #[.val (.ref a1), .val (.ref a2), .val (.int p3), .val (.int (((0 : Int32) + (1 : Int32)) + (1 : Int32)))]) rfl ?_
    show Steps p.tables e below (s₁.setTop (mkF m 68 #[.val (.ref a1), .val (.ref a2), .val (.int p3), .val (.int (((0 : Int32) + (1 : Int32)) + (1 : Int32)))] [])) _
    refine XS.goto X0.here hx rfl (pc0 := 68) (pc' := 49) rfl (hb hby d7_68) (by decide) (by decide) ?_
    show Steps p.tables e below (s₁.setTop (mkF m 49 #[.val (.ref a1), .val (.ref a2), .val (.int p3), .val (.int (((0 : Int32) + (1 : Int32)) + (1 : Int32)))] [])) _
    refine XS.iloadN X0.here hx rfl (hb hby d7_49) rfl ?_
    show Steps p.tables e below (s₁.setTop (mkF m 50 #[.val (.ref a1), .val (.ref a2), .val (.int p3), .val (.int (((0 : Int32) + (1 : Int32)) + (1 : Int32)))] [(.int (((0 : Int32) + (1 : Int32)) + (1 : Int32)))])) _
    refine XS.iloadN X0.here hx rfl (hb hby d7_50) rfl ?_
    show Steps p.tables e below (s₁.setTop (mkF m 51 #[.val (.ref a1), .val (.ref a2), .val (.int p3), .val (.int (((0 : Int32) + (1 : Int32)) + (1 : Int32)))] [(.int p3), (.int (((0 : Int32) + (1 : Int32)) + (1 : Int32)))])) _
    refine XS.icmpNo X0.here hx rfl (hb hby d7_51) rfl (tlt hc51_3).2.1 ?_
    show Steps p.tables e below (s₁.setTop (mkF m 54 #[.val (.ref a1), .val (.ref a2), .val (.int p3), .val (.int (((0 : Int32) + (1 : Int32)) + (1 : Int32)))] [])) _
    refine XS.aloadN X0.here hx rfl (hb hby d7_54) rfl rfl ?_
    show Steps p.tables e below (s₁.setTop (mkF m 55 #[.val (.ref a1), .val (.ref a2), .val (.int p3), .val (.int (((0 : Int32) + (1 : Int32)) + (1 : Int32)))] [(.ref a1)])) _
    refine XS.iloadN X0.here hx rfl (hb hby d7_55) rfl ?_
    show Steps p.tables e below (s₁.setTop (mkF m 56 #[.val (.ref a1), .val (.ref a2), .val (.int p3), .val (.int (((0 : Int32) + (1 : Int32)) + (1 : Int32)))] [(.int (((0 : Int32) + (1 : Int32)) + (1 : Int32))), (.ref a1)])) _
    refine X0.baloadBytes hx (j := (((0 : Int32) + (1 : Int32)) + (1 : Int32))) (v := (.int w8)) (by rw [e0]; exact Ar_a1.1) (State.isArrayOf_alike hZ.alike Ar_a1.2.1) Ar_a1.2.2 hin56_3 hat56_3 (g := (mkF m 56 #[.val (.ref a1), .val (.ref a2), .val (.int p3), .val (.int (((0 : Int32) + (1 : Int32)) + (1 : Int32)))] [(.int (((0 : Int32) + (1 : Int32)) + (1 : Int32))), (.ref a1)])) rfl rfl (hb hby d7_56) _ ?_
    show Steps p.tables e below (s₁.setTop (mkF m 57 #[.val (.ref a1), .val (.ref a2), .val (.int p3), .val (.int (((0 : Int32) + (1 : Int32)) + (1 : Int32)))] [(.int w8)])) _
    refine XS.aloadN X0.here hx rfl (hb hby d7_57) rfl rfl ?_
    show Steps p.tables e below (s₁.setTop (mkF m 58 #[.val (.ref a1), .val (.ref a2), .val (.int p3), .val (.int (((0 : Int32) + (1 : Int32)) + (1 : Int32)))] [(.ref a2), (.int w8)])) _
    refine XS.iloadN X0.here hx rfl (hb hby d7_58) rfl ?_
    show Steps p.tables e below (s₁.setTop (mkF m 59 #[.val (.ref a1), .val (.ref a2), .val (.int p3), .val (.int (((0 : Int32) + (1 : Int32)) + (1 : Int32)))] [(.int (((0 : Int32) + (1 : Int32)) + (1 : Int32))), (.ref a2), (.int w8)])) _
    refine X0.baloadBytes hx (j := (((0 : Int32) + (1 : Int32)) + (1 : Int32))) (v := (.int w9)) (by rw [e0]; exact Ar_a2.1) (State.isArrayOf_alike hZ.alike Ar_a2.2.1) Ar_a2.2.2 hin59_3 hat59_3 (g := (mkF m 59 #[.val (.ref a1), .val (.ref a2), .val (.int p3), .val (.int (((0 : Int32) + (1 : Int32)) + (1 : Int32)))] [(.int (((0 : Int32) + (1 : Int32)) + (1 : Int32))), (.ref a2), (.int w8)])) rfl rfl (hb hby d7_59) _ ?_
    show Steps p.tables e below (s₁.setTop (mkF m 60 #[.val (.ref a1), .val (.ref a2), .val (.int p3), .val (.int (((0 : Int32) + (1 : Int32)) + (1 : Int32)))] [(.int w9), (.int w8)])) _
    refine XS.icmpYes X0.here hx rfl (pc0 := 60) (pc' := 65) rfl (hb hby d7_60) rfl (teq hc60_3).1 (by decide) (by decide) ?_
    show Steps p.tables e below (s₁.setTop (mkF m 65 #[.val (.ref a1), .val (.ref a2), .val (.int p3), .val (.int (((0 : Int32) + (1 : Int32)) + (1 : Int32)))] [])) _
    refine XS.iinc X0.here hx rfl (hb hby d7_65) rfl (l' := #[.val (.ref a1), .val (.ref a2), .val (.int p3), .val (.int ((((0 : Int32) + (1 : Int32)) + (1 : Int32)) + (1 : Int32)))]) rfl ?_
    show Steps p.tables e below (s₁.setTop (mkF m 68 #[.val (.ref a1), .val (.ref a2), .val (.int p3), .val (.int ((((0 : Int32) + (1 : Int32)) + (1 : Int32)) + (1 : Int32)))] [])) _
    refine XS.goto X0.here hx rfl (pc0 := 68) (pc' := 49) rfl (hb hby d7_68) (by decide) (by decide) ?_
    show Steps p.tables e below (s₁.setTop (mkF m 49 #[.val (.ref a1), .val (.ref a2), .val (.int p3), .val (.int ((((0 : Int32) + (1 : Int32)) + (1 : Int32)) + (1 : Int32)))] [])) _
    refine XS.iloadN X0.here hx rfl (hb hby d7_49) rfl ?_
    show Steps p.tables e below (s₁.setTop (mkF m 50 #[.val (.ref a1), .val (.ref a2), .val (.int p3), .val (.int ((((0 : Int32) + (1 : Int32)) + (1 : Int32)) + (1 : Int32)))] [(.int ((((0 : Int32) + (1 : Int32)) + (1 : Int32)) + (1 : Int32)))])) _
    refine XS.iloadN X0.here hx rfl (hb hby d7_50) rfl ?_
    show Steps p.tables e below (s₁.setTop (mkF m 51 #[.val (.ref a1), .val (.ref a2), .val (.int p3), .val (.int ((((0 : Int32) + (1 : Int32)) + (1 : Int32)) + (1 : Int32)))] [(.int p3), (.int ((((0 : Int32) + (1 : Int32)) + (1 : Int32)) + (1 : Int32)))])) _
    refine XS.icmpYes X0.here hx rfl (pc0 := 51) (pc' := 71) rfl (hb hby d7_51) rfl (flt hc51_4).2.1 (by decide) (by decide) ?_
    show Steps p.tables e below (s₁.setTop (mkF m 71 #[.val (.ref a1), .val (.ref a2), .val (.int p3), .val (.int ((((0 : Int32) + (1 : Int32)) + (1 : Int32)) + (1 : Int32)))] [])) _
    refine XS.iconst X0.here hx rfl (hb hby d7_71) ?_
    show Steps p.tables e below (s₁.setTop (mkF m 72 #[.val (.ref a1), .val (.ref a2), .val (.int p3), .val (.int ((((0 : Int32) + (1 : Int32)) + (1 : Int32)) + (1 : Int32)))] [(.int (-1 : Int32))])) _
    exact retI X0 hx Bd.returns (hb hby d7_72) hr
  · show QF (-1 : Int32) h0 n0 _ s₁.heap _
    rw [e0]
    exact ⟨rfl, N0, rfl⟩
def own_sm (z : Int32) (vs : List Value) : Prop := (z = (0 : Int32) ∧ vs = []) ∨ (∃ x0 : Int32, z = (1 : Int32) ∧ vs = [(.int x0)]) ∨ (∃ x0 x1 : Int32, z = (2 : Int32) ∧ vs = [(.int x0), (.int x1)]) ∨ (∃ x0 x1 x2 : Int32, z = (3 : Int32) ∧ vs = [(.int x0), (.int x1), (.int x2)])
theorem rmMe (l : Launch) (Z : State) (a0 : Array Value) (hw : ∀ d ∈ tables_1, d.before a0 Z = true) (ws : List Jvm.Cond) (a1 a2 : Addr) (k1 k2 : ClassId) (z : Int32) (vs : List Value) (h0 : Heap) (n0 : Nat) (Z0 : n0 ≤ h0.size) (hs : own_sm z vs) (V1 : Arv Z h0 a1 k1 .byte z vs (.int (0 : Int32))) (V2 : Arv Z h0 a2 k2 .byte z vs (.int (0 : Int32))) :
    MetFree l (⟨"jdk/internal/util/ArraysSupport", "mismatch", "([B[BI)I"⟩ : MethodName) (head1 (Jvm.Cond.code (⟨"jdk/internal/util/ArraysSupport", "mismatch", "([B[BI)I"⟩ : MethodName) jdk_48_method_13_code 4 (some .int) :: ws) ({ frames := 0, cells := 0, slots := 0, locals := 0 } : Room)) (fun a U => a = #[(.ref a1), (.ref a2), (.int z)] ∧ Z.Warmed39 U.vm ∧ U.heap = h0) (fun _ _ _ _ _ => True) (fun _ U o U' => ∃ v L, o = .returned v ∧ QF (-1 : Int32) h0 n0 v U'.heap L ∧ FrameEnd U o U' L ({ frames := 0, cells := 0, slots := 0, locals := 0 } : Room).cells ({ frames := 0, cells := 0, slots := 0, locals := 0 } : Room).slots) := by
  obtain ⟨c1, A1, -, S1, N1, H1, -⟩ := V1
  obtain ⟨c2, A2, -, S2, N2, H2, -⟩ := V2
  rcases hs with ⟨rfl, rfl⟩ | ⟨x0, rfl, rfl⟩ | ⟨x0, x1, rfl, rfl⟩ | ⟨x0, x1, x2, rfl, rfl⟩
  · exact rm7e0 l Z a0 hw ws (a1 := a1) (a2 := a2) (p3 := (0 : Int32)) (h0 := h0) (n0 := n0) (Z0 := Z0) (hc5 := by decide) (hc51 := by decide)
  · exact rm7e1 l Z a0 hw ws (a1 := a1) (a2 := a2) (p3 := (1 : Int32)) (w4 := x0) (cl_a1 := c1) (w5 := x0) (cl_a2 := c2) (h0 := h0) (n0 := n0) (Z0 := Z0) (Ar_a1 := A1) (hin56 := inb_of S1 ⟨by decide, by decide⟩) (hat56 := H1.at (inb_of S1 ⟨by decide, by decide⟩) rfl) (Ar_a2 := A2) (hin59 := inb_of S2 ⟨by decide, by decide⟩) (hat59 := H2.at (inb_of S2 ⟨by decide, by decide⟩) rfl) (hc5 := by decide) (hc51 := by decide) (hc60 := rfl) (hc51_2 := by decide)
  · exact rm7e2 l Z a0 hw ws (a1 := a1) (a2 := a2) (p3 := (2 : Int32)) (w4 := x0) (cl_a1 := c1) (w5 := x0) (cl_a2 := c2) (w6 := x1) (w7 := x1) (h0 := h0) (n0 := n0) (Z0 := Z0) (Ar_a1 := A1) (hin56 := inb_of S1 ⟨by decide, by decide⟩) (hat56 := H1.at (inb_of S1 ⟨by decide, by decide⟩) rfl) (Ar_a2 := A2) (hin59 := inb_of S2 ⟨by decide, by decide⟩) (hat59 := H2.at (inb_of S2 ⟨by decide, by decide⟩) rfl) (hin56_2 := inb_of S1 ⟨by decide, by decide⟩) (hat56_2 := H1.at (inb_of S1 ⟨by decide, by decide⟩) rfl) (hin59_2 := inb_of S2 ⟨by decide, by decide⟩) (hat59_2 := H2.at (inb_of S2 ⟨by decide, by decide⟩) rfl) (hc5 := by decide) (hc51 := by decide) (hc60 := rfl) (hc51_2 := by decide) (hc60_2 := rfl) (hc51_3 := by decide)
  · exact rm7e3 l Z a0 hw ws (a1 := a1) (a2 := a2) (p3 := (3 : Int32)) (w4 := x0) (cl_a1 := c1) (w5 := x0) (cl_a2 := c2) (w6 := x1) (w7 := x1) (w8 := x2) (w9 := x2) (h0 := h0) (n0 := n0) (Z0 := Z0) (Ar_a1 := A1) (hin56 := inb_of S1 ⟨by decide, by decide⟩) (hat56 := H1.at (inb_of S1 ⟨by decide, by decide⟩) rfl) (Ar_a2 := A2) (hin59 := inb_of S2 ⟨by decide, by decide⟩) (hat59 := H2.at (inb_of S2 ⟨by decide, by decide⟩) rfl) (hin56_2 := inb_of S1 ⟨by decide, by decide⟩) (hat56_2 := H1.at (inb_of S1 ⟨by decide, by decide⟩) rfl) (hin59_2 := inb_of S2 ⟨by decide, by decide⟩) (hat59_2 := H2.at (inb_of S2 ⟨by decide, by decide⟩) rfl) (hin56_3 := inb_of S1 ⟨by decide, by decide⟩) (hat56_3 := H1.at (inb_of S1 ⟨by decide, by decide⟩) rfl) (hin59_3 := inb_of S2 ⟨by decide, by decide⟩) (hat59_3 := H2.at (inb_of S2 ⟨by decide, by decide⟩) rfl) (hc5 := by decide) (hc51 := by decide) (hc60 := rfl) (hc51_2 := by decide) (hc60_2 := rfl) (hc51_3 := by decide) (hc60_3 := rfl) (hc51_4 := by decide)
theorem d7_63 : decode jdk_48_method_13_code 63 = .ok (.iload_n 3, 1) := by decide +kernel
theorem d7_64 : decode jdk_48_method_13_code 64 = .ok (.ireturn, 1) := by decide +kernel
set_option maxRecDepth 65536 in
set_option maxHeartbeats 40000000 in
theorem rm7n (l : Launch) (Z : State) (a0 : Array Value) (hw : ∀ d ∈ tables_1, d.before a0 Z = true) (ws : List Jvm.Cond) (a1 : Addr) (a2 : Addr) (p3 : Int32) (w4 : Int32) (cl_a1 : Cell) (w5 : Int32) (cl_a2 : Cell) (h0 : Heap) (n0 : Nat) (Z0 : n0 ≤ h0.size) (Ar_a1 : Arr Z h0 a1 cl_a1 .byte) (hin56 : ¬ ((0 : Int32) < 0 ∨ cl_a1.slots.size ≤ ((0 : Int32)).toNatClampNeg)) (hat56 : cl_a1.slots[((0 : Int32)).toNatClampNeg]? = some (.int w4)) (Ar_a2 : Arr Z h0 a2 cl_a2 .byte) (hin59 : ¬ ((0 : Int32) < 0 ∨ cl_a2.slots.size ≤ ((0 : Int32)).toNatClampNeg)) (hat59 : cl_a2.slots[((0 : Int32)).toNatClampNeg]? = some (.int w5)) (hc5 : ¬ ((7 : Int32) < p3)) (hc51 : (0 : Int32) < p3) (hc60 : ¬ (w4 = w5)) :
    MetFree l (⟨"jdk/internal/util/ArraysSupport", "mismatch", "([B[BI)I"⟩ : MethodName) (head1 (Jvm.Cond.code (⟨"jdk/internal/util/ArraysSupport", "mismatch", "([B[BI)I"⟩ : MethodName) jdk_48_method_13_code 4 (some .int) :: ws) ({ frames := 0, cells := 0, slots := 0, locals := 0 } : Room)) (fun a U => a = #[(.ref a1), (.ref a2), (.int p3)] ∧ Z.Warmed39 U.vm ∧ U.heap = h0) (fun _ _ _ _ _ => True) (fun _ U o U' => ∃ v L, o = .returned v ∧ QF (0 : Int32) h0 n0 v U'.heap L ∧ FrameEnd U o U' L ({ frames := 0, cells := 0, slots := 0, locals := 0 } : Room).cells ({ frames := 0, cells := 0, slots := 0, locals := 0 } : Room).slots) := by
  refine MetFree.of_bodySF (plainFor_of_name pn_7) hisR ?_
  intro p e s m args below meth c s₁ Bd hml0 hP hK
  obtain ⟨rfl, hZ, hh⟩ := hP
  have hx := Bd.exec
  have hby := Bd.bytes
  have hml : c.maxLocals = 4 := hml0
  have hown : s.vm.findClass "jdk/internal/util/ArraysSupport" = some m.cls := findClass_of_methodNamed Bd.named
  have hnm := (name_of_methodNamed Bd.named Bd.method).1
  have X0 : Stand p l e ({ frames := 0, cells := 0, slots := 0, locals := 0 } : Room) s m #[(.ref a1), (.ref a2), (.int p3)] below meth c s₁ [] 0 0 := Stand.of_body Bd
  have e0 : s₁.heap = h0 := by rw [← hh, Bd.state]; rfl
  have N0 := Fr.nil n0
  have pre0 : ∀ t, Steps p.tables e below (s₁.setTop (mkF m 0 #[.val (.ref a1), .val (.ref a2), .val (.int p3), .unset] [])) t → Steps p.tables e below (s₁.setTop (entryFrame m #[(.ref a1), (.ref a2), (.int p3)] 4)) t := fun t k => castTop (ef_7 m a1 a2 p3) k
  obtain ⟨fs, hr, hrun, hended, hW, hsame⟩ := X0.leave (v := some (.int (0 : Int32))) (fun h => by rw [Bd.returns] at h; cases h)
  refine ⟨_, _, pre0 _ ?_, hrun, hended, _, _, rfl, ?_, ⟨_, rfl⟩, hW, hsame.mono (by decide) (by decide)⟩
  · show Steps p.tables e below (s₁.setTop (mkF m 0 #[.val (.ref a1), .val (.ref a2), .val (.int p3), .unset] [])) _
    refine XS.iconst X0.here hx rfl (hb hby d7_0) ?_
    show Steps p.tables e below (s₁.setTop (mkF m 1 #[.val (.ref a1), .val (.ref a2), .val (.int p3), .unset] [(.int (0 : Int32))])) _
    refine XS.istoreN X0.here hx rfl (hb hby d7_1) rfl (l' := #[.val (.ref a1), .val (.ref a2), .val (.int p3), .val (.int (0 : Int32))]) rfl ?_
    show Steps p.tables e below (s₁.setTop (mkF m 2 #[.val (.ref a1), .val (.ref a2), .val (.int p3), .val (.int (0 : Int32))] [])) _
    refine XS.iloadN X0.here hx rfl (hb hby d7_2) rfl ?_
    show Steps p.tables e below (s₁.setTop (mkF m 3 #[.val (.ref a1), .val (.ref a2), .val (.int p3), .val (.int (0 : Int32))] [(.int p3)])) _
    refine XS.bipush X0.here hx rfl (hb hby d7_3) ?_
    show Steps p.tables e below (s₁.setTop (mkF m 5 #[.val (.ref a1), .val (.ref a2), .val (.int p3), .val (.int (0 : Int32))] [(.int (7 : Int32)), (.int p3)])) _
    refine XS.icmpYes X0.here hx rfl (pc0 := 5) (pc' := 49) rfl (hb hby d7_5) rfl (flt hc5).2.2.2 (by decide) (by decide) ?_
    show Steps p.tables e below (s₁.setTop (mkF m 49 #[.val (.ref a1), .val (.ref a2), .val (.int p3), .val (.int (0 : Int32))] [])) _
    refine XS.iloadN X0.here hx rfl (hb hby d7_49) rfl ?_
    show Steps p.tables e below (s₁.setTop (mkF m 50 #[.val (.ref a1), .val (.ref a2), .val (.int p3), .val (.int (0 : Int32))] [(.int (0 : Int32))])) _
    refine XS.iloadN X0.here hx rfl (hb hby d7_50) rfl ?_
    show Steps p.tables e below (s₁.setTop (mkF m 51 #[.val (.ref a1), .val (.ref a2), .val (.int p3), .val (.int (0 : Int32))] [(.int p3), (.int (0 : Int32))])) _
    refine XS.icmpNo X0.here hx rfl (hb hby d7_51) rfl (tlt hc51).2.1 ?_
    show Steps p.tables e below (s₁.setTop (mkF m 54 #[.val (.ref a1), .val (.ref a2), .val (.int p3), .val (.int (0 : Int32))] [])) _
    refine XS.aloadN X0.here hx rfl (hb hby d7_54) rfl rfl ?_
    show Steps p.tables e below (s₁.setTop (mkF m 55 #[.val (.ref a1), .val (.ref a2), .val (.int p3), .val (.int (0 : Int32))] [(.ref a1)])) _
    refine XS.iloadN X0.here hx rfl (hb hby d7_55) rfl ?_
    show Steps p.tables e below (s₁.setTop (mkF m 56 #[.val (.ref a1), .val (.ref a2), .val (.int p3), .val (.int (0 : Int32))] [(.int (0 : Int32)), (.ref a1)])) _
    refine X0.baloadBytes hx (j := (0 : Int32)) (v := (.int w4)) (by rw [e0]; exact Ar_a1.1) (State.isArrayOf_alike hZ.alike Ar_a1.2.1) Ar_a1.2.2 hin56 hat56 (g := (mkF m 56 #[.val (.ref a1), .val (.ref a2), .val (.int p3), .val (.int (0 : Int32))] [(.int (0 : Int32)), (.ref a1)])) rfl rfl (hb hby d7_56) _ ?_
    show Steps p.tables e below (s₁.setTop (mkF m 57 #[.val (.ref a1), .val (.ref a2), .val (.int p3), .val (.int (0 : Int32))] [(.int w4)])) _
    refine XS.aloadN X0.here hx rfl (hb hby d7_57) rfl rfl ?_
    show Steps p.tables e below (s₁.setTop (mkF m 58 #[.val (.ref a1), .val (.ref a2), .val (.int p3), .val (.int (0 : Int32))] [(.ref a2), (.int w4)])) _
    refine XS.iloadN X0.here hx rfl (hb hby d7_58) rfl ?_
    show Steps p.tables e below (s₁.setTop (mkF m 59 #[.val (.ref a1), .val (.ref a2), .val (.int p3), .val (.int (0 : Int32))] [(.int (0 : Int32)), (.ref a2), (.int w4)])) _
    refine X0.baloadBytes hx (j := (0 : Int32)) (v := (.int w5)) (by rw [e0]; exact Ar_a2.1) (State.isArrayOf_alike hZ.alike Ar_a2.2.1) Ar_a2.2.2 hin59 hat59 (g := (mkF m 59 #[.val (.ref a1), .val (.ref a2), .val (.int p3), .val (.int (0 : Int32))] [(.int (0 : Int32)), (.ref a2), (.int w4)])) rfl rfl (hb hby d7_59) _ ?_
    show Steps p.tables e below (s₁.setTop (mkF m 60 #[.val (.ref a1), .val (.ref a2), .val (.int p3), .val (.int (0 : Int32))] [(.int w5), (.int w4)])) _
    refine XS.icmpNo X0.here hx rfl (hb hby d7_60) rfl (feq hc60).1 ?_
    show Steps p.tables e below (s₁.setTop (mkF m 63 #[.val (.ref a1), .val (.ref a2), .val (.int p3), .val (.int (0 : Int32))] [])) _
    refine XS.iloadN X0.here hx rfl (hb hby d7_63) rfl ?_
    show Steps p.tables e below (s₁.setTop (mkF m 64 #[.val (.ref a1), .val (.ref a2), .val (.int p3), .val (.int (0 : Int32))] [(.int (0 : Int32))])) _
    exact retI X0 hx Bd.returns (hb hby d7_64) hr
  · show QF (0 : Int32) h0 n0 _ s₁.heap _
    rw [e0]
    exact ⟨rfl, N0, rfl⟩
theorem rmMn (l : Launch) (Z : State) (a0 : Array Value) (hw : ∀ d ∈ tables_1, d.before a0 Z = true) (ws : List Jvm.Cond) (a1 a2 : Addr) (k1 k2 : ClassId) (z : Int32) (x0 y0 : Int32) (vs ws' : List Value) (h0 : Heap) (n0 : Nat) (Z0 : n0 ≤ h0.size) (hz0 : (0 : Int32) < z) (hz7 : ¬ ((7 : Int32) < z)) (hne : ¬ (x0 = y0)) (V1 : Arv Z h0 a1 k1 .byte z ((.int x0) :: vs) (.int (0 : Int32))) (V2 : Arv Z h0 a2 k2 .byte z ((.int y0) :: ws') (.int (0 : Int32))) :
    MetFree l (⟨"jdk/internal/util/ArraysSupport", "mismatch", "([B[BI)I"⟩ : MethodName) (head1 (Jvm.Cond.code (⟨"jdk/internal/util/ArraysSupport", "mismatch", "([B[BI)I"⟩ : MethodName) jdk_48_method_13_code 4 (some .int) :: ws) ({ frames := 0, cells := 0, slots := 0, locals := 0 } : Room)) (fun a U => a = #[(.ref a1), (.ref a2), (.int z)] ∧ Z.Warmed39 U.vm ∧ U.heap = h0) (fun _ _ _ _ _ => True) (fun _ U o U' => ∃ v L, o = .returned v ∧ QF (0 : Int32) h0 n0 v U'.heap L ∧ FrameEnd U o U' L ({ frames := 0, cells := 0, slots := 0, locals := 0 } : Room).cells ({ frames := 0, cells := 0, slots := 0, locals := 0 } : Room).slots) := by
  obtain ⟨c1, A1, -, S1, N1, H1, -⟩ := V1
  obtain ⟨c2, A2, -, S2, N2, H2, -⟩ := V2
  exact rm7n l Z a0 hw ws (a1 := a1) (a2 := a2) (p3 := z) (w4 := x0) (cl_a1 := c1) (w5 := y0) (cl_a2 := c2) (h0 := h0) (n0 := n0) (Z0 := Z0) (Ar_a1 := A1) (hin56 := inb_of S1 ⟨by decide, hz0⟩) (hat56 := H1.at (inb_of S1 ⟨by decide, hz0⟩) rfl) (Ar_a2 := A2) (hin59 := inb_of S2 ⟨by decide, hz0⟩) (hat59 := H2.at (inb_of S2 ⟨by decide, hz0⟩) rfl) (hc5 := hz7) (hc51 := hz0) (hc60 := hne)
theorem d6_0 : decode jdk_65_method_89_code 0 = .ok (.aload_n 0, 1) := by decide +kernel
theorem d6_1 : decode jdk_65_method_89_code 1 = .ok (.aload_n 1, 1) := by decide +kernel
theorem d6_2 : decode jdk_65_method_89_code 2 = .ok (.if_acmp .ne 5, 3) := by decide +kernel
theorem d6_7 : decode jdk_65_method_89_code 7 = .ok (.aload_n 0, 1) := by decide +kernel
theorem d6_8 : decode jdk_65_method_89_code 8 = .ok (.ifnull 7, 3) := by decide +kernel
theorem d6_11 : decode jdk_65_method_89_code 11 = .ok (.aload_n 1, 1) := by decide +kernel
theorem d6_12 : decode jdk_65_method_89_code 12 = .ok (.ifnonnull 5, 3) := by decide +kernel
theorem d6_17 : decode jdk_65_method_89_code 17 = .ok (.aload_n 0, 1) := by decide +kernel
theorem d6_18 : decode jdk_65_method_89_code 18 = .ok (.arraylength, 1) := by decide +kernel
theorem d6_19 : decode jdk_65_method_89_code 19 = .ok (.istore_n 2, 1) := by decide +kernel
theorem d6_20 : decode jdk_65_method_89_code 20 = .ok (.aload_n 1, 1) := by decide +kernel
theorem d6_21 : decode jdk_65_method_89_code 21 = .ok (.arraylength, 1) := by decide +kernel
theorem d6_22 : decode jdk_65_method_89_code 22 = .ok (.iload_n 2, 1) := by decide +kernel
theorem d6_23 : decode jdk_65_method_89_code 23 = .ok (.if_icmp .eq 5, 3) := by decide +kernel
theorem d6_28 : decode jdk_65_method_89_code 28 = .ok (.aload_n 0, 1) := by decide +kernel
theorem d6_29 : decode jdk_65_method_89_code 29 = .ok (.aload_n 1, 1) := by decide +kernel
theorem d6_30 : decode jdk_65_method_89_code 30 = .ok (.iload_n 2, 1) := by decide +kernel
theorem d6_31 : decode jdk_65_method_89_code 31 = .ok (.invokestatic 272, 3) := by decide +kernel
theorem d6_34 : decode jdk_65_method_89_code 34 = .ok (.ifCond .ge 7, 3) := by decide +kernel
theorem d6_37 : decode jdk_65_method_89_code 37 = .ok (.iconst 1, 1) := by decide +kernel
theorem d6_38 : decode jdk_65_method_89_code 38 = .ok (.goto 4, 3) := by decide +kernel
theorem d6_42 : decode jdk_65_method_89_code 42 = .ok (.ireturn, 1) := by decide +kernel
theorem pn_6 : plainName "java/util/Arrays" = true := by first | (simp [plainName, overriddenIn]; done) | decide +kernel
theorem pd_6_7 : parseMethodDescriptor "([B[BI)I" = some ⟨[(.array .byte), (.array .byte), .int], some .int⟩ := by decide +kernel
theorem ef_6 (m : MethodId) (x0 : Addr) (x1 : Addr) : entryFrame m #[(.ref x0), (.ref x1)] 3 = mkF m 0 #[.val (.ref x0), .val (.ref x1), .unset] [] := by first | (simp [entryFrame, mkF, argsToLocals, Value.category]; done) | rfl
set_option maxRecDepth 65536 in
set_option maxHeartbeats 40000000 in
theorem rm6e (l : Launch) (Z : State) (a0 : Array Value) (hw : ∀ d ∈ tables_1, d.before a0 Z = true) (ws : List Jvm.Cond) (a1 a2 : Addr) (k1 k2 : ClassId) (z : Int32) (vs : List Value) (h0 : Heap) (n0 : Nat) (Z0 : n0 ≤ h0.size) (hs : own_sm z vs) (V1 : Arv Z h0 a1 k1 .byte z vs (.int (0 : Int32))) (V2 : Arv Z h0 a2 k2 .byte z vs (.int (0 : Int32))) (ha2 : ¬ (a1 = a2)) :
    MetFree l (⟨"java/util/Arrays", "equals", "([B[B)Z"⟩ : MethodName) (head1 (Jvm.Cond.code (⟨"java/util/Arrays", "equals", "([B[B)Z"⟩ : MethodName) jdk_65_method_89_code 3 (some .boolean) :: ws) ({ frames := 1, cells := 0, slots := 0, locals := 15 } : Room)) (fun a U => a = #[(.ref a1), (.ref a2)] ∧ Z.Warmed39 U.vm ∧ U.heap = h0) (fun _ _ _ _ _ => True) (fun _ U o U' => ∃ v L, o = .returned v ∧ QF (1 : Int32) h0 n0 v U'.heap L ∧ FrameEnd U o U' L ({ frames := 1, cells := 0, slots := 0, locals := 15 } : Room).cells ({ frames := 1, cells := 0, slots := 0, locals := 15 } : Room).slots) := by
  obtain ⟨cl_a1, Ar_a1, -, S_a1, N_a1, -, -⟩ := id V1
  obtain ⟨cl_a2, Ar_a2, -, S_a2, N_a2, -, -⟩ := id V2
  refine MetFree.of_bodySF (plainFor_of_name pn_6) hisR ?_
  intro p e s m args below meth c s₁ Bd hml0 hP hK
  obtain ⟨rfl, hZ, hh⟩ := hP
  have hx := Bd.exec
  have hby := Bd.bytes
  have hml : c.maxLocals = 3 := hml0
  have hown : s.vm.findClass "java/util/Arrays" = some m.cls := findClass_of_methodNamed Bd.named
  have hnm := (name_of_methodNamed Bd.named Bd.method).1
  have X0 : Stand p l e ({ frames := 1, cells := 0, slots := 0, locals := 15 } : Room) s m #[(.ref a1), (.ref a2)] below meth c s₁ [] 0 0 := Stand.of_body Bd
  have e0 : s₁.heap = h0 := by rw [← hh, Bd.state]; rfl
  have N0 := Fr.nil n0
  have pre0 : ∀ t, Steps p.tables e below (s₁.setTop (mkF m 0 #[.val (.ref a1), .val (.ref a2), .unset] [])) t → Steps p.tables e below (s₁.setTop (entryFrame m #[(.ref a1), (.ref a2)] 3)) t := fun t k => castTop (ef_6 m a1 a2) k
  obtain ⟨_, _, ⟨T3, L3, k3, n3⟩, -, X3, ⟨Lc3, hQ3, l3, y3, z3⟩, st3⟩ := Jvm.LawKit.callS X0 hx (y := (⟨"jdk/internal/util/ArraysSupport", "mismatch", "([B[BI)I"⟩ : MethodName)) hown (mvT hZ (hw _ (List.mem_of_getElem? (i := 39) rfl))) (mvT hZ (hw _ (List.mem_of_getElem? (i := 40) rfl))) (mvT hZ (hw _ (List.mem_of_getElem? (i := 41) rfl))) (mvT hZ (hw _ (List.mem_of_getElem? (i := 42) rfl))) (by decide) (backOf (W := 0) (rmMe l Z a0 hw [] a1 a2 k1 k2 z vs h0 n0 Z0 hs V1 V2) hZ (hw _ (List.mem_of_getElem? (i := 42) rfl)) (hw _ (List.mem_of_getElem? (i := 41) rfl)) (by decide) (by decide)) (g := (mkF m 31 #[.val (.ref a1), .val (.ref a2), .val (.int z)] [(.int z), (.ref a2), (.ref a1)])) rfl (by rw [hml]; rfl) (argsL := [(.ref a1), (.ref a2), (.int z)]) (rest := []) (lenOf pd_6_7 rfl) rfl (by show 2 * 0 + _ ≤ _; exact Nat.le_of_eq rfl) (hb hby d6_31) (fun _ _ => ⟨rfl, e0, (by decide : 0 + 0 ≤ _), (by decide : 0 + 0 ≤ _)⟩)
  dsimp only [Pt.U, Pt.locs, Pt.cells, Pt.slots] at X3 l3 y3 z3 st3 hQ3
  subst l3 y3 z3
  obtain ⟨rfl, N3q, e3q⟩ := hQ3
  have N3 := Fr.app N0 N3q
  obtain ⟨fs, hr, hrun, hended, hW, hsame⟩ := X3.leave (v := some (.int (1 : Int32))) (fun h => by rw [Bd.returns] at h; cases h)
  refine ⟨_, _, pre0 _ ?_, hrun, hended, _, _, rfl, ?_, ⟨_, rfl⟩, hW, hsame.mono (by decide) (by decide)⟩
  · show Steps p.tables e below (s₁.setTop (mkF m 0 #[.val (.ref a1), .val (.ref a2), .unset] [])) _
    refine XS.aloadN X0.here hx rfl (hb hby d6_0) rfl rfl ?_
    show Steps p.tables e below (s₁.setTop (mkF m 1 #[.val (.ref a1), .val (.ref a2), .unset] [(.ref a1)])) _
    refine XS.aloadN X0.here hx rfl (hb hby d6_1) rfl rfl ?_
    show Steps p.tables e below (s₁.setTop (mkF m 2 #[.val (.ref a1), .val (.ref a2), .unset] [(.ref a2), (.ref a1)])) _
    refine Jvm.RoadKit.acmp (g := (mkF m 2 #[.val (.ref a1), .val (.ref a2), .unset] [(.ref a2), (.ref a1)])) X0 hx rfl rfl rfl (pc0 := 2) (pc' := 7) (same := false) rfl (hb hby d6_2) rfl (decide_eq_false fun q => ha2 (Value.ref.inj q)) (by decide) (by decide) ?_
    show Steps p.tables e below (s₁.setTop (mkF m 7 #[.val (.ref a1), .val (.ref a2), .unset] [])) _
    refine XS.aloadN X0.here hx rfl (hb hby d6_7) rfl rfl ?_
    show Steps p.tables e below (s₁.setTop (mkF m 8 #[.val (.ref a1), .val (.ref a2), .unset] [(.ref a1)])) _
    refine XS.ifnullNo X0.here hx rfl (hb hby d6_8) rfl ?_
    show Steps p.tables e below (s₁.setTop (mkF m 11 #[.val (.ref a1), .val (.ref a2), .unset] [])) _
    refine XS.aloadN X0.here hx rfl (hb hby d6_11) rfl rfl ?_
    show Steps p.tables e below (s₁.setTop (mkF m 12 #[.val (.ref a1), .val (.ref a2), .unset] [(.ref a2)])) _
    refine XS.ifnonnullYes X0.here hx rfl (pc0 := 12) (pc' := 17) rfl (hb hby d6_12) rfl (by decide) (by decide) ?_
    show Steps p.tables e below (s₁.setTop (mkF m 17 #[.val (.ref a1), .val (.ref a2), .unset] [])) _
    refine XS.aloadN X0.here hx rfl (hb hby d6_17) rfl rfl ?_
    show Steps p.tables e below (s₁.setTop (mkF m 18 #[.val (.ref a1), .val (.ref a2), .unset] [(.ref a1)])) _
    refine X0.arraylength hx (by rw [e0]; exact Ar_a1.1) (State.isArrayOf_alike hZ.alike Ar_a1.2.1) (g := (mkF m 18 #[.val (.ref a1), .val (.ref a2), .unset] [(.ref a1)])) rfl rfl (hb hby d6_18) _ ?_
    rw [len_of S_a1 N_a1]
    show Steps p.tables e below (s₁.setTop (mkF m 19 #[.val (.ref a1), .val (.ref a2), .unset] [(.int z)])) _
    refine XS.istoreN X0.here hx rfl (hb hby d6_19) rfl (l' := #[.val (.ref a1), .val (.ref a2), .val (.int z)]) rfl ?_
    show Steps p.tables e below (s₁.setTop (mkF m 20 #[.val (.ref a1), .val (.ref a2), .val (.int z)] [])) _
    refine XS.aloadN X0.here hx rfl (hb hby d6_20) rfl rfl ?_
    show Steps p.tables e below (s₁.setTop (mkF m 21 #[.val (.ref a1), .val (.ref a2), .val (.int z)] [(.ref a2)])) _
    refine X0.arraylength hx (by rw [e0]; exact Ar_a2.1) (State.isArrayOf_alike hZ.alike Ar_a2.2.1) (g := (mkF m 21 #[.val (.ref a1), .val (.ref a2), .val (.int z)] [(.ref a2)])) rfl rfl (hb hby d6_21) _ ?_
    rw [len_of S_a2 N_a2]
    show Steps p.tables e below (s₁.setTop (mkF m 22 #[.val (.ref a1), .val (.ref a2), .val (.int z)] [(.int z)])) _
    refine XS.iloadN X0.here hx rfl (hb hby d6_22) rfl ?_
    show Steps p.tables e below (s₁.setTop (mkF m 23 #[.val (.ref a1), .val (.ref a2), .val (.int z)] [(.int z), (.int z)])) _
    refine XS.icmpYes X0.here hx rfl (pc0 := 23) (pc' := 28) rfl (hb hby d6_23) rfl (teq (rfl : z = z)).1 (by decide) (by decide) ?_
    show Steps p.tables e below (s₁.setTop (mkF m 28 #[.val (.ref a1), .val (.ref a2), .val (.int z)] [])) _
    refine XS.aloadN X0.here hx rfl (hb hby d6_28) rfl rfl ?_
    show Steps p.tables e below (s₁.setTop (mkF m 29 #[.val (.ref a1), .val (.ref a2), .val (.int z)] [(.ref a1)])) _
    refine XS.aloadN X0.here hx rfl (hb hby d6_29) rfl rfl ?_
    show Steps p.tables e below (s₁.setTop (mkF m 30 #[.val (.ref a1), .val (.ref a2), .val (.int z)] [(.ref a2), (.ref a1)])) _
    refine XS.iloadN X0.here hx rfl (hb hby d6_30) rfl ?_
    show Steps p.tables e below (s₁.setTop (mkF m 31 #[.val (.ref a1), .val (.ref a2), .val (.int z)] [(.int z), (.ref a2), (.ref a1)])) _
    refine st3 _ ?_
    show Steps p.tables e below (T3.setTop (mkF m 34 #[.val (.ref a1), .val (.ref a2), .val (.int z)] [(.int (-1 : Int32))])) _
    refine XS.ifNo X3.here hx rfl (hb hby d6_34) rfl ((if0 _ _).trans (tlt (by decide : (-1 : Int32) < (0 : Int32))).2.1) ?_
    show Steps p.tables e below (T3.setTop (mkF m 37 #[.val (.ref a1), .val (.ref a2), .val (.int z)] [])) _
    refine XS.iconst X3.here hx rfl (hb hby d6_37) ?_
    show Steps p.tables e below (T3.setTop (mkF m 38 #[.val (.ref a1), .val (.ref a2), .val (.int z)] [(.int (1 : Int32))])) _
    refine XS.goto X3.here hx rfl (pc0 := 38) (pc' := 42) rfl (hb hby d6_38) (by decide) (by decide) ?_
    show Steps p.tables e below (T3.setTop (mkF m 42 #[.val (.ref a1), .val (.ref a2), .val (.int z)] [(.int (1 : Int32))])) _
    exact retN X3 hx (t := .boolean) Bd.returns (by simp) (hb hby d6_42) hr
  · show QF (1 : Int32) h0 n0 _ T3.heap _
    exact ⟨rfl, N3, e3q⟩
theorem d6_41 : decode jdk_65_method_89_code 41 = .ok (.iconst 0, 1) := by decide +kernel
set_option maxRecDepth 65536 in
set_option maxHeartbeats 40000000 in
theorem rm6n (l : Launch) (Z : State) (a0 : Array Value) (hw : ∀ d ∈ tables_1, d.before a0 Z = true) (ws : List Jvm.Cond) (a1 a2 : Addr) (k1 k2 : ClassId) (z : Int32) (x0 y0 : Int32) (vs ws' : List Value) (h0 : Heap) (n0 : Nat) (Z0 : n0 ≤ h0.size) (hz0 : (0 : Int32) < z) (hz7 : ¬ ((7 : Int32) < z)) (hne : ¬ (x0 = y0)) (V1 : Arv Z h0 a1 k1 .byte z ((.int x0) :: vs) (.int (0 : Int32))) (V2 : Arv Z h0 a2 k2 .byte z ((.int y0) :: ws') (.int (0 : Int32))) (ha2 : ¬ (a1 = a2)) :
    MetFree l (⟨"java/util/Arrays", "equals", "([B[B)Z"⟩ : MethodName) (head1 (Jvm.Cond.code (⟨"java/util/Arrays", "equals", "([B[B)Z"⟩ : MethodName) jdk_65_method_89_code 3 (some .boolean) :: ws) ({ frames := 1, cells := 0, slots := 0, locals := 15 } : Room)) (fun a U => a = #[(.ref a1), (.ref a2)] ∧ Z.Warmed39 U.vm ∧ U.heap = h0) (fun _ _ _ _ _ => True) (fun _ U o U' => ∃ v L, o = .returned v ∧ QF (0 : Int32) h0 n0 v U'.heap L ∧ FrameEnd U o U' L ({ frames := 1, cells := 0, slots := 0, locals := 15 } : Room).cells ({ frames := 1, cells := 0, slots := 0, locals := 15 } : Room).slots) := by
  obtain ⟨cl_a1, Ar_a1, -, S_a1, N_a1, -, -⟩ := id V1
  obtain ⟨cl_a2, Ar_a2, -, S_a2, N_a2, -, -⟩ := id V2
  refine MetFree.of_bodySF (plainFor_of_name pn_6) hisR ?_
  intro p e s m args below meth c s₁ Bd hml0 hP hK
  obtain ⟨rfl, hZ, hh⟩ := hP
  have hx := Bd.exec
  have hby := Bd.bytes
  have hml : c.maxLocals = 3 := hml0
  have hown : s.vm.findClass "java/util/Arrays" = some m.cls := findClass_of_methodNamed Bd.named
  have hnm := (name_of_methodNamed Bd.named Bd.method).1
  have X0 : Stand p l e ({ frames := 1, cells := 0, slots := 0, locals := 15 } : Room) s m #[(.ref a1), (.ref a2)] below meth c s₁ [] 0 0 := Stand.of_body Bd
  have e0 : s₁.heap = h0 := by rw [← hh, Bd.state]; rfl
  have N0 := Fr.nil n0
  have pre0 : ∀ t, Steps p.tables e below (s₁.setTop (mkF m 0 #[.val (.ref a1), .val (.ref a2), .unset] [])) t → Steps p.tables e below (s₁.setTop (entryFrame m #[(.ref a1), (.ref a2)] 3)) t := fun t k => castTop (ef_6 m a1 a2) k
  obtain ⟨_, _, ⟨T3, L3, k3, n3⟩, -, X3, ⟨Lc3, hQ3, l3, y3, z3⟩, st3⟩ := Jvm.LawKit.callS X0 hx (y := (⟨"jdk/internal/util/ArraysSupport", "mismatch", "([B[BI)I"⟩ : MethodName)) hown (mvT hZ (hw _ (List.mem_of_getElem? (i := 39) rfl))) (mvT hZ (hw _ (List.mem_of_getElem? (i := 40) rfl))) (mvT hZ (hw _ (List.mem_of_getElem? (i := 41) rfl))) (mvT hZ (hw _ (List.mem_of_getElem? (i := 42) rfl))) (by decide) (backOf (W := 0) (rmMn l Z a0 hw [] a1 a2 k1 k2 z x0 y0 vs ws' h0 n0 Z0 hz0 hz7 hne V1 V2) hZ (hw _ (List.mem_of_getElem? (i := 42) rfl)) (hw _ (List.mem_of_getElem? (i := 41) rfl)) (by decide) (by decide)) (g := (mkF m 31 #[.val (.ref a1), .val (.ref a2), .val (.int z)] [(.int z), (.ref a2), (.ref a1)])) rfl (by rw [hml]; rfl) (argsL := [(.ref a1), (.ref a2), (.int z)]) (rest := []) (lenOf pd_6_7 rfl) rfl (by show 2 * 0 + _ ≤ _; exact Nat.le_of_eq rfl) (hb hby d6_31) (fun _ _ => ⟨rfl, e0, (by decide : 0 + 0 ≤ _), (by decide : 0 + 0 ≤ _)⟩)
  dsimp only [Pt.U, Pt.locs, Pt.cells, Pt.slots] at X3 l3 y3 z3 st3 hQ3
  subst l3 y3 z3
  obtain ⟨rfl, N3q, e3q⟩ := hQ3
  have N3 := Fr.app N0 N3q
  obtain ⟨fs, hr, hrun, hended, hW, hsame⟩ := X3.leave (v := some (.int (0 : Int32))) (fun h => by rw [Bd.returns] at h; cases h)
  refine ⟨_, _, pre0 _ ?_, hrun, hended, _, _, rfl, ?_, ⟨_, rfl⟩, hW, hsame.mono (by decide) (by decide)⟩
  · show Steps p.tables e below (s₁.setTop (mkF m 0 #[.val (.ref a1), .val (.ref a2), .unset] [])) _
    refine XS.aloadN X0.here hx rfl (hb hby d6_0) rfl rfl ?_
    show Steps p.tables e below (s₁.setTop (mkF m 1 #[.val (.ref a1), .val (.ref a2), .unset] [(.ref a1)])) _
    refine XS.aloadN X0.here hx rfl (hb hby d6_1) rfl rfl ?_
    show Steps p.tables e below (s₁.setTop (mkF m 2 #[.val (.ref a1), .val (.ref a2), .unset] [(.ref a2), (.ref a1)])) _
    refine Jvm.RoadKit.acmp (g := (mkF m 2 #[.val (.ref a1), .val (.ref a2), .unset] [(.ref a2), (.ref a1)])) X0 hx rfl rfl rfl (pc0 := 2) (pc' := 7) (same := false) rfl (hb hby d6_2) rfl (decide_eq_false fun q => ha2 (Value.ref.inj q)) (by decide) (by decide) ?_
    show Steps p.tables e below (s₁.setTop (mkF m 7 #[.val (.ref a1), .val (.ref a2), .unset] [])) _
    refine XS.aloadN X0.here hx rfl (hb hby d6_7) rfl rfl ?_
    show Steps p.tables e below (s₁.setTop (mkF m 8 #[.val (.ref a1), .val (.ref a2), .unset] [(.ref a1)])) _
    refine XS.ifnullNo X0.here hx rfl (hb hby d6_8) rfl ?_
    show Steps p.tables e below (s₁.setTop (mkF m 11 #[.val (.ref a1), .val (.ref a2), .unset] [])) _
    refine XS.aloadN X0.here hx rfl (hb hby d6_11) rfl rfl ?_
    show Steps p.tables e below (s₁.setTop (mkF m 12 #[.val (.ref a1), .val (.ref a2), .unset] [(.ref a2)])) _
    refine XS.ifnonnullYes X0.here hx rfl (pc0 := 12) (pc' := 17) rfl (hb hby d6_12) rfl (by decide) (by decide) ?_
    show Steps p.tables e below (s₁.setTop (mkF m 17 #[.val (.ref a1), .val (.ref a2), .unset] [])) _
    refine XS.aloadN X0.here hx rfl (hb hby d6_17) rfl rfl ?_
    show Steps p.tables e below (s₁.setTop (mkF m 18 #[.val (.ref a1), .val (.ref a2), .unset] [(.ref a1)])) _
    refine X0.arraylength hx (by rw [e0]; exact Ar_a1.1) (State.isArrayOf_alike hZ.alike Ar_a1.2.1) (g := (mkF m 18 #[.val (.ref a1), .val (.ref a2), .unset] [(.ref a1)])) rfl rfl (hb hby d6_18) _ ?_
    rw [len_of S_a1 N_a1]
    show Steps p.tables e below (s₁.setTop (mkF m 19 #[.val (.ref a1), .val (.ref a2), .unset] [(.int z)])) _
    refine XS.istoreN X0.here hx rfl (hb hby d6_19) rfl (l' := #[.val (.ref a1), .val (.ref a2), .val (.int z)]) rfl ?_
    show Steps p.tables e below (s₁.setTop (mkF m 20 #[.val (.ref a1), .val (.ref a2), .val (.int z)] [])) _
    refine XS.aloadN X0.here hx rfl (hb hby d6_20) rfl rfl ?_
    show Steps p.tables e below (s₁.setTop (mkF m 21 #[.val (.ref a1), .val (.ref a2), .val (.int z)] [(.ref a2)])) _
    refine X0.arraylength hx (by rw [e0]; exact Ar_a2.1) (State.isArrayOf_alike hZ.alike Ar_a2.2.1) (g := (mkF m 21 #[.val (.ref a1), .val (.ref a2), .val (.int z)] [(.ref a2)])) rfl rfl (hb hby d6_21) _ ?_
    rw [len_of S_a2 N_a2]
    show Steps p.tables e below (s₁.setTop (mkF m 22 #[.val (.ref a1), .val (.ref a2), .val (.int z)] [(.int z)])) _
    refine XS.iloadN X0.here hx rfl (hb hby d6_22) rfl ?_
    show Steps p.tables e below (s₁.setTop (mkF m 23 #[.val (.ref a1), .val (.ref a2), .val (.int z)] [(.int z), (.int z)])) _
    refine XS.icmpYes X0.here hx rfl (pc0 := 23) (pc' := 28) rfl (hb hby d6_23) rfl (teq (rfl : z = z)).1 (by decide) (by decide) ?_
    show Steps p.tables e below (s₁.setTop (mkF m 28 #[.val (.ref a1), .val (.ref a2), .val (.int z)] [])) _
    refine XS.aloadN X0.here hx rfl (hb hby d6_28) rfl rfl ?_
    show Steps p.tables e below (s₁.setTop (mkF m 29 #[.val (.ref a1), .val (.ref a2), .val (.int z)] [(.ref a1)])) _
    refine XS.aloadN X0.here hx rfl (hb hby d6_29) rfl rfl ?_
    show Steps p.tables e below (s₁.setTop (mkF m 30 #[.val (.ref a1), .val (.ref a2), .val (.int z)] [(.ref a2), (.ref a1)])) _
    refine XS.iloadN X0.here hx rfl (hb hby d6_30) rfl ?_
    show Steps p.tables e below (s₁.setTop (mkF m 31 #[.val (.ref a1), .val (.ref a2), .val (.int z)] [(.int z), (.ref a2), (.ref a1)])) _
    refine st3 _ ?_
    show Steps p.tables e below (T3.setTop (mkF m 34 #[.val (.ref a1), .val (.ref a2), .val (.int z)] [(.int (0 : Int32))])) _
    refine XS.ifYes X3.here hx rfl (pc0 := 34) (pc' := 41) rfl (hb hby d6_34) rfl ((if0 _ _).trans (flt (by decide : ¬ ((0 : Int32) < (0 : Int32)))).2.1) (by decide) (by decide) ?_
    show Steps p.tables e below (T3.setTop (mkF m 41 #[.val (.ref a1), .val (.ref a2), .val (.int z)] [])) _
    refine XS.iconst X3.here hx rfl (hb hby d6_41) ?_
    show Steps p.tables e below (T3.setTop (mkF m 42 #[.val (.ref a1), .val (.ref a2), .val (.int z)] [(.int (0 : Int32))])) _
    exact retN X3 hx (t := .boolean) Bd.returns (by simp) (hb hby d6_42) hr
  · show QF (0 : Int32) h0 n0 _ T3.heap _
    exact ⟨rfl, N3, e3q⟩
theorem d5_0 : decode prog_44_method_6_code 0 = .ok (.aload_n 1, 1) := by decide +kernel
theorem d5_1 : decode prog_44_method_6_code 1 = .ok (.instanceof 8, 3) := by decide +kernel
theorem d5_4 : decode prog_44_method_6_code 4 = .ok (.ifCond .eq 26, 3) := by decide +kernel
theorem d5_7 : decode prog_44_method_6_code 7 = .ok (.aload_n 1, 1) := by decide +kernel
theorem d5_8 : decode prog_44_method_6_code 8 = .ok (.checkcast 8, 3) := by decide +kernel
theorem d5_11 : decode prog_44_method_6_code 11 = .ok (.astore_n 2, 1) := by decide +kernel
theorem d5_12 : decode prog_44_method_6_code 12 = .ok (.aload_n 0, 1) := by decide +kernel
theorem d5_13 : decode prog_44_method_6_code 13 = .ok (.getfield 7, 3) := by decide +kernel
theorem d5_16 : decode prog_44_method_6_code 16 = .ok (.aload_n 2, 1) := by decide +kernel
theorem d5_17 : decode prog_44_method_6_code 17 = .ok (.getfield 7, 3) := by decide +kernel
theorem d5_20 : decode prog_44_method_6_code 20 = .ok (.invokestatic 43, 3) := by decide +kernel
theorem d5_23 : decode prog_44_method_6_code 23 = .ok (.ifCond .eq 7, 3) := by decide +kernel
theorem d5_26 : decode prog_44_method_6_code 26 = .ok (.iconst 1, 1) := by decide +kernel
theorem d5_27 : decode prog_44_method_6_code 27 = .ok (.goto 4, 3) := by decide +kernel
theorem d5_31 : decode prog_44_method_6_code 31 = .ok (.ireturn, 1) := by decide +kernel
theorem pn_5 : plainName "com/example/mirrorlog/mirrorlog/core/undo/Bytes" = true := by first | (simp [plainName, overriddenIn]; done) | decide +kernel
theorem pd_5_6 : parseMethodDescriptor "([B[B)Z" = some ⟨[(.array .byte), (.array .byte)], some .boolean⟩ := by decide +kernel
theorem ef_5 (m : MethodId) (x0 : Addr) (x1 : Addr) : entryFrame m #[(.ref x0), (.ref x1)] 3 = mkF m 0 #[.val (.ref x0), .val (.ref x1), .unset] [] := by first | (simp [entryFrame, mkF, argsToLocals, Value.category]; done) | rfl
set_option maxRecDepth 65536 in
set_option maxHeartbeats 40000000 in
theorem rm5e (l : Launch) (Z : State) (a0 : Array Value) (hw : ∀ d ∈ tables_1, d.before a0 Z = true) (ws : List Jvm.Cond) (a1 a2 w5 w7 : Addr) (k1 k2 : ClassId) (z : Int32) (vs : List Value) (h0 : Heap) (n0 : Nat) (Z0 : n0 ≤ h0.size) (I_a2 : Ins Z h0 a2 "com/example/mirrorlog/mirrorlog/core/undo/Bytes" true) (F_bytes_a1 : Fld Z h0 a1 "com/example/mirrorlog/mirrorlog/core/undo/Bytes" "bytes" "[B" (.ref w5)) (F_bytes_a2 : Fld Z h0 a2 "com/example/mirrorlog/mirrorlog/core/undo/Bytes" "bytes" "[B" (.ref w7)) (hs : own_sm z vs) (V1 : Arv Z h0 w5 k1 .byte z vs (.int (0 : Int32))) (V2 : Arv Z h0 w7 k2 .byte z vs (.int (0 : Int32))) (ha2 : ¬ (w5 = w7)) :
    MetFree l (⟨"com/example/mirrorlog/mirrorlog/core/undo/Bytes", "equals", "(Ljava/lang/Object;)Z"⟩ : MethodName) (head1 (Jvm.Cond.code (⟨"com/example/mirrorlog/mirrorlog/core/undo/Bytes", "equals", "(Ljava/lang/Object;)Z"⟩ : MethodName) prog_44_method_6_code 3 (some .boolean) :: ws) ({ frames := 2, cells := 0, slots := 0, locals := 29 } : Room)) (fun a U => a = #[(.ref a1), (.ref a2)] ∧ Z.Warmed39 U.vm ∧ U.heap = h0) (fun _ _ _ _ _ => True) (fun _ U o U' => ∃ v L, o = .returned v ∧ QF (1 : Int32) h0 n0 v U'.heap L ∧ FrameEnd U o U' L ({ frames := 2, cells := 0, slots := 0, locals := 29 } : Room).cells ({ frames := 2, cells := 0, slots := 0, locals := 29 } : Room).slots) := by
  refine MetFree.of_bodySF (plainFor_of_name pn_5) hisR ?_
  intro p e s m args below meth c s₁ Bd hml0 hP hK
  obtain ⟨rfl, hZ, hh⟩ := hP
  have hx := Bd.exec
  have hby := Bd.bytes
  have hml : c.maxLocals = 3 := hml0
  have hown : s.vm.findClass "com/example/mirrorlog/mirrorlog/core/undo/Bytes" = some m.cls := findClass_of_methodNamed Bd.named
  have hnm := (name_of_methodNamed Bd.named Bd.method).1
  have X0 : Stand p l e ({ frames := 2, cells := 0, slots := 0, locals := 29 } : Room) s m #[(.ref a1), (.ref a2)] below meth c s₁ [] 0 0 := Stand.of_body Bd
  have e0 : s₁.heap = h0 := by rw [← hh, Bd.state]; rfl
  have N0 := Fr.nil n0
  have pre0 : ∀ t, Steps p.tables e below (s₁.setTop (mkF m 0 #[.val (.ref a1), .val (.ref a2), .unset] [])) t → Steps p.tables e below (s₁.setTop (entryFrame m #[(.ref a1), (.ref a2)] 3)) t := fun t k => castTop (ef_5 m a1 a2) k
  obtain ⟨T3, X3, e3, st3⟩ := instY X0 hx hZ hown (hw _ (List.mem_of_getElem? (i := 5) rfl)) e0 I_a2 (g := (mkF m 1 #[.val (.ref a1), .val (.ref a2), .unset] [(.ref a2)])) rfl rfl (hb hby d5_1)
  obtain ⟨T4, X4, e4, st4⟩ := castY X3 hx hZ hown (hw _ (List.mem_of_getElem? (i := 5) rfl)) e3 I_a2 (g := (mkF m 8 #[.val (.ref a1), .val (.ref a2), .unset] [(.ref a2)])) rfl rfl (hb hby d5_8)
  obtain ⟨T6, X6, e6, st6⟩ := getF X4 hx hZ hown (host := "") (Or.inl (hw _ (List.mem_of_getElem? (i := 22) rfl))) Via.refl e4 F_bytes_a1 (g := (mkF m 13 #[.val (.ref a1), .val (.ref a2), .val (.ref a2)] [(.ref a1)])) rfl rfl (hb hby d5_13)
  obtain ⟨T8, X8, e8, st8⟩ := getF X6 hx hZ hown (host := "") (Or.inl (hw _ (List.mem_of_getElem? (i := 22) rfl))) Via.refl e6 F_bytes_a2 (g := (mkF m 17 #[.val (.ref a1), .val (.ref a2), .val (.ref a2)] [(.ref a2), (.ref w5)])) rfl rfl (hb hby d5_17)
  obtain ⟨_, _, ⟨T9, L9, k9, n9⟩, -, X9, ⟨Lc9, hQ9, l9, y9, z9⟩, st9⟩ := Jvm.LawKit.callS X8 hx (y := (⟨"java/util/Arrays", "equals", "([B[B)Z"⟩ : MethodName)) hown (mvT hZ (hw _ (List.mem_of_getElem? (i := 35) rfl))) (mvT hZ (hw _ (List.mem_of_getElem? (i := 36) rfl))) (mvT hZ (hw _ (List.mem_of_getElem? (i := 37) rfl))) (mvT hZ (hw _ (List.mem_of_getElem? (i := 38) rfl))) (by decide) (backOf (W := 0) (rm6e l Z a0 hw [] w5 w7 k1 k2 z vs h0 n0 Z0 hs V1 V2 ha2) hZ (hw _ (List.mem_of_getElem? (i := 38) rfl)) (hw _ (List.mem_of_getElem? (i := 37) rfl)) (by decide) (by decide)) (g := (mkF m 20 #[.val (.ref a1), .val (.ref a2), .val (.ref a2)] [(.ref w7), (.ref w5)])) rfl (by rw [hml]; rfl) (argsL := [(.ref w5), (.ref w7)]) (rest := []) (lenOf pd_5_6 rfl) rfl (by show 2 * 0 + _ ≤ _; exact Nat.le_of_eq rfl) (hb hby d5_20) (fun _ _ => ⟨rfl, e8, (by decide : 0 + 0 ≤ _), (by decide : 0 + 0 ≤ _)⟩)
  dsimp only [Pt.U, Pt.locs, Pt.cells, Pt.slots] at X9 l9 y9 z9 st9 hQ9
  subst l9 y9 z9
  obtain ⟨rfl, N9q, e9q⟩ := hQ9
  have N9 := Fr.app N0 N9q
  obtain ⟨fs, hr, hrun, hended, hW, hsame⟩ := X9.leave (v := some (.int (1 : Int32))) (fun h => by rw [Bd.returns] at h; cases h)
  refine ⟨_, _, pre0 _ ?_, hrun, hended, _, _, rfl, ?_, ⟨_, rfl⟩, hW, hsame.mono (by decide) (by decide)⟩
  · show Steps p.tables e below (s₁.setTop (mkF m 0 #[.val (.ref a1), .val (.ref a2), .unset] [])) _
    refine XS.aloadN X0.here hx rfl (hb hby d5_0) rfl rfl ?_
    show Steps p.tables e below (s₁.setTop (mkF m 1 #[.val (.ref a1), .val (.ref a2), .unset] [(.ref a2)])) _
    refine st3 _ ?_
    show Steps p.tables e below (T3.setTop (mkF m 4 #[.val (.ref a1), .val (.ref a2), .unset] [(.int (1 : Int32))])) _
    refine XS.ifNo X3.here hx rfl (hb hby d5_4) rfl ((if0 _ _).trans (feq (by decide : ¬ ((1 : Int32) = (0 : Int32)))).1) ?_
    show Steps p.tables e below (T3.setTop (mkF m 7 #[.val (.ref a1), .val (.ref a2), .unset] [])) _
    refine XS.aloadN X3.here hx rfl (hb hby d5_7) rfl rfl ?_
    show Steps p.tables e below (T3.setTop (mkF m 8 #[.val (.ref a1), .val (.ref a2), .unset] [(.ref a2)])) _
    refine st4 _ ?_
    show Steps p.tables e below (T4.setTop (mkF m 11 #[.val (.ref a1), .val (.ref a2), .unset] [(.ref a2)])) _
    refine XS.astoreN X4.here hx rfl (hb hby d5_11) rfl rfl (l' := #[.val (.ref a1), .val (.ref a2), .val (.ref a2)]) rfl ?_
    show Steps p.tables e below (T4.setTop (mkF m 12 #[.val (.ref a1), .val (.ref a2), .val (.ref a2)] [])) _
    refine XS.aloadN X4.here hx rfl (hb hby d5_12) rfl rfl ?_
    show Steps p.tables e below (T4.setTop (mkF m 13 #[.val (.ref a1), .val (.ref a2), .val (.ref a2)] [(.ref a1)])) _
    refine st6 _ ?_
    show Steps p.tables e below (T6.setTop (mkF m 16 #[.val (.ref a1), .val (.ref a2), .val (.ref a2)] [(.ref w5)])) _
    refine XS.aloadN X6.here hx rfl (hb hby d5_16) rfl rfl ?_
    show Steps p.tables e below (T6.setTop (mkF m 17 #[.val (.ref a1), .val (.ref a2), .val (.ref a2)] [(.ref a2), (.ref w5)])) _
    refine st8 _ ?_
    show Steps p.tables e below (T8.setTop (mkF m 20 #[.val (.ref a1), .val (.ref a2), .val (.ref a2)] [(.ref w7), (.ref w5)])) _
    refine st9 _ ?_
    show Steps p.tables e below (T9.setTop (mkF m 23 #[.val (.ref a1), .val (.ref a2), .val (.ref a2)] [(.int (1 : Int32))])) _
    refine XS.ifNo X9.here hx rfl (hb hby d5_23) rfl ((if0 _ _).trans (feq (by decide : ¬ ((1 : Int32) = (0 : Int32)))).1) ?_
    show Steps p.tables e below (T9.setTop (mkF m 26 #[.val (.ref a1), .val (.ref a2), .val (.ref a2)] [])) _
    refine XS.iconst X9.here hx rfl (hb hby d5_26) ?_
    show Steps p.tables e below (T9.setTop (mkF m 27 #[.val (.ref a1), .val (.ref a2), .val (.ref a2)] [(.int (1 : Int32))])) _
    refine XS.goto X9.here hx rfl (pc0 := 27) (pc' := 31) rfl (hb hby d5_27) (by decide) (by decide) ?_
    show Steps p.tables e below (T9.setTop (mkF m 31 #[.val (.ref a1), .val (.ref a2), .val (.ref a2)] [(.int (1 : Int32))])) _
    exact retN X9 hx (t := .boolean) Bd.returns (by simp) (hb hby d5_31) hr
  · show QF (1 : Int32) h0 n0 _ T9.heap _
    exact ⟨rfl, N9, e9q⟩
theorem d5_30 : decode prog_44_method_6_code 30 = .ok (.iconst 0, 1) := by decide +kernel
set_option maxRecDepth 65536 in
set_option maxHeartbeats 40000000 in
theorem rm5n (l : Launch) (Z : State) (a0 : Array Value) (hw : ∀ d ∈ tables_1, d.before a0 Z = true) (ws : List Jvm.Cond) (a1 a2 w5 w7 : Addr) (k1 k2 : ClassId) (z : Int32) (x0 y0 : Int32) (vs ws' : List Value) (h0 : Heap) (n0 : Nat) (Z0 : n0 ≤ h0.size) (I_a2 : Ins Z h0 a2 "com/example/mirrorlog/mirrorlog/core/undo/Bytes" true) (F_bytes_a1 : Fld Z h0 a1 "com/example/mirrorlog/mirrorlog/core/undo/Bytes" "bytes" "[B" (.ref w5)) (F_bytes_a2 : Fld Z h0 a2 "com/example/mirrorlog/mirrorlog/core/undo/Bytes" "bytes" "[B" (.ref w7)) (hz0 : (0 : Int32) < z) (hz7 : ¬ ((7 : Int32) < z)) (hne : ¬ (x0 = y0)) (V1 : Arv Z h0 w5 k1 .byte z ((.int x0) :: vs) (.int (0 : Int32))) (V2 : Arv Z h0 w7 k2 .byte z ((.int y0) :: ws') (.int (0 : Int32))) (ha2 : ¬ (w5 = w7)) :
    MetFree l (⟨"com/example/mirrorlog/mirrorlog/core/undo/Bytes", "equals", "(Ljava/lang/Object;)Z"⟩ : MethodName) (head1 (Jvm.Cond.code (⟨"com/example/mirrorlog/mirrorlog/core/undo/Bytes", "equals", "(Ljava/lang/Object;)Z"⟩ : MethodName) prog_44_method_6_code 3 (some .boolean) :: ws) ({ frames := 2, cells := 0, slots := 0, locals := 29 } : Room)) (fun a U => a = #[(.ref a1), (.ref a2)] ∧ Z.Warmed39 U.vm ∧ U.heap = h0) (fun _ _ _ _ _ => True) (fun _ U o U' => ∃ v L, o = .returned v ∧ QF (0 : Int32) h0 n0 v U'.heap L ∧ FrameEnd U o U' L ({ frames := 2, cells := 0, slots := 0, locals := 29 } : Room).cells ({ frames := 2, cells := 0, slots := 0, locals := 29 } : Room).slots) := by
  refine MetFree.of_bodySF (plainFor_of_name pn_5) hisR ?_
  intro p e s m args below meth c s₁ Bd hml0 hP hK
  obtain ⟨rfl, hZ, hh⟩ := hP
  have hx := Bd.exec
  have hby := Bd.bytes
  have hml : c.maxLocals = 3 := hml0
  have hown : s.vm.findClass "com/example/mirrorlog/mirrorlog/core/undo/Bytes" = some m.cls := findClass_of_methodNamed Bd.named
  have hnm := (name_of_methodNamed Bd.named Bd.method).1
  have X0 : Stand p l e ({ frames := 2, cells := 0, slots := 0, locals := 29 } : Room) s m #[(.ref a1), (.ref a2)] below meth c s₁ [] 0 0 := Stand.of_body Bd
  have e0 : s₁.heap = h0 := by rw [← hh, Bd.state]; rfl
  have N0 := Fr.nil n0
  have pre0 : ∀ t, Steps p.tables e below (s₁.setTop (mkF m 0 #[.val (.ref a1), .val (.ref a2), .unset] [])) t → Steps p.tables e below (s₁.setTop (entryFrame m #[(.ref a1), (.ref a2)] 3)) t := fun t k => castTop (ef_5 m a1 a2) k
  obtain ⟨T3, X3, e3, st3⟩ := instY X0 hx hZ hown (hw _ (List.mem_of_getElem? (i := 5) rfl)) e0 I_a2 (g := (mkF m 1 #[.val (.ref a1), .val (.ref a2), .unset] [(.ref a2)])) rfl rfl (hb hby d5_1)
  obtain ⟨T4, X4, e4, st4⟩ := castY X3 hx hZ hown (hw _ (List.mem_of_getElem? (i := 5) rfl)) e3 I_a2 (g := (mkF m 8 #[.val (.ref a1), .val (.ref a2), .unset] [(.ref a2)])) rfl rfl (hb hby d5_8)
  obtain ⟨T6, X6, e6, st6⟩ := getF X4 hx hZ hown (host := "") (Or.inl (hw _ (List.mem_of_getElem? (i := 22) rfl))) Via.refl e4 F_bytes_a1 (g := (mkF m 13 #[.val (.ref a1), .val (.ref a2), .val (.ref a2)] [(.ref a1)])) rfl rfl (hb hby d5_13)
  obtain ⟨T8, X8, e8, st8⟩ := getF X6 hx hZ hown (host := "") (Or.inl (hw _ (List.mem_of_getElem? (i := 22) rfl))) Via.refl e6 F_bytes_a2 (g := (mkF m 17 #[.val (.ref a1), .val (.ref a2), .val (.ref a2)] [(.ref a2), (.ref w5)])) rfl rfl (hb hby d5_17)
  obtain ⟨_, _, ⟨T9, L9, k9, n9⟩, -, X9, ⟨Lc9, hQ9, l9, y9, z9⟩, st9⟩ := Jvm.LawKit.callS X8 hx (y := (⟨"java/util/Arrays", "equals", "([B[B)Z"⟩ : MethodName)) hown (mvT hZ (hw _ (List.mem_of_getElem? (i := 35) rfl))) (mvT hZ (hw _ (List.mem_of_getElem? (i := 36) rfl))) (mvT hZ (hw _ (List.mem_of_getElem? (i := 37) rfl))) (mvT hZ (hw _ (List.mem_of_getElem? (i := 38) rfl))) (by decide) (backOf (W := 0) (rm6n l Z a0 hw [] w5 w7 k1 k2 z x0 y0 vs ws' h0 n0 Z0 hz0 hz7 hne V1 V2 ha2) hZ (hw _ (List.mem_of_getElem? (i := 38) rfl)) (hw _ (List.mem_of_getElem? (i := 37) rfl)) (by decide) (by decide)) (g := (mkF m 20 #[.val (.ref a1), .val (.ref a2), .val (.ref a2)] [(.ref w7), (.ref w5)])) rfl (by rw [hml]; rfl) (argsL := [(.ref w5), (.ref w7)]) (rest := []) (lenOf pd_5_6 rfl) rfl (by show 2 * 0 + _ ≤ _; exact Nat.le_of_eq rfl) (hb hby d5_20) (fun _ _ => ⟨rfl, e8, (by decide : 0 + 0 ≤ _), (by decide : 0 + 0 ≤ _)⟩)
  dsimp only [Pt.U, Pt.locs, Pt.cells, Pt.slots] at X9 l9 y9 z9 st9 hQ9
  subst l9 y9 z9
  obtain ⟨rfl, N9q, e9q⟩ := hQ9
  have N9 := Fr.app N0 N9q
  obtain ⟨fs, hr, hrun, hended, hW, hsame⟩ := X9.leave (v := some (.int (0 : Int32))) (fun h => by rw [Bd.returns] at h; cases h)
  refine ⟨_, _, pre0 _ ?_, hrun, hended, _, _, rfl, ?_, ⟨_, rfl⟩, hW, hsame.mono (by decide) (by decide)⟩
  · show Steps p.tables e below (s₁.setTop (mkF m 0 #[.val (.ref a1), .val (.ref a2), .unset] [])) _
    refine XS.aloadN X0.here hx rfl (hb hby d5_0) rfl rfl ?_
    show Steps p.tables e below (s₁.setTop (mkF m 1 #[.val (.ref a1), .val (.ref a2), .unset] [(.ref a2)])) _
    refine st3 _ ?_
    show Steps p.tables e below (T3.setTop (mkF m 4 #[.val (.ref a1), .val (.ref a2), .unset] [(.int (1 : Int32))])) _
    refine XS.ifNo X3.here hx rfl (hb hby d5_4) rfl ((if0 _ _).trans (feq (by decide : ¬ ((1 : Int32) = (0 : Int32)))).1) ?_
    show Steps p.tables e below (T3.setTop (mkF m 7 #[.val (.ref a1), .val (.ref a2), .unset] [])) _
    refine XS.aloadN X3.here hx rfl (hb hby d5_7) rfl rfl ?_
    show Steps p.tables e below (T3.setTop (mkF m 8 #[.val (.ref a1), .val (.ref a2), .unset] [(.ref a2)])) _
    refine st4 _ ?_
    show Steps p.tables e below (T4.setTop (mkF m 11 #[.val (.ref a1), .val (.ref a2), .unset] [(.ref a2)])) _
    refine XS.astoreN X4.here hx rfl (hb hby d5_11) rfl rfl (l' := #[.val (.ref a1), .val (.ref a2), .val (.ref a2)]) rfl ?_
    show Steps p.tables e below (T4.setTop (mkF m 12 #[.val (.ref a1), .val (.ref a2), .val (.ref a2)] [])) _
    refine XS.aloadN X4.here hx rfl (hb hby d5_12) rfl rfl ?_
    show Steps p.tables e below (T4.setTop (mkF m 13 #[.val (.ref a1), .val (.ref a2), .val (.ref a2)] [(.ref a1)])) _
    refine st6 _ ?_
    show Steps p.tables e below (T6.setTop (mkF m 16 #[.val (.ref a1), .val (.ref a2), .val (.ref a2)] [(.ref w5)])) _
    refine XS.aloadN X6.here hx rfl (hb hby d5_16) rfl rfl ?_
    show Steps p.tables e below (T6.setTop (mkF m 17 #[.val (.ref a1), .val (.ref a2), .val (.ref a2)] [(.ref a2), (.ref w5)])) _
    refine st8 _ ?_
    show Steps p.tables e below (T8.setTop (mkF m 20 #[.val (.ref a1), .val (.ref a2), .val (.ref a2)] [(.ref w7), (.ref w5)])) _
    refine st9 _ ?_
    show Steps p.tables e below (T9.setTop (mkF m 23 #[.val (.ref a1), .val (.ref a2), .val (.ref a2)] [(.int (0 : Int32))])) _
    refine XS.ifYes X9.here hx rfl (pc0 := 23) (pc' := 30) rfl (hb hby d5_23) rfl ((if0 _ _).trans (teq (by decide : (0 : Int32) = (0 : Int32))).1) (by decide) (by decide) ?_
    show Steps p.tables e below (T9.setTop (mkF m 30 #[.val (.ref a1), .val (.ref a2), .val (.ref a2)] [])) _
    refine XS.iconst X9.here hx rfl (hb hby d5_30) ?_
    show Steps p.tables e below (T9.setTop (mkF m 31 #[.val (.ref a1), .val (.ref a2), .val (.ref a2)] [(.int (0 : Int32))])) _
    exact retN X9 hx (t := .boolean) Bd.returns (by simp) (hb hby d5_31) hr
  · show QF (0 : Int32) h0 n0 _ T9.heap _
    exact ⟨rfl, N9, e9q⟩
set_option maxRecDepth 65536 in
set_option maxHeartbeats 40000000 in
theorem pc_A {p : Program} {l : Launch} {e : Env} {R : Room} {s : State} {m : MethodId} {args : Array Value} {below : List Frame} {meth : Method} {c : Code} {T0 : State} {locs : List Loc} {cells slots : Nat} (p1 : Int32) (p2 : Int32) (p3 : Int32) (p4 : Int32)
    (X0 : Stand p l e R s m args below meth c T0 locs cells slots) (hx : p.tables.exec = Jvm.exec) (hby : c.code = code) :
      ∀ target, Steps p.tables e below (T0.setTop (mkF m 17 #[.val (.int p1), .val (.int p2), .val (.int p3), .val (.int p4), .val (.int (p1 &&& (3 : Int32))), .val (.int (p2.toInt8.toInt32)), .val (.int (p3.toInt8.toInt32)), .val (.int (p4.toInt8.toInt32)), .unset, .unset, .unset, .unset] [])) target → Steps p.tables e below (T0.setTop (mkF m 0 #[.val (.int p1), .val (.int p2), .val (.int p3), .val (.int p4), .unset, .unset, .unset, .unset, .unset, .unset, .unset, .unset] [])) target := by
  intro target kt
  show Steps p.tables e below (T0.setTop (mkF m 0 #[.val (.int p1), .val (.int p2), .val (.int p3), .val (.int p4), .unset, .unset, .unset, .unset, .unset, .unset, .unset, .unset] [])) _
  refine XS.iloadN X0.here hx rfl (hb hby at_0) rfl ?_
  show Steps p.tables e below (T0.setTop (mkF m 1 #[.val (.int p1), .val (.int p2), .val (.int p3), .val (.int p4), .unset, .unset, .unset, .unset, .unset, .unset, .unset, .unset] [(.int p1)])) _
  refine XS.iconst X0.here hx rfl (hb hby at_1) ?_
  show Steps p.tables e below (T0.setTop (mkF m 2 #[.val (.int p1), .val (.int p2), .val (.int p3), .val (.int p4), .unset, .unset, .unset, .unset, .unset, .unset, .unset, .unset] [(.int (3 : Int32)), (.int p1)])) _
  refine XS.iand X0.here hx rfl (hb hby at_2) rfl ?_
  show Steps p.tables e below (T0.setTop (mkF m 3 #[.val (.int p1), .val (.int p2), .val (.int p3), .val (.int p4), .unset, .unset, .unset, .unset, .unset, .unset, .unset, .unset] [(.int (p1 &&& (3 : Int32)))])) _
  refine XS.istore X0.here hx rfl (hb hby at_3) rfl (l' := #[.val (.int p1), .val (.int p2), .val (.int p3), .val (.int p4), .val (.int (p1 &&& (3 : Int32))), .unset, .unset, .unset, .unset, .unset, .unset, .unset]) rfl ?_
  show Steps p.tables e below (T0.setTop (mkF m 5 #[.val (.int p1), .val (.int p2), .val (.int p3), .val (.int p4), .val (.int (p1 &&& (3 : Int32))), .unset, .unset, .unset, .unset, .unset, .unset, .unset] [])) _
  refine XS.iloadN X0.here hx rfl (hb hby at_5) rfl ?_
  show Steps p.tables e below (T0.setTop (mkF m 6 #[.val (.int p1), .val (.int p2), .val (.int p3), .val (.int p4), .val (.int (p1 &&& (3 : Int32))), .unset, .unset, .unset, .unset, .unset, .unset, .unset] [(.int p2)])) _
  refine XS.i2b X0.here hx rfl (hb hby at_6) rfl ?_
  show Steps p.tables e below (T0.setTop (mkF m 7 #[.val (.int p1), .val (.int p2), .val (.int p3), .val (.int p4), .val (.int (p1 &&& (3 : Int32))), .unset, .unset, .unset, .unset, .unset, .unset, .unset] [(.int (p2.toInt8.toInt32))])) _
  refine XS.istore X0.here hx rfl (hb hby at_7) rfl (l' := #[.val (.int p1), .val (.int p2), .val (.int p3), .val (.int p4), .val (.int (p1 &&& (3 : Int32))), .val (.int (p2.toInt8.toInt32)), .unset, .unset, .unset, .unset, .unset, .unset]) rfl ?_
  show Steps p.tables e below (T0.setTop (mkF m 9 #[.val (.int p1), .val (.int p2), .val (.int p3), .val (.int p4), .val (.int (p1 &&& (3 : Int32))), .val (.int (p2.toInt8.toInt32)), .unset, .unset, .unset, .unset, .unset, .unset] [])) _
  refine XS.iloadN X0.here hx rfl (hb hby at_9) rfl ?_
  show Steps p.tables e below (T0.setTop (mkF m 10 #[.val (.int p1), .val (.int p2), .val (.int p3), .val (.int p4), .val (.int (p1 &&& (3 : Int32))), .val (.int (p2.toInt8.toInt32)), .unset, .unset, .unset, .unset, .unset, .unset] [(.int p3)])) _
  refine XS.i2b X0.here hx rfl (hb hby at_10) rfl ?_
  show Steps p.tables e below (T0.setTop (mkF m 11 #[.val (.int p1), .val (.int p2), .val (.int p3), .val (.int p4), .val (.int (p1 &&& (3 : Int32))), .val (.int (p2.toInt8.toInt32)), .unset, .unset, .unset, .unset, .unset, .unset] [(.int (p3.toInt8.toInt32))])) _
  refine XS.istore X0.here hx rfl (hb hby at_11) rfl (l' := #[.val (.int p1), .val (.int p2), .val (.int p3), .val (.int p4), .val (.int (p1 &&& (3 : Int32))), .val (.int (p2.toInt8.toInt32)), .val (.int (p3.toInt8.toInt32)), .unset, .unset, .unset, .unset, .unset]) rfl ?_
  show Steps p.tables e below (T0.setTop (mkF m 13 #[.val (.int p1), .val (.int p2), .val (.int p3), .val (.int p4), .val (.int (p1 &&& (3 : Int32))), .val (.int (p2.toInt8.toInt32)), .val (.int (p3.toInt8.toInt32)), .unset, .unset, .unset, .unset, .unset] [])) _
  refine XS.iloadN X0.here hx rfl (hb hby at_13) rfl ?_
  show Steps p.tables e below (T0.setTop (mkF m 14 #[.val (.int p1), .val (.int p2), .val (.int p3), .val (.int p4), .val (.int (p1 &&& (3 : Int32))), .val (.int (p2.toInt8.toInt32)), .val (.int (p3.toInt8.toInt32)), .unset, .unset, .unset, .unset, .unset] [(.int p4)])) _
  refine XS.i2b X0.here hx rfl (hb hby at_14) rfl ?_
  show Steps p.tables e below (T0.setTop (mkF m 15 #[.val (.int p1), .val (.int p2), .val (.int p3), .val (.int p4), .val (.int (p1 &&& (3 : Int32))), .val (.int (p2.toInt8.toInt32)), .val (.int (p3.toInt8.toInt32)), .unset, .unset, .unset, .unset, .unset] [(.int (p4.toInt8.toInt32))])) _
  refine XS.istore X0.here hx rfl (hb hby at_15) rfl (l' := #[.val (.int p1), .val (.int p2), .val (.int p3), .val (.int p4), .val (.int (p1 &&& (3 : Int32))), .val (.int (p2.toInt8.toInt32)), .val (.int (p3.toInt8.toInt32)), .val (.int (p4.toInt8.toInt32)), .unset, .unset, .unset, .unset]) rfl ?_
  exact kt
theorem ef_0 (m : MethodId) (x0 : Int32) (x1 : Int32) (x2 : Int32) (x3 : Int32) : entryFrame m #[(.int x0), (.int x1), (.int x2), (.int x3)] maxLocals = mkF m 0 #[.val (.int x0), .val (.int x1), .val (.int x2), .val (.int x3), .unset, .unset, .unset, .unset, .unset, .unset, .unset, .unset] [] := by first | (simp [entryFrame, mkF, argsToLocals, Value.category, maxLocals]; done) | rfl
theorem pn_0 : plainName "com/example/mirrorlog/mirrorlog/core/undo/BytesOfPinLaw" = true := by first | (simp [plainName, overriddenIn]; done) | decide +kernel
theorem pd_0_0 : parseMethodDescriptor "([B)Lcom/example/mirrorlog/mirrorlog/core/undo/Bytes;" = some ⟨[(.array .byte)], some (.object "com/example/mirrorlog/mirrorlog/core/undo/Bytes")⟩ := by decide +kernel
theorem pd_0_4 : parseMethodDescriptor "()[B" = some ⟨[], some (.array .byte)⟩ := by decide +kernel
theorem pd_0_5 : parseMethodDescriptor "(Ljava/lang/Object;)Z" = some ⟨[(.object "java/lang/Object")], some .boolean⟩ := by decide +kernel
def Q0 (n0 : Nat) (v : Option Value) (L : List Loc) : Prop := v = some (.int (1 : Int32)) ∧ Fr n0 L
set_option maxRecDepth 65536 in
set_option maxHeartbeats 40000000 in
theorem rm0_0 (l : Launch) (Z : State) (a0 : Array Value) (hw : ∀ d ∈ tables_1, d.before a0 Z = true) (ws : List Jvm.Cond) (p1 : Int32) (p2 : Int32) (p3 : Int32) (p4 : Int32) (h0 : Heap) (n0 : Nat) (Z0 : n0 ≤ h0.size) (hn : (p1 &&& (3 : Int32)) = (0 : Int32)) :
    MetFree l x (head1 (Jvm.Cond.code x code maxLocals ret :: ws) room_1) (fun a U => a = #[(.int p1), (.int p2), (.int p3), (.int p4)] ∧ Z.Warmed39 U.vm ∧ U.heap = h0) (fun _ _ _ _ _ => True) (fun _ U o U' => ∃ v L, o = .returned v ∧ Q0 n0 v L ∧ FrameEnd U o U' L room_1.cells room_1.slots) := by
  refine MetFree.of_bodySF (plainFor_of_name pn_0) hisR ?_
  intro p e s m args below meth c s₁ Bd hml0 hP hK
  obtain ⟨rfl, hZ, hh⟩ := hP
  have hx := Bd.exec
  have hby := Bd.bytes
  have hml : c.maxLocals = 12 := hml0
  have hown : s.vm.findClass "com/example/mirrorlog/mirrorlog/core/undo/BytesOfPinLaw" = some m.cls := findClass_of_methodNamed Bd.named
  have hnm := (name_of_methodNamed Bd.named Bd.method).1
  have X0 : Stand p l e room_1 s m #[(.int p1), (.int p2), (.int p3), (.int p4)] below meth c s₁ [] 0 0 := Stand.of_body Bd
  have e0 : s₁.heap = h0 := by rw [← hh, Bd.state]; rfl
  have N0 := Fr.nil n0
  obtain ⟨B0, eB0⟩ : ∃ z, z = (p2.toInt8.toInt32) := ⟨_, rfl⟩
  obtain ⟨B1, eB1⟩ : ∃ z, z = (p3.toInt8.toInt32) := ⟨_, rfl⟩
  obtain ⟨B2, eB2⟩ : ∃ z, z = (p4.toInt8.toInt32) := ⟨_, rfl⟩
  have pre0 : ∀ t, Steps p.tables e below (s₁.setTop (mkF m 17 #[.val (.int p1), .val (.int p2), .val (.int p3), .val (.int p4), .val (.int (0 : Int32)), .val (.int B0), .val (.int B1), .val (.int B2), .unset, .unset, .unset, .unset] [])) t → Steps p.tables e below (s₁.setTop (entryFrame m #[(.int p1), (.int p2), (.int p3), (.int p4)] maxLocals)) t := fun t kt => castTop (ef_0 m p1 p2 p3 p4) (pc_A p1 p2 p3 p4 X0 hx hby t (by rw [hn, ← eB0, ← eB1, ← eB2]; exact kt))
  have hB0 : nar .byte B0 = B0 := by rw [eB0]; exact own_by _
  have hC0 : nar .byte ((B0 ^^^ (-1 : Int32)).toInt8.toInt32) = ((B0 ^^^ (-1 : Int32)).toInt8.toInt32) := own_by _
  have hB1 : nar .byte B1 = B1 := by rw [eB1]; exact own_by _
  have hC1 : nar .byte ((B1 ^^^ (-1 : Int32)).toInt8.toInt32) = ((B1 ^^^ (-1 : Int32)).toInt8.toInt32) := own_by _
  have hB2 : nar .byte B2 = B2 := by rw [eB2]; exact own_by _
  have hC2 : nar .byte ((B2 ^^^ (-1 : Int32)).toInt8.toInt32) = ((B2 ^^^ (-1 : Int32)).toInt8.toInt32) := own_by _
  obtain ⟨T5, h5, k5, X5, e5, E5, A5, Y5, st5⟩ := newPE X0 hx hZ (hw _ (List.mem_of_getElem? (i := 0) rfl)) e0 (g := (mkF m 19 #[.val (.int p1), .val (.int p2), .val (.int p3), .val (.int p4), .val (.int (0 : Int32)), .val (.int B0), .val (.int B1), .val (.int B2), .unset, .unset, .unset, .unset] [(.int (0 : Int32))])) rfl (hb hby at_19) rfl (by decide) (cap := 0) (by decide) (by decide) (by decide) (by decide) (ad := "[B") (by decide)
  obtain ⟨b5, g5⟩ : ∃ z, z = h0.size := ⟨_, rfl⟩
  rw [← g5] at A5 Y5 st5
  have V_b5 : Arv Z h5 b5 k5 .byte (0 : Int32) [] (.int (0 : Int32)) := Arv.new A5 (by decide)
  have g_b5 : n0 ≤ b5 := Nat.le_trans Z0 (Nat.le_of_eq g5.symm)
  have sz_b5 : h0.size ≤ b5 := (Nat.le_trans (Keep.refl h0 []).1 (Nat.le_of_eq g5.symm))
  have K5 : Keep h0 h5 [] := (Keep.refl h0 []).ext E5
  obtain ⟨T6, h6, k6, X6, e6, E6, A6, Y6, st6⟩ := newPE X5 hx hZ (hw _ (List.mem_of_getElem? (i := 0) rfl)) e5 (g := (mkF m 25 #[.val (.int p1), .val (.int p2), .val (.int p3), .val (.int p4), .val (.int (0 : Int32)), .val (.int B0), .val (.int B1), .val (.int B2), .val (.ref b5), .unset, .unset, .unset] [(.int (0 : Int32))])) rfl (hb hby at_25) rfl (by decide) (cap := 0) (by decide) (by decide) (by decide) (by decide) (ad := "[B") (by decide)
  obtain ⟨b6, g6⟩ : ∃ z, z = h5.size := ⟨_, rfl⟩
  rw [← g6] at A6 Y6 st6
  have V_b6 : Arv Z h6 b6 k6 .byte (0 : Int32) [] (.int (0 : Int32)) := Arv.new A6 (by decide)
  have g_b6 : n0 ≤ b6 := Nat.le_trans (Nat.le_trans Z0 E5.1) (Nat.le_of_eq g6.symm)
  have sz_b6 : h0.size ≤ b6 := (Nat.le_trans K5.1 (Nat.le_of_eq g6.symm))
  have l_ac : b5 < b6 := by rw [g6]; exact V_b5.lt
  have K6 : Keep h0 h6 [] := K5.ext E6
  have Zc7 : n0 ≤ h6.size := Nat.le_trans Z0 K6.1
  obtain ⟨_, _, ⟨T7, L7, k7, n7⟩, -, X7, ⟨Lc7, hQ7, l7, y7, z7⟩, st7⟩ := Jvm.LawKit.callS X6 hx (y := (⟨"com/example/mirrorlog/mirrorlog/core/undo/Bytes", "of", "([B)Lcom/example/mirrorlog/mirrorlog/core/undo/Bytes;"⟩ : MethodName)) hown (mvT hZ (hw _ (List.mem_of_getElem? (i := 1) rfl))) (mvT hZ (hw _ (List.mem_of_getElem? (i := 2) rfl))) (mvT hZ (hw _ (List.mem_of_getElem? (i := 3) rfl))) (mvT hZ (hw _ (List.mem_of_getElem? (i := 4) rfl))) (by decide) (backOf (W := 0) (rm1 l Z a0 hw [] b5 h6 n0 Zc7 (Y5.ext E6) k5 (0 : Int32) [] (V_b5.ext E6) (by decide)) hZ (hw _ (List.mem_of_getElem? (i := 4) rfl)) (hw _ (List.mem_of_getElem? (i := 3) rfl)) (by decide) (by decide)) (g := (mkF m 84 #[.val (.int p1), .val (.int p2), .val (.int p3), .val (.int p4), .val (.int (0 : Int32)), .val (.int B0), .val (.int B1), .val (.int B2), .val (.ref b5), .val (.ref b6), .unset, .unset] [(.ref b5)])) rfl (by rw [hml]; rfl) (argsL := [(.ref b5)]) (rest := []) (lenOf pd_0_0 rfl) rfl (by show 2 * 0 + _ ≤ _; exact Nat.le_of_eq rfl) (hb hby at_84) (fun _ _ => ⟨rfl, e6, (by decide : 2 + 2 ≤ _), (by decide : 0 + 4 ≤ _)⟩)
  dsimp only [Pt.U, Pt.locs, Pt.cells, Pt.slots] at X7 l7 y7 z7 st7 hQ7
  subst l7 y7 z7
  obtain ⟨⟨r7, c7, rfl, lr7, lc7, Y_r7, F_r7, V_c7, Y_c7⟩, N7q, Kc7⟩ := hQ7
  have la7 : b5 < h6.size := ((V_b5.ext E6)).lt
  have KT7 : Keep h0 T7.heap [] := K6.trans Kc7 (fun x hx => nomatch hx)
  have N7 := Fr.app N0 N7q
  obtain ⟨cq8, kq8, q8a, q8b, q8c⟩ := isOf hZ rfl Y_r7
  have Zc8 : n0 ≤ T7.heap.size := Nat.le_trans Z0 KT7.1
  obtain ⟨_, _, ⟨T8, L8, k8, n8⟩, -, X8, ⟨Lc8, hQ8, l8, y8, z8⟩, st8⟩ := X7.virtualBack hx (y := (⟨"com/example/mirrorlog/mirrorlog/core/undo/Bytes", "toArray", "()[B"⟩ : MethodName)) (z := (⟨"com/example/mirrorlog/mirrorlog/core/undo/Bytes", "toArray", "()[B"⟩ : MethodName)) hown (mvT hZ (hw _ (List.mem_of_getElem? (i := 24) rfl))) (mvT hZ (hw _ (List.mem_of_getElem? (i := 25) rfl))) (notFace_of_selects (args := #[]) (mvT hZ (hw _ (List.mem_of_getElem? (i := 27) rfl)))) (mvT hZ (hw _ (List.mem_of_getElem? (i := 27) rfl))) (mvT hZ (hw _ (List.mem_of_getElem? (i := 26) rfl))) (by decide) (backOf (W := 0) (rm4 l Z a0 hw [] r7 c7 T7.heap n0 Zc8 F_r7 Y_c7 k5 (0 : Int32) [] V_c7 (by decide)) hZ (hw _ (List.mem_of_getElem? (i := 28) rfl)) (hw _ (List.mem_of_getElem? (i := 3) rfl)) (by decide) (by decide)) q8a q8c (g := (mkF m 135 #[.val (.int p1), .val (.int p2), .val (.int p3), .val (.int p4), .val (.int (0 : Int32)), .val (.int B0), .val (.int B1), .val (.int B2), .val (.ref b5), .val (.ref b6), .val (.ref r7), .unset] [(.ref r7)])) rfl (by rw [hml]; rfl) (Steps.refl _) (argsL := []) (rest := []) (lenOf pd_0_4 rfl) rfl (by show 2 * 0 + _ ≤ _; exact Nat.le_of_eq rfl) (hb hby at_135) (fun _ _ => ⟨rfl, rfl, (by decide : 4 + 1 ≤ _), (by decide : 4 + 3 ≤ _)⟩)
  dsimp only [Pt.U, Pt.locs, Pt.cells, Pt.slots] at X8 l8 y8 z8 st8 hQ8
  subst l8 y8 z8
  obtain ⟨⟨o8, rfl, V_o8⟩, N8q, Kc8⟩ := hQ8
  obtain ⟨cl_o, Ar_o, -, S_o, N_o, H_o, -⟩ := V_o8
  have KT8 : Keep h0 T8.heap [] := KT7.trans Kc8 (fun x hx => nomatch hx)
  have N8 := Fr.app N7 N8q
  have Zc9 : n0 ≤ T8.heap.size := Nat.le_trans Z0 KT8.1
  obtain ⟨_, _, ⟨T9, L9, k9, n9⟩, -, X9, ⟨Lc9, hQ9, l9, y9, z9⟩, st9⟩ := Jvm.LawKit.callS X8 hx (y := (⟨"com/example/mirrorlog/mirrorlog/core/undo/Bytes", "of", "([B)Lcom/example/mirrorlog/mirrorlog/core/undo/Bytes;"⟩ : MethodName)) hown (mvT hZ (hw _ (List.mem_of_getElem? (i := 1) rfl))) (mvT hZ (hw _ (List.mem_of_getElem? (i := 2) rfl))) (mvT hZ (hw _ (List.mem_of_getElem? (i := 3) rfl))) (mvT hZ (hw _ (List.mem_of_getElem? (i := 4) rfl))) (by decide) (backOf (W := 1) (rm1 l Z a0 hw [] b6 T8.heap n0 Zc9 ((Y6.keep Kc7).keep Kc8) k6 (0 : Int32) [] ((V_b6.keep Kc7 (fun q => nomatch q)).keep Kc8 (fun q => nomatch q)) (by decide)) hZ (hw _ (List.mem_of_getElem? (i := 4) rfl)) (hw _ (List.mem_of_getElem? (i := 3) rfl)) (by decide) (by decide)) (g := (mkF m 204 #[.val (.int p1), .val (.int p2), .val (.int p3), .val (.int p4), .val (.int (0 : Int32)), .val (.int B0), .val (.int B1), .val (.int B2), .val (.ref b5), .val (.ref b6), .val (.ref r7), .val (.ref o8)] [(.ref b6), (.ref r7)])) rfl (by rw [hml]; rfl) (argsL := [(.ref b6)]) (rest := [(.ref r7)]) (lenOf pd_0_0 rfl) rfl (by show 2 * 0 + _ ≤ _; exact Nat.le_of_eq rfl) (hb hby at_204) (fun _ _ => ⟨rfl, rfl, (by decide : 5 + 2 ≤ _), (by decide : 7 + 4 ≤ _)⟩)
  dsimp only [Pt.U, Pt.locs, Pt.cells, Pt.slots] at X9 l9 y9 z9 st9 hQ9
  subst l9 y9 z9
  obtain ⟨⟨r9, c9, rfl, lr9, lc9, Y_r9, F_r9, V_c9, Y_c9⟩, N9q, Kc9⟩ := hQ9
  have lv9 : c7 < T8.heap.size := ((V_c7.keep Kc8 (fun q => nomatch q))).lt
  have KT9 : Keep h0 T9.heap [] := KT8.trans Kc9 (fun x hx => nomatch hx)
  have N9 := Fr.app N8 N9q
  obtain ⟨cq10, kq10, q10a, q10b, q10c⟩ := isOf hZ rfl ((Y_r7.keep Kc8).keep Kc9)
  have Zc10 : n0 ≤ T9.heap.size := Nat.le_trans Z0 KT9.1
  obtain ⟨_, _, ⟨T10, L10, k10, n10⟩, -, X10, ⟨Lc10, hQ10, l10, y10, z10⟩, st10⟩ := X9.virtualBack hx (y := (⟨"com/example/mirrorlog/mirrorlog/core/undo/Bytes", "equals", "(Ljava/lang/Object;)Z"⟩ : MethodName)) (z := (⟨"com/example/mirrorlog/mirrorlog/core/undo/Bytes", "equals", "(Ljava/lang/Object;)Z"⟩ : MethodName)) hown (mvT hZ (hw _ (List.mem_of_getElem? (i := 29) rfl))) (mvT hZ (hw _ (List.mem_of_getElem? (i := 30) rfl))) (notFace_of_selects (args := #[]) (mvT hZ (hw _ (List.mem_of_getElem? (i := 32) rfl)))) (mvT hZ (hw _ (List.mem_of_getElem? (i := 32) rfl))) (mvT hZ (hw _ (List.mem_of_getElem? (i := 31) rfl))) (by decide) (backOf (W := 0) (rm5e l Z a0 hw [] r7 r9 c7 c9 k5 k6 (0 : Int32) [] T9.heap n0 Zc10 (Ins.self Y_r9) ((F_r7.keep Kc8 (fun q => nomatch q)).keep Kc9 (fun q => nomatch q)) F_r9 (Or.inl ⟨rfl, rfl⟩) ((V_c7.keep Kc8 (fun q => nomatch q)).keep Kc9 (fun q => nomatch q)) V_c9 (by omega : ¬ (c7 = c9))) hZ (hw _ (List.mem_of_getElem? (i := 33) rfl)) (hw _ (List.mem_of_getElem? (i := 3) rfl)) (by decide) (by decide)) q10a q10c (g := (mkF m 207 #[.val (.int p1), .val (.int p2), .val (.int p3), .val (.int p4), .val (.int (0 : Int32)), .val (.int B0), .val (.int B1), .val (.int B2), .val (.ref b5), .val (.ref b6), .val (.ref r7), .val (.ref o8)] [(.ref r9), (.ref r7)])) rfl (by rw [hml]; rfl) (Steps.refl _) (argsL := [(.ref r9)]) (rest := []) (lenOf pd_0_5 rfl) rfl (by show 2 * 0 + _ ≤ _; exact Nat.le_of_eq rfl) (hb hby at_207) (fun _ _ => ⟨rfl, rfl, (by decide : 7 + 0 ≤ _), (by decide : 11 + 0 ≤ _)⟩)
  dsimp only [Pt.U, Pt.locs, Pt.cells, Pt.slots] at X10 l10 y10 z10 st10 hQ10
  subst l10 y10 z10
  obtain ⟨rfl, N10q, eq10⟩ := hQ10
  have Kc10 : Keep T9.heap T10.heap [] := by rw [eq10]; exact Keep.refl _ []
  have KT10 : Keep h0 T10.heap [] := KT9.trans Kc10 (fun x hx => nomatch hx)
  have N10 := Fr.app N9 N10q
  obtain ⟨fs, hr, hrun, hended, hW, hsame⟩ := X10.leave (v := some (.int (1 : Int32))) (fun h => by rw [Bd.returns] at h; cases h)
  refine ⟨_, _, pre0 _ ?_, hrun, hended, _, _, rfl, ?_, ⟨_, rfl⟩, hW, hsame.mono (by decide) (by decide)⟩
  · show Steps p.tables e below (s₁.setTop (mkF m 17 #[.val (.int p1), .val (.int p2), .val (.int p3), .val (.int p4), .val (.int (0 : Int32)), .val (.int B0), .val (.int B1), .val (.int B2), .unset, .unset, .unset, .unset] [])) _
    refine XS.iload X0.here hx rfl (hb hby at_17) rfl ?_
    show Steps p.tables e below (s₁.setTop (mkF m 19 #[.val (.int p1), .val (.int p2), .val (.int p3), .val (.int p4), .val (.int (0 : Int32)), .val (.int B0), .val (.int B1), .val (.int B2), .unset, .unset, .unset, .unset] [(.int (0 : Int32))])) _
    refine st5 _ ?_
    show Steps p.tables e below (T5.setTop (mkF m 21 #[.val (.int p1), .val (.int p2), .val (.int p3), .val (.int p4), .val (.int (0 : Int32)), .val (.int B0), .val (.int B1), .val (.int B2), .unset, .unset, .unset, .unset] [(.ref b5)])) _
    refine XS.astore X5.here hx rfl (hb hby at_21) rfl rfl (l' := #[.val (.int p1), .val (.int p2), .val (.int p3), .val (.int p4), .val (.int (0 : Int32)), .val (.int B0), .val (.int B1), .val (.int B2), .val (.ref b5), .unset, .unset, .unset]) rfl ?_
    show Steps p.tables e below (T5.setTop (mkF m 23 #[.val (.int p1), .val (.int p2), .val (.int p3), .val (.int p4), .val (.int (0 : Int32)), .val (.int B0), .val (.int B1), .val (.int B2), .val (.ref b5), .unset, .unset, .unset] [])) _
    refine XS.iload X5.here hx rfl (hb hby at_23) rfl ?_
    show Steps p.tables e below (T5.setTop (mkF m 25 #[.val (.int p1), .val (.int p2), .val (.int p3), .val (.int p4), .val (.int (0 : Int32)), .val (.int B0), .val (.int B1), .val (.int B2), .val (.ref b5), .unset, .unset, .unset] [(.int (0 : Int32))])) _
    refine st6 _ ?_
    show Steps p.tables e below (T6.setTop (mkF m 27 #[.val (.int p1), .val (.int p2), .val (.int p3), .val (.int p4), .val (.int (0 : Int32)), .val (.int B0), .val (.int B1), .val (.int B2), .val (.ref b5), .unset, .unset, .unset] [(.ref b6)])) _
    refine XS.astore X6.here hx rfl (hb hby at_27) rfl rfl (l' := #[.val (.int p1), .val (.int p2), .val (.int p3), .val (.int p4), .val (.int (0 : Int32)), .val (.int B0), .val (.int B1), .val (.int B2), .val (.ref b5), .val (.ref b6), .unset, .unset]) rfl ?_
    show Steps p.tables e below (T6.setTop (mkF m 29 #[.val (.int p1), .val (.int p2), .val (.int p3), .val (.int p4), .val (.int (0 : Int32)), .val (.int B0), .val (.int B1), .val (.int B2), .val (.ref b5), .val (.ref b6), .unset, .unset] [])) _
    refine XS.iload X6.here hx rfl (hb hby at_29) rfl ?_
    show Steps p.tables e below (T6.setTop (mkF m 31 #[.val (.int p1), .val (.int p2), .val (.int p3), .val (.int p4), .val (.int (0 : Int32)), .val (.int B0), .val (.int B1), .val (.int B2), .val (.ref b5), .val (.ref b6), .unset, .unset] [(.int (0 : Int32))])) _
    refine XS.ifYes X6.here hx rfl (pc0 := 31) (pc' := 46) rfl (hb hby at_31) rfl ((if0 _ _).trans (flt (by decide)).2.2.2) (by decide) (by decide) ?_
    show Steps p.tables e below (T6.setTop (mkF m 46 #[.val (.int p1), .val (.int p2), .val (.int p3), .val (.int p4), .val (.int (0 : Int32)), .val (.int B0), .val (.int B1), .val (.int B2), .val (.ref b5), .val (.ref b6), .unset, .unset] [])) _
    refine XS.iload X6.here hx rfl (hb hby at_46) rfl ?_
    show Steps p.tables e below (T6.setTop (mkF m 48 #[.val (.int p1), .val (.int p2), .val (.int p3), .val (.int p4), .val (.int (0 : Int32)), .val (.int B0), .val (.int B1), .val (.int B2), .val (.ref b5), .val (.ref b6), .unset, .unset] [(.int (0 : Int32))])) _
    refine XS.iconst X6.here hx rfl (hb hby at_48) ?_
    show Steps p.tables e below (T6.setTop (mkF m 49 #[.val (.int p1), .val (.int p2), .val (.int p3), .val (.int p4), .val (.int (0 : Int32)), .val (.int B0), .val (.int B1), .val (.int B2), .val (.ref b5), .val (.ref b6), .unset, .unset] [(.int (1 : Int32)), (.int (0 : Int32))])) _
    refine XS.icmpYes X6.here hx rfl (pc0 := 49) (pc' := 64) rfl (hb hby at_49) rfl (flt (by decide)).2.2.2 (by decide) (by decide) ?_
    show Steps p.tables e below (T6.setTop (mkF m 64 #[.val (.int p1), .val (.int p2), .val (.int p3), .val (.int p4), .val (.int (0 : Int32)), .val (.int B0), .val (.int B1), .val (.int B2), .val (.ref b5), .val (.ref b6), .unset, .unset] [])) _
    refine XS.iload X6.here hx rfl (hb hby at_64) rfl ?_
    show Steps p.tables e below (T6.setTop (mkF m 66 #[.val (.int p1), .val (.int p2), .val (.int p3), .val (.int p4), .val (.int (0 : Int32)), .val (.int B0), .val (.int B1), .val (.int B2), .val (.ref b5), .val (.ref b6), .unset, .unset] [(.int (0 : Int32))])) _
    refine XS.iconst X6.here hx rfl (hb hby at_66) ?_
    show Steps p.tables e below (T6.setTop (mkF m 67 #[.val (.int p1), .val (.int p2), .val (.int p3), .val (.int p4), .val (.int (0 : Int32)), .val (.int B0), .val (.int B1), .val (.int B2), .val (.ref b5), .val (.ref b6), .unset, .unset] [(.int (2 : Int32)), (.int (0 : Int32))])) _
    refine XS.icmpYes X6.here hx rfl (pc0 := 67) (pc' := 82) rfl (hb hby at_67) rfl (flt (by decide)).2.2.2 (by decide) (by decide) ?_
    show Steps p.tables e below (T6.setTop (mkF m 82 #[.val (.int p1), .val (.int p2), .val (.int p3), .val (.int p4), .val (.int (0 : Int32)), .val (.int B0), .val (.int B1), .val (.int B2), .val (.ref b5), .val (.ref b6), .unset, .unset] [])) _
    refine XS.aload X6.here hx rfl (hb hby at_82) rfl rfl ?_
    show Steps p.tables e below (T6.setTop (mkF m 84 #[.val (.int p1), .val (.int p2), .val (.int p3), .val (.int p4), .val (.int (0 : Int32)), .val (.int B0), .val (.int B1), .val (.int B2), .val (.ref b5), .val (.ref b6), .unset, .unset] [(.ref b5)])) _
    refine st7 _ ?_
    show Steps p.tables e below (T7.setTop (mkF m 87 #[.val (.int p1), .val (.int p2), .val (.int p3), .val (.int p4), .val (.int (0 : Int32)), .val (.int B0), .val (.int B1), .val (.int B2), .val (.ref b5), .val (.ref b6), .unset, .unset] [(.ref r7)])) _
    refine XS.astore X7.here hx rfl (hb hby at_87) rfl rfl (l' := #[.val (.int p1), .val (.int p2), .val (.int p3), .val (.int p4), .val (.int (0 : Int32)), .val (.int B0), .val (.int B1), .val (.int B2), .val (.ref b5), .val (.ref b6), .val (.ref r7), .unset]) rfl ?_
    show Steps p.tables e below (T7.setTop (mkF m 89 #[.val (.int p1), .val (.int p2), .val (.int p3), .val (.int p4), .val (.int (0 : Int32)), .val (.int B0), .val (.int B1), .val (.int B2), .val (.ref b5), .val (.ref b6), .val (.ref r7), .unset] [])) _
    refine XS.iload X7.here hx rfl (hb hby at_89) rfl ?_
    show Steps p.tables e below (T7.setTop (mkF m 91 #[.val (.int p1), .val (.int p2), .val (.int p3), .val (.int p4), .val (.int (0 : Int32)), .val (.int B0), .val (.int B1), .val (.int B2), .val (.ref b5), .val (.ref b6), .val (.ref r7), .unset] [(.int (0 : Int32))])) _
    refine XS.ifYes X7.here hx rfl (pc0 := 91) (pc' := 103) rfl (hb hby at_91) rfl ((if0 _ _).trans (flt (by decide)).2.2.2) (by decide) (by decide) ?_
    show Steps p.tables e below (T7.setTop (mkF m 103 #[.val (.int p1), .val (.int p2), .val (.int p3), .val (.int p4), .val (.int (0 : Int32)), .val (.int B0), .val (.int B1), .val (.int B2), .val (.ref b5), .val (.ref b6), .val (.ref r7), .unset] [])) _
    refine XS.iload X7.here hx rfl (hb hby at_103) rfl ?_
    show Steps p.tables e below (T7.setTop (mkF m 105 #[.val (.int p1), .val (.int p2), .val (.int p3), .val (.int p4), .val (.int (0 : Int32)), .val (.int B0), .val (.int B1), .val (.int B2), .val (.ref b5), .val (.ref b6), .val (.ref r7), .unset] [(.int (0 : Int32))])) _
    refine XS.iconst X7.here hx rfl (hb hby at_105) ?_
    show Steps p.tables e below (T7.setTop (mkF m 106 #[.val (.int p1), .val (.int p2), .val (.int p3), .val (.int p4), .val (.int (0 : Int32)), .val (.int B0), .val (.int B1), .val (.int B2), .val (.ref b5), .val (.ref b6), .val (.ref r7), .unset] [(.int (1 : Int32)), (.int (0 : Int32))])) _
    refine XS.icmpYes X7.here hx rfl (pc0 := 106) (pc' := 118) rfl (hb hby at_106) rfl (flt (by decide)).2.2.2 (by decide) (by decide) ?_
    show Steps p.tables e below (T7.setTop (mkF m 118 #[.val (.int p1), .val (.int p2), .val (.int p3), .val (.int p4), .val (.int (0 : Int32)), .val (.int B0), .val (.int B1), .val (.int B2), .val (.ref b5), .val (.ref b6), .val (.ref r7), .unset] [])) _
    refine XS.iload X7.here hx rfl (hb hby at_118) rfl ?_
    show Steps p.tables e below (T7.setTop (mkF m 120 #[.val (.int p1), .val (.int p2), .val (.int p3), .val (.int p4), .val (.int (0 : Int32)), .val (.int B0), .val (.int B1), .val (.int B2), .val (.ref b5), .val (.ref b6), .val (.ref r7), .unset] [(.int (0 : Int32))])) _
    refine XS.iconst X7.here hx rfl (hb hby at_120) ?_
    show Steps p.tables e below (T7.setTop (mkF m 121 #[.val (.int p1), .val (.int p2), .val (.int p3), .val (.int p4), .val (.int (0 : Int32)), .val (.int B0), .val (.int B1), .val (.int B2), .val (.ref b5), .val (.ref b6), .val (.ref r7), .unset] [(.int (2 : Int32)), (.int (0 : Int32))])) _
    refine XS.icmpYes X7.here hx rfl (pc0 := 121) (pc' := 133) rfl (hb hby at_121) rfl (flt (by decide)).2.2.2 (by decide) (by decide) ?_
    show Steps p.tables e below (T7.setTop (mkF m 133 #[.val (.int p1), .val (.int p2), .val (.int p3), .val (.int p4), .val (.int (0 : Int32)), .val (.int B0), .val (.int B1), .val (.int B2), .val (.ref b5), .val (.ref b6), .val (.ref r7), .unset] [])) _
    refine XS.aload X7.here hx rfl (hb hby at_133) rfl rfl ?_
    show Steps p.tables e below (T7.setTop (mkF m 135 #[.val (.int p1), .val (.int p2), .val (.int p3), .val (.int p4), .val (.int (0 : Int32)), .val (.int B0), .val (.int B1), .val (.int B2), .val (.ref b5), .val (.ref b6), .val (.ref r7), .unset] [(.ref r7)])) _
    refine st8.trans ?_
    show Steps p.tables e below (T8.setTop (mkF m 138 #[.val (.int p1), .val (.int p2), .val (.int p3), .val (.int p4), .val (.int (0 : Int32)), .val (.int B0), .val (.int B1), .val (.int B2), .val (.ref b5), .val (.ref b6), .val (.ref r7), .unset] [(.ref o8)])) _
    refine XS.astore X8.here hx rfl (hb hby at_138) rfl rfl (l' := #[.val (.int p1), .val (.int p2), .val (.int p3), .val (.int p4), .val (.int (0 : Int32)), .val (.int B0), .val (.int B1), .val (.int B2), .val (.ref b5), .val (.ref b6), .val (.ref r7), .val (.ref o8)]) rfl ?_
    show Steps p.tables e below (T8.setTop (mkF m 140 #[.val (.int p1), .val (.int p2), .val (.int p3), .val (.int p4), .val (.int (0 : Int32)), .val (.int B0), .val (.int B1), .val (.int B2), .val (.ref b5), .val (.ref b6), .val (.ref r7), .val (.ref o8)] [])) _
    refine XS.aload X8.here hx rfl (hb hby at_140) rfl rfl ?_
    show Steps p.tables e below (T8.setTop (mkF m 142 #[.val (.int p1), .val (.int p2), .val (.int p3), .val (.int p4), .val (.int (0 : Int32)), .val (.int B0), .val (.int B1), .val (.int B2), .val (.ref b5), .val (.ref b6), .val (.ref r7), .val (.ref o8)] [(.ref o8)])) _
    refine X8.arraylength hx Ar_o.1 (State.isArrayOf_alike hZ.alike Ar_o.2.1) (g := (mkF m 142 #[.val (.int p1), .val (.int p2), .val (.int p3), .val (.int p4), .val (.int (0 : Int32)), .val (.int B0), .val (.int B1), .val (.int B2), .val (.ref b5), .val (.ref b6), .val (.ref r7), .val (.ref o8)] [(.ref o8)])) rfl rfl (hb hby at_142) _ ?_
    rw [len_of S_o N_o]
    show Steps p.tables e below (T8.setTop (mkF m 143 #[.val (.int p1), .val (.int p2), .val (.int p3), .val (.int p4), .val (.int (0 : Int32)), .val (.int B0), .val (.int B1), .val (.int B2), .val (.ref b5), .val (.ref b6), .val (.ref r7), .val (.ref o8)] [(.int (0 : Int32))])) _
    refine XS.iload X8.here hx rfl (hb hby at_143) rfl ?_
    show Steps p.tables e below (T8.setTop (mkF m 145 #[.val (.int p1), .val (.int p2), .val (.int p3), .val (.int p4), .val (.int (0 : Int32)), .val (.int B0), .val (.int B1), .val (.int B2), .val (.ref b5), .val (.ref b6), .val (.ref r7), .val (.ref o8)] [(.int (0 : Int32)), (.int (0 : Int32))])) _
    refine XS.icmpYes X8.here hx rfl (pc0 := 145) (pc' := 150) rfl (hb hby at_145) rfl (teq (by first | rfl | decide : (0 : Int32) = (0 : Int32))).1 (by decide) (by decide) ?_
    show Steps p.tables e below (T8.setTop (mkF m 150 #[.val (.int p1), .val (.int p2), .val (.int p3), .val (.int p4), .val (.int (0 : Int32)), .val (.int B0), .val (.int B1), .val (.int B2), .val (.ref b5), .val (.ref b6), .val (.ref r7), .val (.ref o8)] [])) _
    refine XS.iload X8.here hx rfl (hb hby at_150) rfl ?_
    show Steps p.tables e below (T8.setTop (mkF m 152 #[.val (.int p1), .val (.int p2), .val (.int p3), .val (.int p4), .val (.int (0 : Int32)), .val (.int B0), .val (.int B1), .val (.int B2), .val (.ref b5), .val (.ref b6), .val (.ref r7), .val (.ref o8)] [(.int (0 : Int32))])) _
    refine XS.ifYes X8.here hx rfl (pc0 := 152) (pc' := 166) rfl (hb hby at_152) rfl ((if0 _ _).trans (flt (by decide)).2.2.2) (by decide) (by decide) ?_
    show Steps p.tables e below (T8.setTop (mkF m 166 #[.val (.int p1), .val (.int p2), .val (.int p3), .val (.int p4), .val (.int (0 : Int32)), .val (.int B0), .val (.int B1), .val (.int B2), .val (.ref b5), .val (.ref b6), .val (.ref r7), .val (.ref o8)] [])) _
    refine XS.iload X8.here hx rfl (hb hby at_166) rfl ?_
    show Steps p.tables e below (T8.setTop (mkF m 168 #[.val (.int p1), .val (.int p2), .val (.int p3), .val (.int p4), .val (.int (0 : Int32)), .val (.int B0), .val (.int B1), .val (.int B2), .val (.ref b5), .val (.ref b6), .val (.ref r7), .val (.ref o8)] [(.int (0 : Int32))])) _
    refine XS.iconst X8.here hx rfl (hb hby at_168) ?_
    show Steps p.tables e below (T8.setTop (mkF m 169 #[.val (.int p1), .val (.int p2), .val (.int p3), .val (.int p4), .val (.int (0 : Int32)), .val (.int B0), .val (.int B1), .val (.int B2), .val (.ref b5), .val (.ref b6), .val (.ref r7), .val (.ref o8)] [(.int (1 : Int32)), (.int (0 : Int32))])) _
    refine XS.icmpYes X8.here hx rfl (pc0 := 169) (pc' := 183) rfl (hb hby at_169) rfl (flt (by decide)).2.2.2 (by decide) (by decide) ?_
    show Steps p.tables e below (T8.setTop (mkF m 183 #[.val (.int p1), .val (.int p2), .val (.int p3), .val (.int p4), .val (.int (0 : Int32)), .val (.int B0), .val (.int B1), .val (.int B2), .val (.ref b5), .val (.ref b6), .val (.ref r7), .val (.ref o8)] [])) _
    refine XS.iload X8.here hx rfl (hb hby at_183) rfl ?_
    show Steps p.tables e below (T8.setTop (mkF m 185 #[.val (.int p1), .val (.int p2), .val (.int p3), .val (.int p4), .val (.int (0 : Int32)), .val (.int B0), .val (.int B1), .val (.int B2), .val (.ref b5), .val (.ref b6), .val (.ref r7), .val (.ref o8)] [(.int (0 : Int32))])) _
    refine XS.iconst X8.here hx rfl (hb hby at_185) ?_
    show Steps p.tables e below (T8.setTop (mkF m 186 #[.val (.int p1), .val (.int p2), .val (.int p3), .val (.int p4), .val (.int (0 : Int32)), .val (.int B0), .val (.int B1), .val (.int B2), .val (.ref b5), .val (.ref b6), .val (.ref r7), .val (.ref o8)] [(.int (2 : Int32)), (.int (0 : Int32))])) _
    refine XS.icmpYes X8.here hx rfl (pc0 := 186) (pc' := 200) rfl (hb hby at_186) rfl (flt (by decide)).2.2.2 (by decide) (by decide) ?_
    show Steps p.tables e below (T8.setTop (mkF m 200 #[.val (.int p1), .val (.int p2), .val (.int p3), .val (.int p4), .val (.int (0 : Int32)), .val (.int B0), .val (.int B1), .val (.int B2), .val (.ref b5), .val (.ref b6), .val (.ref r7), .val (.ref o8)] [])) _
    refine XS.aload X8.here hx rfl (hb hby at_200) rfl rfl ?_
    show Steps p.tables e below (T8.setTop (mkF m 202 #[.val (.int p1), .val (.int p2), .val (.int p3), .val (.int p4), .val (.int (0 : Int32)), .val (.int B0), .val (.int B1), .val (.int B2), .val (.ref b5), .val (.ref b6), .val (.ref r7), .val (.ref o8)] [(.ref r7)])) _
    refine XS.aload X8.here hx rfl (hb hby at_202) rfl rfl ?_
    show Steps p.tables e below (T8.setTop (mkF m 204 #[.val (.int p1), .val (.int p2), .val (.int p3), .val (.int p4), .val (.int (0 : Int32)), .val (.int B0), .val (.int B1), .val (.int B2), .val (.ref b5), .val (.ref b6), .val (.ref r7), .val (.ref o8)] [(.ref b6), (.ref r7)])) _
    refine st9 _ ?_
    show Steps p.tables e below (T9.setTop (mkF m 207 #[.val (.int p1), .val (.int p2), .val (.int p3), .val (.int p4), .val (.int (0 : Int32)), .val (.int B0), .val (.int B1), .val (.int B2), .val (.ref b5), .val (.ref b6), .val (.ref r7), .val (.ref o8)] [(.ref r9), (.ref r7)])) _
    refine st10.trans ?_
    show Steps p.tables e below (T10.setTop (mkF m 210 #[.val (.int p1), .val (.int p2), .val (.int p3), .val (.int p4), .val (.int (0 : Int32)), .val (.int B0), .val (.int B1), .val (.int B2), .val (.ref b5), .val (.ref b6), .val (.ref r7), .val (.ref o8)] [(.int (1 : Int32))])) _
    refine XS.ifYes X10.here hx rfl (pc0 := 210) (pc' := 215) rfl (hb hby at_210) rfl ((if0 _ _).trans (feq (by first | rfl | decide : ¬ ((1 : Int32) = (0 : Int32)))).2) (by decide) (by decide) ?_
    show Steps p.tables e below (T10.setTop (mkF m 215 #[.val (.int p1), .val (.int p2), .val (.int p3), .val (.int p4), .val (.int (0 : Int32)), .val (.int B0), .val (.int B1), .val (.int B2), .val (.ref b5), .val (.ref b6), .val (.ref r7), .val (.ref o8)] [])) _
    refine XS.iload X10.here hx rfl (hb hby at_215) rfl ?_
    show Steps p.tables e below (T10.setTop (mkF m 217 #[.val (.int p1), .val (.int p2), .val (.int p3), .val (.int p4), .val (.int (0 : Int32)), .val (.int B0), .val (.int B1), .val (.int B2), .val (.ref b5), .val (.ref b6), .val (.ref r7), .val (.ref o8)] [(.int (0 : Int32))])) _
    refine XS.ifYes X10.here hx rfl (pc0 := 217) (pc' := 235) rfl (hb hby at_217) rfl ((if0 _ _).trans (flt (by decide)).2.2.2) (by decide) (by decide) ?_
    show Steps p.tables e below (T10.setTop (mkF m 235 #[.val (.int p1), .val (.int p2), .val (.int p3), .val (.int p4), .val (.int (0 : Int32)), .val (.int B0), .val (.int B1), .val (.int B2), .val (.ref b5), .val (.ref b6), .val (.ref r7), .val (.ref o8)] [])) _
    refine XS.iconst X10.here hx rfl (hb hby at_235) ?_
    show Steps p.tables e below (T10.setTop (mkF m 236 #[.val (.int p1), .val (.int p2), .val (.int p3), .val (.int p4), .val (.int (0 : Int32)), .val (.int B0), .val (.int B1), .val (.int B2), .val (.ref b5), .val (.ref b6), .val (.ref r7), .val (.ref o8)] [(.int (1 : Int32))])) _
    exact retN X10 hx (t := .boolean) Bd.returns (by simp) (hb hby at_236) hr
  · show Q0 n0 _ _
    exact ⟨rfl, N10⟩
set_option maxRecDepth 65536 in
set_option maxHeartbeats 40000000 in
theorem rm0_1 (l : Launch) (Z : State) (a0 : Array Value) (hw : ∀ d ∈ tables_1, d.before a0 Z = true) (ws : List Jvm.Cond) (p1 : Int32) (p2 : Int32) (p3 : Int32) (p4 : Int32) (h0 : Heap) (n0 : Nat) (Z0 : n0 ≤ h0.size) (hn : (p1 &&& (3 : Int32)) = (1 : Int32)) :
    MetFree l x (head1 (Jvm.Cond.code x code maxLocals ret :: ws) room_1) (fun a U => a = #[(.int p1), (.int p2), (.int p3), (.int p4)] ∧ Z.Warmed39 U.vm ∧ U.heap = h0) (fun _ _ _ _ _ => True) (fun _ U o U' => ∃ v L, o = .returned v ∧ Q0 n0 v L ∧ FrameEnd U o U' L room_1.cells room_1.slots) := by
  refine MetFree.of_bodySF (plainFor_of_name pn_0) hisR ?_
  intro p e s m args below meth c s₁ Bd hml0 hP hK
  obtain ⟨rfl, hZ, hh⟩ := hP
  have hx := Bd.exec
  have hby := Bd.bytes
  have hml : c.maxLocals = 12 := hml0
  have hown : s.vm.findClass "com/example/mirrorlog/mirrorlog/core/undo/BytesOfPinLaw" = some m.cls := findClass_of_methodNamed Bd.named
  have hnm := (name_of_methodNamed Bd.named Bd.method).1
  have X0 : Stand p l e room_1 s m #[(.int p1), (.int p2), (.int p3), (.int p4)] below meth c s₁ [] 0 0 := Stand.of_body Bd
  have e0 : s₁.heap = h0 := by rw [← hh, Bd.state]; rfl
  have N0 := Fr.nil n0
  obtain ⟨B0, eB0⟩ : ∃ z, z = (p2.toInt8.toInt32) := ⟨_, rfl⟩
  obtain ⟨B1, eB1⟩ : ∃ z, z = (p3.toInt8.toInt32) := ⟨_, rfl⟩
  obtain ⟨B2, eB2⟩ : ∃ z, z = (p4.toInt8.toInt32) := ⟨_, rfl⟩
  have pre0 : ∀ t, Steps p.tables e below (s₁.setTop (mkF m 17 #[.val (.int p1), .val (.int p2), .val (.int p3), .val (.int p4), .val (.int (1 : Int32)), .val (.int B0), .val (.int B1), .val (.int B2), .unset, .unset, .unset, .unset] [])) t → Steps p.tables e below (s₁.setTop (entryFrame m #[(.int p1), (.int p2), (.int p3), (.int p4)] maxLocals)) t := fun t kt => castTop (ef_0 m p1 p2 p3 p4) (pc_A p1 p2 p3 p4 X0 hx hby t (by rw [hn, ← eB0, ← eB1, ← eB2]; exact kt))
  have hB0 : nar .byte B0 = B0 := by rw [eB0]; exact own_by _
  have hC0 : nar .byte ((B0 ^^^ (-1 : Int32)).toInt8.toInt32) = ((B0 ^^^ (-1 : Int32)).toInt8.toInt32) := own_by _
  have hB1 : nar .byte B1 = B1 := by rw [eB1]; exact own_by _
  have hC1 : nar .byte ((B1 ^^^ (-1 : Int32)).toInt8.toInt32) = ((B1 ^^^ (-1 : Int32)).toInt8.toInt32) := own_by _
  have hB2 : nar .byte B2 = B2 := by rw [eB2]; exact own_by _
  have hC2 : nar .byte ((B2 ^^^ (-1 : Int32)).toInt8.toInt32) = ((B2 ^^^ (-1 : Int32)).toInt8.toInt32) := own_by _
  obtain ⟨T5, h5, k5, X5, e5, E5, A5, Y5, st5⟩ := newPE X0 hx hZ (hw _ (List.mem_of_getElem? (i := 0) rfl)) e0 (g := (mkF m 19 #[.val (.int p1), .val (.int p2), .val (.int p3), .val (.int p4), .val (.int (1 : Int32)), .val (.int B0), .val (.int B1), .val (.int B2), .unset, .unset, .unset, .unset] [(.int (1 : Int32))])) rfl (hb hby at_19) rfl (by decide) (cap := 1) (by decide) (by decide) (by decide) (by decide) (ad := "[B") (by decide)
  obtain ⟨b5, g5⟩ : ∃ z, z = h0.size := ⟨_, rfl⟩
  rw [← g5] at A5 Y5 st5
  have V_b5 : Arv Z h5 b5 k5 .byte (1 : Int32) [(.int (0 : Int32))] (.int (0 : Int32)) := (Arv.new A5 (by decide)).pad (pad_rep [] (.int (0 : Int32)) 1)
  have g_b5 : n0 ≤ b5 := Nat.le_trans Z0 (Nat.le_of_eq g5.symm)
  have sz_b5 : h0.size ≤ b5 := (Nat.le_trans (Keep.refl h0 []).1 (Nat.le_of_eq g5.symm))
  have K5 : Keep h0 h5 [] := (Keep.refl h0 []).ext E5
  obtain ⟨T6, h6, k6, X6, e6, E6, A6, Y6, st6⟩ := newPE X5 hx hZ (hw _ (List.mem_of_getElem? (i := 0) rfl)) e5 (g := (mkF m 25 #[.val (.int p1), .val (.int p2), .val (.int p3), .val (.int p4), .val (.int (1 : Int32)), .val (.int B0), .val (.int B1), .val (.int B2), .val (.ref b5), .unset, .unset, .unset] [(.int (1 : Int32))])) rfl (hb hby at_25) rfl (by decide) (cap := 1) (by decide) (by decide) (by decide) (by decide) (ad := "[B") (by decide)
  obtain ⟨b6, g6⟩ : ∃ z, z = h5.size := ⟨_, rfl⟩
  rw [← g6] at A6 Y6 st6
  have V_b6 : Arv Z h6 b6 k6 .byte (1 : Int32) [(.int (0 : Int32))] (.int (0 : Int32)) := (Arv.new A6 (by decide)).pad (pad_rep [] (.int (0 : Int32)) 1)
  have g_b6 : n0 ≤ b6 := Nat.le_trans (Nat.le_trans Z0 E5.1) (Nat.le_of_eq g6.symm)
  have sz_b6 : h0.size ≤ b6 := (Nat.le_trans K5.1 (Nat.le_of_eq g6.symm))
  have l_ac : b5 < b6 := by rw [g6]; exact V_b5.lt
  have K6 : Keep h0 h6 [] := K5.ext E6
  obtain ⟨cl_b5_39, Ar_b5, q_b5, S_b5, N_b5, H_b5, G_b5⟩ := (V_b5.ext E6)
  have hin39 : ¬ ((0 : Int32) < 0 ∨ cl_b5_39.slots.size ≤ ((0 : Int32)).toNatClampNeg) := inb_of S_b5 ⟨by decide, by decide⟩
  obtain ⟨T7, h7, X7, e7, W7, st7⟩ := stB X6 hx hZ e6 Ar_b5 (j := (0 : Int32)) hin39 (g := (mkF m 39 #[.val (.int p1), .val (.int p2), .val (.int p3), .val (.int p4), .val (.int (1 : Int32)), .val (.int B0), .val (.int B1), .val (.int B2), .val (.ref b5), .val (.ref b6), .unset, .unset] [(.int B0), (.int (0 : Int32)), (.ref b5)])) rfl rfl (hb hby at_39)
  have V_b5_7 := Arv.set Ar_b5 q_b5 S_b5 N_b5 H_b5 G_b5 (fits_nar_byte _) W7 0 rfl (Nat.le_of_ble_eq_true rfl)
  replace V_b5_7 : Arv Z h7 b5 k5 .byte (1 : Int32) [(.int (nar .byte B0))] (.int (0 : Int32)) := V_b5_7
  rw [hB0] at V_b5_7
  have K7 : Keep h0 h7 [] := K6.wr W7 (Or.inr sz_b5)
  have N7 := Fr.snoc X7 N0 g_b5
  obtain ⟨cl_b6_45, Ar_b6, q_b6, S_b6, N_b6, H_b6, G_b6⟩ := (V_b6.other W7 (by omega : b6 ≠ b5))
  have hin45 : ¬ ((0 : Int32) < 0 ∨ cl_b6_45.slots.size ≤ ((0 : Int32)).toNatClampNeg) := inb_of S_b6 ⟨by decide, by decide⟩
  obtain ⟨T8, h8, X8, e8, W8, st8⟩ := stB X7 hx hZ e7 Ar_b6 (j := (0 : Int32)) hin45 (g := (mkF m 45 #[.val (.int p1), .val (.int p2), .val (.int p3), .val (.int p4), .val (.int (1 : Int32)), .val (.int B0), .val (.int B1), .val (.int B2), .val (.ref b5), .val (.ref b6), .unset, .unset] [(.int B0), (.int (0 : Int32)), (.ref b6)])) rfl rfl (hb hby at_45)
  have V_b6_8 := Arv.set Ar_b6 q_b6 S_b6 N_b6 H_b6 G_b6 (fits_nar_byte _) W8 0 rfl (Nat.le_of_ble_eq_true rfl)
  replace V_b6_8 : Arv Z h8 b6 k6 .byte (1 : Int32) [(.int (nar .byte B0))] (.int (0 : Int32)) := V_b6_8
  rw [hB0] at V_b6_8
  have K8 : Keep h0 h8 [] := K7.wr W8 (Or.inr sz_b6)
  have N8 := Fr.snoc X8 N7 g_b6
  have Zc9 : n0 ≤ h8.size := Nat.le_trans Z0 K8.1
  obtain ⟨_, _, ⟨T9, L9, k9, n9⟩, -, X9, ⟨Lc9, hQ9, l9, y9, z9⟩, st9⟩ := Jvm.LawKit.callS X8 hx (y := (⟨"com/example/mirrorlog/mirrorlog/core/undo/Bytes", "of", "([B)Lcom/example/mirrorlog/mirrorlog/core/undo/Bytes;"⟩ : MethodName)) hown (mvT hZ (hw _ (List.mem_of_getElem? (i := 1) rfl))) (mvT hZ (hw _ (List.mem_of_getElem? (i := 2) rfl))) (mvT hZ (hw _ (List.mem_of_getElem? (i := 3) rfl))) (mvT hZ (hw _ (List.mem_of_getElem? (i := 4) rfl))) (by decide) (backOf (W := 0) (rm1 l Z a0 hw [] b5 h8 n0 Zc9 (((Y5.ext E6).wr W7).wr W8) k5 (1 : Int32) [(.int B0)] (V_b5_7.other W8 (by omega : b5 ≠ b6)) (by decide)) hZ (hw _ (List.mem_of_getElem? (i := 4) rfl)) (hw _ (List.mem_of_getElem? (i := 3) rfl)) (by decide) (by decide)) (g := (mkF m 84 #[.val (.int p1), .val (.int p2), .val (.int p3), .val (.int p4), .val (.int (1 : Int32)), .val (.int B0), .val (.int B1), .val (.int B2), .val (.ref b5), .val (.ref b6), .unset, .unset] [(.ref b5)])) rfl (by rw [hml]; rfl) (argsL := [(.ref b5)]) (rest := []) (lenOf pd_0_0 rfl) rfl (by show 2 * 0 + _ ≤ _; exact Nat.le_of_eq rfl) (hb hby at_84) (fun _ _ => ⟨rfl, e8, (by decide : 2 + 2 ≤ _), (by decide : 2 + 4 ≤ _)⟩)
  dsimp only [Pt.U, Pt.locs, Pt.cells, Pt.slots] at X9 l9 y9 z9 st9 hQ9
  subst l9 y9 z9
  obtain ⟨⟨r9, c9, rfl, lr9, lc9, Y_r9, F_r9, V_c9, Y_c9⟩, N9q, Kc9⟩ := hQ9
  have la9 : b5 < h8.size := ((V_b5_7.other W8 (by omega : b5 ≠ b6))).lt
  have KT9 : Keep h0 T9.heap [] := K8.trans Kc9 (fun x hx => nomatch hx)
  have N9 := Fr.app N8 N9q
  obtain ⟨cl_b5_102, Ar_b5, q_b5, S_b5, N_b5, H_b5, G_b5⟩ := ((V_b5_7.other W8 (by omega : b5 ≠ b6)).keep Kc9 (fun q => nomatch q))
  have hin102 : ¬ ((0 : Int32) < 0 ∨ cl_b5_102.slots.size ≤ ((0 : Int32)).toNatClampNeg) := inb_of S_b5 ⟨by decide, by decide⟩
  obtain ⟨T10, h10, X10, e10, W10, st10⟩ := stB X9 hx hZ rfl Ar_b5 (j := (0 : Int32)) hin102 (g := (mkF m 102 #[.val (.int p1), .val (.int p2), .val (.int p3), .val (.int p4), .val (.int (1 : Int32)), .val (.int B0), .val (.int B1), .val (.int B2), .val (.ref b5), .val (.ref b6), .val (.ref r9), .unset] [(.int ((B0 ^^^ (-1 : Int32)).toInt8.toInt32)), (.int (0 : Int32)), (.ref b5)])) rfl rfl (hb hby at_102)
  have V_b5_10 := Arv.set Ar_b5 q_b5 S_b5 N_b5 H_b5 G_b5 (fits_nar_byte _) W10 0 rfl (Nat.le_of_ble_eq_true rfl)
  replace V_b5_10 : Arv Z h10 b5 k5 .byte (1 : Int32) [(.int (nar .byte ((B0 ^^^ (-1 : Int32)).toInt8.toInt32)))] (.int (0 : Int32)) := V_b5_10
  rw [hC0] at V_b5_10
  have K10 : Keep h0 h10 [] := KT9.wr W10 (Or.inr sz_b5)
  have N10 := Fr.snoc X10 N9 g_b5
  obtain ⟨cq11, kq11, q11a, q11b, q11c⟩ := isOf hZ e10 (Y_r9.wr W10)
  have Zc11 : n0 ≤ h10.size := Nat.le_trans Z0 K10.1
  obtain ⟨_, _, ⟨T11, L11, k11, n11⟩, -, X11, ⟨Lc11, hQ11, l11, y11, z11⟩, st11⟩ := X10.virtualBack hx (y := (⟨"com/example/mirrorlog/mirrorlog/core/undo/Bytes", "toArray", "()[B"⟩ : MethodName)) (z := (⟨"com/example/mirrorlog/mirrorlog/core/undo/Bytes", "toArray", "()[B"⟩ : MethodName)) hown (mvT hZ (hw _ (List.mem_of_getElem? (i := 24) rfl))) (mvT hZ (hw _ (List.mem_of_getElem? (i := 25) rfl))) (notFace_of_selects (args := #[]) (mvT hZ (hw _ (List.mem_of_getElem? (i := 27) rfl)))) (mvT hZ (hw _ (List.mem_of_getElem? (i := 27) rfl))) (mvT hZ (hw _ (List.mem_of_getElem? (i := 26) rfl))) (by decide) (backOf (W := 0) (rm4 l Z a0 hw [] r9 c9 h10 n0 Zc11 (F_r9.other W10 (Or.inl (by omega : r9 ≠ b5))) (Y_c9.wr W10) k5 (1 : Int32) [(.int B0)] (V_c9.other W10 (by omega : c9 ≠ b5)) (by decide)) hZ (hw _ (List.mem_of_getElem? (i := 28) rfl)) (hw _ (List.mem_of_getElem? (i := 3) rfl)) (by decide) (by decide)) q11a q11c (g := (mkF m 135 #[.val (.int p1), .val (.int p2), .val (.int p3), .val (.int p4), .val (.int (1 : Int32)), .val (.int B0), .val (.int B1), .val (.int B2), .val (.ref b5), .val (.ref b6), .val (.ref r9), .unset] [(.ref r9)])) rfl (by rw [hml]; rfl) (Steps.refl _) (argsL := []) (rest := []) (lenOf pd_0_4 rfl) rfl (by show 2 * 0 + _ ≤ _; exact Nat.le_of_eq rfl) (hb hby at_135) (fun _ _ => ⟨rfl, e10, (by decide : 4 + 1 ≤ _), (by decide : 6 + 3 ≤ _)⟩)
  dsimp only [Pt.U, Pt.locs, Pt.cells, Pt.slots] at X11 l11 y11 z11 st11 hQ11
  subst l11 y11 z11
  obtain ⟨⟨o11, rfl, V_o11⟩, N11q, Kc11⟩ := hQ11
  obtain ⟨cl_o, Ar_o, -, S_o, N_o, H_o, -⟩ := V_o11
  have KT11 : Keep h0 T11.heap [] := K10.trans Kc11 (fun x hx => nomatch hx)
  have N11 := Fr.app N10 N11q
  have Zc13 : n0 ≤ T11.heap.size := Nat.le_trans Z0 KT11.1
  obtain ⟨_, _, ⟨T13, L13, k13, n13⟩, -, X13, ⟨Lc13, hQ13, l13, y13, z13⟩, st13⟩ := Jvm.LawKit.callS X11 hx (y := (⟨"com/example/mirrorlog/mirrorlog/core/undo/Bytes", "of", "([B)Lcom/example/mirrorlog/mirrorlog/core/undo/Bytes;"⟩ : MethodName)) hown (mvT hZ (hw _ (List.mem_of_getElem? (i := 1) rfl))) (mvT hZ (hw _ (List.mem_of_getElem? (i := 2) rfl))) (mvT hZ (hw _ (List.mem_of_getElem? (i := 3) rfl))) (mvT hZ (hw _ (List.mem_of_getElem? (i := 4) rfl))) (by decide) (backOf (W := 1) (rm1 l Z a0 hw [] b6 T11.heap n0 Zc13 (((((Y6.wr W7).wr W8).keep Kc9).wr W10).keep Kc11) k6 (1 : Int32) [(.int B0)] (((V_b6_8.keep Kc9 (fun q => nomatch q)).other W10 (by omega : b6 ≠ b5)).keep Kc11 (fun q => nomatch q)) (by decide)) hZ (hw _ (List.mem_of_getElem? (i := 4) rfl)) (hw _ (List.mem_of_getElem? (i := 3) rfl)) (by decide) (by decide)) (g := (mkF m 204 #[.val (.int p1), .val (.int p2), .val (.int p3), .val (.int p4), .val (.int (1 : Int32)), .val (.int B0), .val (.int B1), .val (.int B2), .val (.ref b5), .val (.ref b6), .val (.ref r9), .val (.ref o11)] [(.ref b6), (.ref r9)])) rfl (by rw [hml]; rfl) (argsL := [(.ref b6)]) (rest := [(.ref r9)]) (lenOf pd_0_0 rfl) rfl (by show 2 * 0 + _ ≤ _; exact Nat.le_of_eq rfl) (hb hby at_204) (fun _ _ => ⟨rfl, rfl, (by decide : 5 + 2 ≤ _), (by decide : 9 + 4 ≤ _)⟩)
  dsimp only [Pt.U, Pt.locs, Pt.cells, Pt.slots] at X13 l13 y13 z13 st13 hQ13
  subst l13 y13 z13
  obtain ⟨⟨r13, c13, rfl, lr13, lc13, Y_r13, F_r13, V_c13, Y_c13⟩, N13q, Kc13⟩ := hQ13
  have lv13 : c9 < T11.heap.size := (((V_c9.other W10 (by omega : c9 ≠ b5)).keep Kc11 (fun q => nomatch q))).lt
  have KT13 : Keep h0 T13.heap [] := KT11.trans Kc13 (fun x hx => nomatch hx)
  have N13 := Fr.app N11 N13q
  obtain ⟨cq14, kq14, q14a, q14b, q14c⟩ := isOf hZ rfl (((Y_r9.wr W10).keep Kc11).keep Kc13)
  have Zc14 : n0 ≤ T13.heap.size := Nat.le_trans Z0 KT13.1
  obtain ⟨_, _, ⟨T14, L14, k14, n14⟩, -, X14, ⟨Lc14, hQ14, l14, y14, z14⟩, st14⟩ := X13.virtualBack hx (y := (⟨"com/example/mirrorlog/mirrorlog/core/undo/Bytes", "equals", "(Ljava/lang/Object;)Z"⟩ : MethodName)) (z := (⟨"com/example/mirrorlog/mirrorlog/core/undo/Bytes", "equals", "(Ljava/lang/Object;)Z"⟩ : MethodName)) hown (mvT hZ (hw _ (List.mem_of_getElem? (i := 29) rfl))) (mvT hZ (hw _ (List.mem_of_getElem? (i := 30) rfl))) (notFace_of_selects (args := #[]) (mvT hZ (hw _ (List.mem_of_getElem? (i := 32) rfl)))) (mvT hZ (hw _ (List.mem_of_getElem? (i := 32) rfl))) (mvT hZ (hw _ (List.mem_of_getElem? (i := 31) rfl))) (by decide) (backOf (W := 0) (rm5e l Z a0 hw [] r9 r13 c9 c13 k5 k6 (1 : Int32) [(.int B0)] T13.heap n0 Zc14 (Ins.self Y_r13) (((F_r9.other W10 (Or.inl (by omega : r9 ≠ b5))).keep Kc11 (fun q => nomatch q)).keep Kc13 (fun q => nomatch q)) F_r13 (Or.inr (Or.inl ⟨_, rfl, rfl⟩)) (((V_c9.other W10 (by omega : c9 ≠ b5)).keep Kc11 (fun q => nomatch q)).keep Kc13 (fun q => nomatch q)) V_c13 (by omega : ¬ (c9 = c13))) hZ (hw _ (List.mem_of_getElem? (i := 33) rfl)) (hw _ (List.mem_of_getElem? (i := 3) rfl)) (by decide) (by decide)) q14a q14c (g := (mkF m 207 #[.val (.int p1), .val (.int p2), .val (.int p3), .val (.int p4), .val (.int (1 : Int32)), .val (.int B0), .val (.int B1), .val (.int B2), .val (.ref b5), .val (.ref b6), .val (.ref r9), .val (.ref o11)] [(.ref r13), (.ref r9)])) rfl (by rw [hml]; rfl) (Steps.refl _) (argsL := [(.ref r13)]) (rest := []) (lenOf pd_0_5 rfl) rfl (by show 2 * 0 + _ ≤ _; exact Nat.le_of_eq rfl) (hb hby at_207) (fun _ _ => ⟨rfl, rfl, (by decide : 7 + 0 ≤ _), (by decide : 13 + 0 ≤ _)⟩)
  dsimp only [Pt.U, Pt.locs, Pt.cells, Pt.slots] at X14 l14 y14 z14 st14 hQ14
  subst l14 y14 z14
  obtain ⟨rfl, N14q, eq14⟩ := hQ14
  have Kc14 : Keep T13.heap T14.heap [] := by rw [eq14]; exact Keep.refl _ []
  have KT14 : Keep h0 T14.heap [] := KT13.trans Kc14 (fun x hx => nomatch hx)
  have N14 := Fr.app N13 N14q
  have Zc15 : n0 ≤ T14.heap.size := Nat.le_trans Z0 KT14.1
  obtain ⟨_, _, ⟨T15, L15, k15, n15⟩, -, X15, ⟨Lc15, hQ15, l15, y15, z15⟩, st15⟩ := Jvm.LawKit.callS X14 hx (y := (⟨"com/example/mirrorlog/mirrorlog/core/undo/Bytes", "of", "([B)Lcom/example/mirrorlog/mirrorlog/core/undo/Bytes;"⟩ : MethodName)) hown (mvT hZ (hw _ (List.mem_of_getElem? (i := 1) rfl))) (mvT hZ (hw _ (List.mem_of_getElem? (i := 2) rfl))) (mvT hZ (hw _ (List.mem_of_getElem? (i := 3) rfl))) (mvT hZ (hw _ (List.mem_of_getElem? (i := 4) rfl))) (by decide) (backOf (W := 1) (rm1 l Z a0 hw [] b5 T14.heap n0 Zc15 ((((((((Y5.ext E6).wr W7).wr W8).keep Kc9).wr W10).keep Kc11).keep Kc13).keep Kc14) k5 (1 : Int32) [(.int ((B0 ^^^ (-1 : Int32)).toInt8.toInt32))] (((V_b5_10.keep Kc11 (fun q => nomatch q)).keep Kc13 (fun q => nomatch q)).keep Kc14 (fun q => nomatch q)) (by decide)) hZ (hw _ (List.mem_of_getElem? (i := 4) rfl)) (hw _ (List.mem_of_getElem? (i := 3) rfl)) (by decide) (by decide)) (g := (mkF m 224 #[.val (.int p1), .val (.int p2), .val (.int p3), .val (.int p4), .val (.int (1 : Int32)), .val (.int B0), .val (.int B1), .val (.int B2), .val (.ref b5), .val (.ref b6), .val (.ref r9), .val (.ref o11)] [(.ref b5), (.ref r9)])) rfl (by rw [hml]; rfl) (argsL := [(.ref b5)]) (rest := [(.ref r9)]) (lenOf pd_0_0 rfl) rfl (by show 2 * 0 + _ ≤ _; exact Nat.le_of_eq rfl) (hb hby at_224) (fun _ _ => ⟨rfl, rfl, (by decide : 7 + 2 ≤ _), (by decide : 13 + 4 ≤ _)⟩)
  dsimp only [Pt.U, Pt.locs, Pt.cells, Pt.slots] at X15 l15 y15 z15 st15 hQ15
  subst l15 y15 z15
  obtain ⟨⟨r15, c15, rfl, lr15, lc15, Y_r15, F_r15, V_c15, Y_c15⟩, N15q, Kc15⟩ := hQ15
  have lv15 : c9 < T14.heap.size := (((((V_c9.other W10 (by omega : c9 ≠ b5)).keep Kc11 (fun q => nomatch q)).keep Kc13 (fun q => nomatch q)).keep Kc14 (fun q => nomatch q))).lt
  have KT15 : Keep h0 T15.heap [] := KT14.trans Kc15 (fun x hx => nomatch hx)
  have N15 := Fr.app N14 N15q
  obtain ⟨cq16, kq16, q16a, q16b, q16c⟩ := isOf hZ rfl (((((Y_r9.wr W10).keep Kc11).keep Kc13).keep Kc14).keep Kc15)
  have Zc16 : n0 ≤ T15.heap.size := Nat.le_trans Z0 KT15.1
  obtain ⟨_, _, ⟨T16, L16, k16, n16⟩, -, X16, ⟨Lc16, hQ16, l16, y16, z16⟩, st16⟩ := X15.virtualBack hx (y := (⟨"com/example/mirrorlog/mirrorlog/core/undo/Bytes", "equals", "(Ljava/lang/Object;)Z"⟩ : MethodName)) (z := (⟨"com/example/mirrorlog/mirrorlog/core/undo/Bytes", "equals", "(Ljava/lang/Object;)Z"⟩ : MethodName)) hown (mvT hZ (hw _ (List.mem_of_getElem? (i := 29) rfl))) (mvT hZ (hw _ (List.mem_of_getElem? (i := 30) rfl))) (notFace_of_selects (args := #[]) (mvT hZ (hw _ (List.mem_of_getElem? (i := 32) rfl)))) (mvT hZ (hw _ (List.mem_of_getElem? (i := 32) rfl))) (mvT hZ (hw _ (List.mem_of_getElem? (i := 31) rfl))) (by decide) (backOf (W := 0) (rm5n l Z a0 hw [] r9 r15 c9 c15 k5 k5 (1 : Int32) B0 ((B0 ^^^ (-1 : Int32)).toInt8.toInt32) [] [] T15.heap n0 Zc16 (Ins.self Y_r15) (((((F_r9.other W10 (Or.inl (by omega : r9 ≠ b5))).keep Kc11 (fun q => nomatch q)).keep Kc13 (fun q => nomatch q)).keep Kc14 (fun q => nomatch q)).keep Kc15 (fun q => nomatch q)) F_r15 (by decide) (by decide) (own_comp B0 hB0) (((((V_c9.other W10 (by omega : c9 ≠ b5)).keep Kc11 (fun q => nomatch q)).keep Kc13 (fun q => nomatch q)).keep Kc14 (fun q => nomatch q)).keep Kc15 (fun q => nomatch q)) V_c15 (by omega : ¬ (c9 = c15))) hZ (hw _ (List.mem_of_getElem? (i := 33) rfl)) (hw _ (List.mem_of_getElem? (i := 3) rfl)) (by decide) (by decide)) q16a q16c (g := (mkF m 227 #[.val (.int p1), .val (.int p2), .val (.int p3), .val (.int p4), .val (.int (1 : Int32)), .val (.int B0), .val (.int B1), .val (.int B2), .val (.ref b5), .val (.ref b6), .val (.ref r9), .val (.ref o11)] [(.ref r15), (.ref r9)])) rfl (by rw [hml]; rfl) (Steps.refl _) (argsL := [(.ref r15)]) (rest := []) (lenOf pd_0_5 rfl) rfl (by show 2 * 0 + _ ≤ _; exact Nat.le_of_eq rfl) (hb hby at_227) (fun _ _ => ⟨rfl, rfl, (by decide : 9 + 0 ≤ _), (by decide : 17 + 0 ≤ _)⟩)
  dsimp only [Pt.U, Pt.locs, Pt.cells, Pt.slots] at X16 l16 y16 z16 st16 hQ16
  subst l16 y16 z16
  obtain ⟨rfl, N16q, eq16⟩ := hQ16
  have Kc16 : Keep T15.heap T16.heap [] := by rw [eq16]; exact Keep.refl _ []
  have KT16 : Keep h0 T16.heap [] := KT15.trans Kc16 (fun x hx => nomatch hx)
  have N16 := Fr.app N15 N16q
  obtain ⟨fs, hr, hrun, hended, hW, hsame⟩ := X16.leave (v := some (.int (1 : Int32))) (fun h => by rw [Bd.returns] at h; cases h)
  refine ⟨_, _, pre0 _ ?_, hrun, hended, _, _, rfl, ?_, ⟨_, rfl⟩, hW, hsame.mono (by decide) (by decide)⟩
  · show Steps p.tables e below (s₁.setTop (mkF m 17 #[.val (.int p1), .val (.int p2), .val (.int p3), .val (.int p4), .val (.int (1 : Int32)), .val (.int B0), .val (.int B1), .val (.int B2), .unset, .unset, .unset, .unset] [])) _
    refine XS.iload X0.here hx rfl (hb hby at_17) rfl ?_
    show Steps p.tables e below (s₁.setTop (mkF m 19 #[.val (.int p1), .val (.int p2), .val (.int p3), .val (.int p4), .val (.int (1 : Int32)), .val (.int B0), .val (.int B1), .val (.int B2), .unset, .unset, .unset, .unset] [(.int (1 : Int32))])) _
    refine st5 _ ?_
    show Steps p.tables e below (T5.setTop (mkF m 21 #[.val (.int p1), .val (.int p2), .val (.int p3), .val (.int p4), .val (.int (1 : Int32)), .val (.int B0), .val (.int B1), .val (.int B2), .unset, .unset, .unset, .unset] [(.ref b5)])) _
    refine XS.astore X5.here hx rfl (hb hby at_21) rfl rfl (l' := #[.val (.int p1), .val (.int p2), .val (.int p3), .val (.int p4), .val (.int (1 : Int32)), .val (.int B0), .val (.int B1), .val (.int B2), .val (.ref b5), .unset, .unset, .unset]) rfl ?_
    show Steps p.tables e below (T5.setTop (mkF m 23 #[.val (.int p1), .val (.int p2), .val (.int p3), .val (.int p4), .val (.int (1 : Int32)), .val (.int B0), .val (.int B1), .val (.int B2), .val (.ref b5), .unset, .unset, .unset] [])) _
    refine XS.iload X5.here hx rfl (hb hby at_23) rfl ?_
    show Steps p.tables e below (T5.setTop (mkF m 25 #[.val (.int p1), .val (.int p2), .val (.int p3), .val (.int p4), .val (.int (1 : Int32)), .val (.int B0), .val (.int B1), .val (.int B2), .val (.ref b5), .unset, .unset, .unset] [(.int (1 : Int32))])) _
    refine st6 _ ?_
    show Steps p.tables e below (T6.setTop (mkF m 27 #[.val (.int p1), .val (.int p2), .val (.int p3), .val (.int p4), .val (.int (1 : Int32)), .val (.int B0), .val (.int B1), .val (.int B2), .val (.ref b5), .unset, .unset, .unset] [(.ref b6)])) _
    refine XS.astore X6.here hx rfl (hb hby at_27) rfl rfl (l' := #[.val (.int p1), .val (.int p2), .val (.int p3), .val (.int p4), .val (.int (1 : Int32)), .val (.int B0), .val (.int B1), .val (.int B2), .val (.ref b5), .val (.ref b6), .unset, .unset]) rfl ?_
    show Steps p.tables e below (T6.setTop (mkF m 29 #[.val (.int p1), .val (.int p2), .val (.int p3), .val (.int p4), .val (.int (1 : Int32)), .val (.int B0), .val (.int B1), .val (.int B2), .val (.ref b5), .val (.ref b6), .unset, .unset] [])) _
    refine XS.iload X6.here hx rfl (hb hby at_29) rfl ?_
    show Steps p.tables e below (T6.setTop (mkF m 31 #[.val (.int p1), .val (.int p2), .val (.int p3), .val (.int p4), .val (.int (1 : Int32)), .val (.int B0), .val (.int B1), .val (.int B2), .val (.ref b5), .val (.ref b6), .unset, .unset] [(.int (1 : Int32))])) _
    refine XS.ifNo X6.here hx rfl (hb hby at_31) rfl ((if0 _ _).trans (tlt (by decide)).2.2.2) ?_
    show Steps p.tables e below (T6.setTop (mkF m 34 #[.val (.int p1), .val (.int p2), .val (.int p3), .val (.int p4), .val (.int (1 : Int32)), .val (.int B0), .val (.int B1), .val (.int B2), .val (.ref b5), .val (.ref b6), .unset, .unset] [])) _
    refine XS.aload X6.here hx rfl (hb hby at_34) rfl rfl ?_
    show Steps p.tables e below (T6.setTop (mkF m 36 #[.val (.int p1), .val (.int p2), .val (.int p3), .val (.int p4), .val (.int (1 : Int32)), .val (.int B0), .val (.int B1), .val (.int B2), .val (.ref b5), .val (.ref b6), .unset, .unset] [(.ref b5)])) _
    refine XS.iconst X6.here hx rfl (hb hby at_36) ?_
    show Steps p.tables e below (T6.setTop (mkF m 37 #[.val (.int p1), .val (.int p2), .val (.int p3), .val (.int p4), .val (.int (1 : Int32)), .val (.int B0), .val (.int B1), .val (.int B2), .val (.ref b5), .val (.ref b6), .unset, .unset] [(.int (0 : Int32)), (.ref b5)])) _
    refine XS.iload X6.here hx rfl (hb hby at_37) rfl ?_
    show Steps p.tables e below (T6.setTop (mkF m 39 #[.val (.int p1), .val (.int p2), .val (.int p3), .val (.int p4), .val (.int (1 : Int32)), .val (.int B0), .val (.int B1), .val (.int B2), .val (.ref b5), .val (.ref b6), .unset, .unset] [(.int B0), (.int (0 : Int32)), (.ref b5)])) _
    refine st7 _ ?_
    show Steps p.tables e below (T7.setTop (mkF m 40 #[.val (.int p1), .val (.int p2), .val (.int p3), .val (.int p4), .val (.int (1 : Int32)), .val (.int B0), .val (.int B1), .val (.int B2), .val (.ref b5), .val (.ref b6), .unset, .unset] [])) _
    refine XS.aload X7.here hx rfl (hb hby at_40) rfl rfl ?_
    show Steps p.tables e below (T7.setTop (mkF m 42 #[.val (.int p1), .val (.int p2), .val (.int p3), .val (.int p4), .val (.int (1 : Int32)), .val (.int B0), .val (.int B1), .val (.int B2), .val (.ref b5), .val (.ref b6), .unset, .unset] [(.ref b6)])) _
    refine XS.iconst X7.here hx rfl (hb hby at_42) ?_
    show Steps p.tables e below (T7.setTop (mkF m 43 #[.val (.int p1), .val (.int p2), .val (.int p3), .val (.int p4), .val (.int (1 : Int32)), .val (.int B0), .val (.int B1), .val (.int B2), .val (.ref b5), .val (.ref b6), .unset, .unset] [(.int (0 : Int32)), (.ref b6)])) _
    refine XS.iload X7.here hx rfl (hb hby at_43) rfl ?_
    show Steps p.tables e below (T7.setTop (mkF m 45 #[.val (.int p1), .val (.int p2), .val (.int p3), .val (.int p4), .val (.int (1 : Int32)), .val (.int B0), .val (.int B1), .val (.int B2), .val (.ref b5), .val (.ref b6), .unset, .unset] [(.int B0), (.int (0 : Int32)), (.ref b6)])) _
    refine st8 _ ?_
    show Steps p.tables e below (T8.setTop (mkF m 46 #[.val (.int p1), .val (.int p2), .val (.int p3), .val (.int p4), .val (.int (1 : Int32)), .val (.int B0), .val (.int B1), .val (.int B2), .val (.ref b5), .val (.ref b6), .unset, .unset] [])) _
    refine XS.iload X8.here hx rfl (hb hby at_46) rfl ?_
    show Steps p.tables e below (T8.setTop (mkF m 48 #[.val (.int p1), .val (.int p2), .val (.int p3), .val (.int p4), .val (.int (1 : Int32)), .val (.int B0), .val (.int B1), .val (.int B2), .val (.ref b5), .val (.ref b6), .unset, .unset] [(.int (1 : Int32))])) _
    refine XS.iconst X8.here hx rfl (hb hby at_48) ?_
    show Steps p.tables e below (T8.setTop (mkF m 49 #[.val (.int p1), .val (.int p2), .val (.int p3), .val (.int p4), .val (.int (1 : Int32)), .val (.int B0), .val (.int B1), .val (.int B2), .val (.ref b5), .val (.ref b6), .unset, .unset] [(.int (1 : Int32)), (.int (1 : Int32))])) _
    refine XS.icmpYes X8.here hx rfl (pc0 := 49) (pc' := 64) rfl (hb hby at_49) rfl (flt (by decide)).2.2.2 (by decide) (by decide) ?_
    show Steps p.tables e below (T8.setTop (mkF m 64 #[.val (.int p1), .val (.int p2), .val (.int p3), .val (.int p4), .val (.int (1 : Int32)), .val (.int B0), .val (.int B1), .val (.int B2), .val (.ref b5), .val (.ref b6), .unset, .unset] [])) _
    refine XS.iload X8.here hx rfl (hb hby at_64) rfl ?_
    show Steps p.tables e below (T8.setTop (mkF m 66 #[.val (.int p1), .val (.int p2), .val (.int p3), .val (.int p4), .val (.int (1 : Int32)), .val (.int B0), .val (.int B1), .val (.int B2), .val (.ref b5), .val (.ref b6), .unset, .unset] [(.int (1 : Int32))])) _
    refine XS.iconst X8.here hx rfl (hb hby at_66) ?_
    show Steps p.tables e below (T8.setTop (mkF m 67 #[.val (.int p1), .val (.int p2), .val (.int p3), .val (.int p4), .val (.int (1 : Int32)), .val (.int B0), .val (.int B1), .val (.int B2), .val (.ref b5), .val (.ref b6), .unset, .unset] [(.int (2 : Int32)), (.int (1 : Int32))])) _
    refine XS.icmpYes X8.here hx rfl (pc0 := 67) (pc' := 82) rfl (hb hby at_67) rfl (flt (by decide)).2.2.2 (by decide) (by decide) ?_
    show Steps p.tables e below (T8.setTop (mkF m 82 #[.val (.int p1), .val (.int p2), .val (.int p3), .val (.int p4), .val (.int (1 : Int32)), .val (.int B0), .val (.int B1), .val (.int B2), .val (.ref b5), .val (.ref b6), .unset, .unset] [])) _
    refine XS.aload X8.here hx rfl (hb hby at_82) rfl rfl ?_
    show Steps p.tables e below (T8.setTop (mkF m 84 #[.val (.int p1), .val (.int p2), .val (.int p3), .val (.int p4), .val (.int (1 : Int32)), .val (.int B0), .val (.int B1), .val (.int B2), .val (.ref b5), .val (.ref b6), .unset, .unset] [(.ref b5)])) _
    refine st9 _ ?_
    show Steps p.tables e below (T9.setTop (mkF m 87 #[.val (.int p1), .val (.int p2), .val (.int p3), .val (.int p4), .val (.int (1 : Int32)), .val (.int B0), .val (.int B1), .val (.int B2), .val (.ref b5), .val (.ref b6), .unset, .unset] [(.ref r9)])) _
    refine XS.astore X9.here hx rfl (hb hby at_87) rfl rfl (l' := #[.val (.int p1), .val (.int p2), .val (.int p3), .val (.int p4), .val (.int (1 : Int32)), .val (.int B0), .val (.int B1), .val (.int B2), .val (.ref b5), .val (.ref b6), .val (.ref r9), .unset]) rfl ?_
    show Steps p.tables e below (T9.setTop (mkF m 89 #[.val (.int p1), .val (.int p2), .val (.int p3), .val (.int p4), .val (.int (1 : Int32)), .val (.int B0), .val (.int B1), .val (.int B2), .val (.ref b5), .val (.ref b6), .val (.ref r9), .unset] [])) _
    refine XS.iload X9.here hx rfl (hb hby at_89) rfl ?_
    show Steps p.tables e below (T9.setTop (mkF m 91 #[.val (.int p1), .val (.int p2), .val (.int p3), .val (.int p4), .val (.int (1 : Int32)), .val (.int B0), .val (.int B1), .val (.int B2), .val (.ref b5), .val (.ref b6), .val (.ref r9), .unset] [(.int (1 : Int32))])) _
    refine XS.ifNo X9.here hx rfl (hb hby at_91) rfl ((if0 _ _).trans (tlt (by decide)).2.2.2) ?_
    show Steps p.tables e below (T9.setTop (mkF m 94 #[.val (.int p1), .val (.int p2), .val (.int p3), .val (.int p4), .val (.int (1 : Int32)), .val (.int B0), .val (.int B1), .val (.int B2), .val (.ref b5), .val (.ref b6), .val (.ref r9), .unset] [])) _
    refine XS.aload X9.here hx rfl (hb hby at_94) rfl rfl ?_
    show Steps p.tables e below (T9.setTop (mkF m 96 #[.val (.int p1), .val (.int p2), .val (.int p3), .val (.int p4), .val (.int (1 : Int32)), .val (.int B0), .val (.int B1), .val (.int B2), .val (.ref b5), .val (.ref b6), .val (.ref r9), .unset] [(.ref b5)])) _
    refine XS.iconst X9.here hx rfl (hb hby at_96) ?_
    show Steps p.tables e below (T9.setTop (mkF m 97 #[.val (.int p1), .val (.int p2), .val (.int p3), .val (.int p4), .val (.int (1 : Int32)), .val (.int B0), .val (.int B1), .val (.int B2), .val (.ref b5), .val (.ref b6), .val (.ref r9), .unset] [(.int (0 : Int32)), (.ref b5)])) _
    refine XS.iload X9.here hx rfl (hb hby at_97) rfl ?_
    show Steps p.tables e below (T9.setTop (mkF m 99 #[.val (.int p1), .val (.int p2), .val (.int p3), .val (.int p4), .val (.int (1 : Int32)), .val (.int B0), .val (.int B1), .val (.int B2), .val (.ref b5), .val (.ref b6), .val (.ref r9), .unset] [(.int B0), (.int (0 : Int32)), (.ref b5)])) _
    refine XS.iconst X9.here hx rfl (hb hby at_99) ?_
    show Steps p.tables e below (T9.setTop (mkF m 100 #[.val (.int p1), .val (.int p2), .val (.int p3), .val (.int p4), .val (.int (1 : Int32)), .val (.int B0), .val (.int B1), .val (.int B2), .val (.ref b5), .val (.ref b6), .val (.ref r9), .unset] [(.int (-1 : Int32)), (.int B0), (.int (0 : Int32)), (.ref b5)])) _
    refine XS.ixor X9.here hx rfl (hb hby at_100) rfl ?_
    show Steps p.tables e below (T9.setTop (mkF m 101 #[.val (.int p1), .val (.int p2), .val (.int p3), .val (.int p4), .val (.int (1 : Int32)), .val (.int B0), .val (.int B1), .val (.int B2), .val (.ref b5), .val (.ref b6), .val (.ref r9), .unset] [(.int (B0 ^^^ (-1 : Int32))), (.int (0 : Int32)), (.ref b5)])) _
    refine XS.i2b X9.here hx rfl (hb hby at_101) rfl ?_
    show Steps p.tables e below (T9.setTop (mkF m 102 #[.val (.int p1), .val (.int p2), .val (.int p3), .val (.int p4), .val (.int (1 : Int32)), .val (.int B0), .val (.int B1), .val (.int B2), .val (.ref b5), .val (.ref b6), .val (.ref r9), .unset] [(.int ((B0 ^^^ (-1 : Int32)).toInt8.toInt32)), (.int (0 : Int32)), (.ref b5)])) _
    refine st10 _ ?_
    show Steps p.tables e below (T10.setTop (mkF m 103 #[.val (.int p1), .val (.int p2), .val (.int p3), .val (.int p4), .val (.int (1 : Int32)), .val (.int B0), .val (.int B1), .val (.int B2), .val (.ref b5), .val (.ref b6), .val (.ref r9), .unset] [])) _
    refine XS.iload X10.here hx rfl (hb hby at_103) rfl ?_
    show Steps p.tables e below (T10.setTop (mkF m 105 #[.val (.int p1), .val (.int p2), .val (.int p3), .val (.int p4), .val (.int (1 : Int32)), .val (.int B0), .val (.int B1), .val (.int B2), .val (.ref b5), .val (.ref b6), .val (.ref r9), .unset] [(.int (1 : Int32))])) _
    refine XS.iconst X10.here hx rfl (hb hby at_105) ?_
    show Steps p.tables e below (T10.setTop (mkF m 106 #[.val (.int p1), .val (.int p2), .val (.int p3), .val (.int p4), .val (.int (1 : Int32)), .val (.int B0), .val (.int B1), .val (.int B2), .val (.ref b5), .val (.ref b6), .val (.ref r9), .unset] [(.int (1 : Int32)), (.int (1 : Int32))])) _
    refine XS.icmpYes X10.here hx rfl (pc0 := 106) (pc' := 118) rfl (hb hby at_106) rfl (flt (by decide)).2.2.2 (by decide) (by decide) ?_
    show Steps p.tables e below (T10.setTop (mkF m 118 #[.val (.int p1), .val (.int p2), .val (.int p3), .val (.int p4), .val (.int (1 : Int32)), .val (.int B0), .val (.int B1), .val (.int B2), .val (.ref b5), .val (.ref b6), .val (.ref r9), .unset] [])) _
    refine XS.iload X10.here hx rfl (hb hby at_118) rfl ?_
    show Steps p.tables e below (T10.setTop (mkF m 120 #[.val (.int p1), .val (.int p2), .val (.int p3), .val (.int p4), .val (.int (1 : Int32)), .val (.int B0), .val (.int B1), .val (.int B2), .val (.ref b5), .val (.ref b6), .val (.ref r9), .unset] [(.int (1 : Int32))])) _
    refine XS.iconst X10.here hx rfl (hb hby at_120) ?_
    show Steps p.tables e below (T10.setTop (mkF m 121 #[.val (.int p1), .val (.int p2), .val (.int p3), .val (.int p4), .val (.int (1 : Int32)), .val (.int B0), .val (.int B1), .val (.int B2), .val (.ref b5), .val (.ref b6), .val (.ref r9), .unset] [(.int (2 : Int32)), (.int (1 : Int32))])) _
    refine XS.icmpYes X10.here hx rfl (pc0 := 121) (pc' := 133) rfl (hb hby at_121) rfl (flt (by decide)).2.2.2 (by decide) (by decide) ?_
    show Steps p.tables e below (T10.setTop (mkF m 133 #[.val (.int p1), .val (.int p2), .val (.int p3), .val (.int p4), .val (.int (1 : Int32)), .val (.int B0), .val (.int B1), .val (.int B2), .val (.ref b5), .val (.ref b6), .val (.ref r9), .unset] [])) _
    refine XS.aload X10.here hx rfl (hb hby at_133) rfl rfl ?_
    show Steps p.tables e below (T10.setTop (mkF m 135 #[.val (.int p1), .val (.int p2), .val (.int p3), .val (.int p4), .val (.int (1 : Int32)), .val (.int B0), .val (.int B1), .val (.int B2), .val (.ref b5), .val (.ref b6), .val (.ref r9), .unset] [(.ref r9)])) _
    refine st11.trans ?_
    show Steps p.tables e below (T11.setTop (mkF m 138 #[.val (.int p1), .val (.int p2), .val (.int p3), .val (.int p4), .val (.int (1 : Int32)), .val (.int B0), .val (.int B1), .val (.int B2), .val (.ref b5), .val (.ref b6), .val (.ref r9), .unset] [(.ref o11)])) _
    refine XS.astore X11.here hx rfl (hb hby at_138) rfl rfl (l' := #[.val (.int p1), .val (.int p2), .val (.int p3), .val (.int p4), .val (.int (1 : Int32)), .val (.int B0), .val (.int B1), .val (.int B2), .val (.ref b5), .val (.ref b6), .val (.ref r9), .val (.ref o11)]) rfl ?_
    show Steps p.tables e below (T11.setTop (mkF m 140 #[.val (.int p1), .val (.int p2), .val (.int p3), .val (.int p4), .val (.int (1 : Int32)), .val (.int B0), .val (.int B1), .val (.int B2), .val (.ref b5), .val (.ref b6), .val (.ref r9), .val (.ref o11)] [])) _
    refine XS.aload X11.here hx rfl (hb hby at_140) rfl rfl ?_
    show Steps p.tables e below (T11.setTop (mkF m 142 #[.val (.int p1), .val (.int p2), .val (.int p3), .val (.int p4), .val (.int (1 : Int32)), .val (.int B0), .val (.int B1), .val (.int B2), .val (.ref b5), .val (.ref b6), .val (.ref r9), .val (.ref o11)] [(.ref o11)])) _
    refine X11.arraylength hx Ar_o.1 (State.isArrayOf_alike hZ.alike Ar_o.2.1) (g := (mkF m 142 #[.val (.int p1), .val (.int p2), .val (.int p3), .val (.int p4), .val (.int (1 : Int32)), .val (.int B0), .val (.int B1), .val (.int B2), .val (.ref b5), .val (.ref b6), .val (.ref r9), .val (.ref o11)] [(.ref o11)])) rfl rfl (hb hby at_142) _ ?_
    rw [len_of S_o N_o]
    show Steps p.tables e below (T11.setTop (mkF m 143 #[.val (.int p1), .val (.int p2), .val (.int p3), .val (.int p4), .val (.int (1 : Int32)), .val (.int B0), .val (.int B1), .val (.int B2), .val (.ref b5), .val (.ref b6), .val (.ref r9), .val (.ref o11)] [(.int (1 : Int32))])) _
    refine XS.iload X11.here hx rfl (hb hby at_143) rfl ?_
    show Steps p.tables e below (T11.setTop (mkF m 145 #[.val (.int p1), .val (.int p2), .val (.int p3), .val (.int p4), .val (.int (1 : Int32)), .val (.int B0), .val (.int B1), .val (.int B2), .val (.ref b5), .val (.ref b6), .val (.ref r9), .val (.ref o11)] [(.int (1 : Int32)), (.int (1 : Int32))])) _
    refine XS.icmpYes X11.here hx rfl (pc0 := 145) (pc' := 150) rfl (hb hby at_145) rfl (teq (by first | rfl | decide : (1 : Int32) = (1 : Int32))).1 (by decide) (by decide) ?_
    show Steps p.tables e below (T11.setTop (mkF m 150 #[.val (.int p1), .val (.int p2), .val (.int p3), .val (.int p4), .val (.int (1 : Int32)), .val (.int B0), .val (.int B1), .val (.int B2), .val (.ref b5), .val (.ref b6), .val (.ref r9), .val (.ref o11)] [])) _
    refine XS.iload X11.here hx rfl (hb hby at_150) rfl ?_
    show Steps p.tables e below (T11.setTop (mkF m 152 #[.val (.int p1), .val (.int p2), .val (.int p3), .val (.int p4), .val (.int (1 : Int32)), .val (.int B0), .val (.int B1), .val (.int B2), .val (.ref b5), .val (.ref b6), .val (.ref r9), .val (.ref o11)] [(.int (1 : Int32))])) _
    refine XS.ifNo X11.here hx rfl (hb hby at_152) rfl ((if0 _ _).trans (tlt (by decide)).2.2.2) ?_
    show Steps p.tables e below (T11.setTop (mkF m 155 #[.val (.int p1), .val (.int p2), .val (.int p3), .val (.int p4), .val (.int (1 : Int32)), .val (.int B0), .val (.int B1), .val (.int B2), .val (.ref b5), .val (.ref b6), .val (.ref r9), .val (.ref o11)] [])) _
    refine XS.aload X11.here hx rfl (hb hby at_155) rfl rfl ?_
    show Steps p.tables e below (T11.setTop (mkF m 157 #[.val (.int p1), .val (.int p2), .val (.int p3), .val (.int p4), .val (.int (1 : Int32)), .val (.int B0), .val (.int B1), .val (.int B2), .val (.ref b5), .val (.ref b6), .val (.ref r9), .val (.ref o11)] [(.ref o11)])) _
    refine XS.iconst X11.here hx rfl (hb hby at_157) ?_
    show Steps p.tables e below (T11.setTop (mkF m 158 #[.val (.int p1), .val (.int p2), .val (.int p3), .val (.int p4), .val (.int (1 : Int32)), .val (.int B0), .val (.int B1), .val (.int B2), .val (.ref b5), .val (.ref b6), .val (.ref r9), .val (.ref o11)] [(.int (0 : Int32)), (.ref o11)])) _
    refine X11.baloadBytes hx (j := (0 : Int32)) (v := (.int B0)) Ar_o.1 (State.isArrayOf_alike hZ.alike Ar_o.2.1) Ar_o.2.2 (inb_of S_o ⟨by decide, by decide⟩) (H_o.at (inb_of S_o ⟨by decide, by decide⟩) rfl) (g := (mkF m 158 #[.val (.int p1), .val (.int p2), .val (.int p3), .val (.int p4), .val (.int (1 : Int32)), .val (.int B0), .val (.int B1), .val (.int B2), .val (.ref b5), .val (.ref b6), .val (.ref r9), .val (.ref o11)] [(.int (0 : Int32)), (.ref o11)])) rfl rfl (hb hby at_158) _ ?_
    show Steps p.tables e below (T11.setTop (mkF m 159 #[.val (.int p1), .val (.int p2), .val (.int p3), .val (.int p4), .val (.int (1 : Int32)), .val (.int B0), .val (.int B1), .val (.int B2), .val (.ref b5), .val (.ref b6), .val (.ref r9), .val (.ref o11)] [(.int B0)])) _
    refine XS.iload X11.here hx rfl (hb hby at_159) rfl ?_
    show Steps p.tables e below (T11.setTop (mkF m 161 #[.val (.int p1), .val (.int p2), .val (.int p3), .val (.int p4), .val (.int (1 : Int32)), .val (.int B0), .val (.int B1), .val (.int B2), .val (.ref b5), .val (.ref b6), .val (.ref r9), .val (.ref o11)] [(.int B0), (.int B0)])) _
    refine XS.icmpYes X11.here hx rfl (pc0 := 161) (pc' := 166) rfl (hb hby at_161) rfl (teq (by first | rfl | decide)).1 (by decide) (by decide) ?_
    show Steps p.tables e below (T11.setTop (mkF m 166 #[.val (.int p1), .val (.int p2), .val (.int p3), .val (.int p4), .val (.int (1 : Int32)), .val (.int B0), .val (.int B1), .val (.int B2), .val (.ref b5), .val (.ref b6), .val (.ref r9), .val (.ref o11)] [])) _
    refine XS.iload X11.here hx rfl (hb hby at_166) rfl ?_
    show Steps p.tables e below (T11.setTop (mkF m 168 #[.val (.int p1), .val (.int p2), .val (.int p3), .val (.int p4), .val (.int (1 : Int32)), .val (.int B0), .val (.int B1), .val (.int B2), .val (.ref b5), .val (.ref b6), .val (.ref r9), .val (.ref o11)] [(.int (1 : Int32))])) _
    refine XS.iconst X11.here hx rfl (hb hby at_168) ?_
    show Steps p.tables e below (T11.setTop (mkF m 169 #[.val (.int p1), .val (.int p2), .val (.int p3), .val (.int p4), .val (.int (1 : Int32)), .val (.int B0), .val (.int B1), .val (.int B2), .val (.ref b5), .val (.ref b6), .val (.ref r9), .val (.ref o11)] [(.int (1 : Int32)), (.int (1 : Int32))])) _
    refine XS.icmpYes X11.here hx rfl (pc0 := 169) (pc' := 183) rfl (hb hby at_169) rfl (flt (by decide)).2.2.2 (by decide) (by decide) ?_
    show Steps p.tables e below (T11.setTop (mkF m 183 #[.val (.int p1), .val (.int p2), .val (.int p3), .val (.int p4), .val (.int (1 : Int32)), .val (.int B0), .val (.int B1), .val (.int B2), .val (.ref b5), .val (.ref b6), .val (.ref r9), .val (.ref o11)] [])) _
    refine XS.iload X11.here hx rfl (hb hby at_183) rfl ?_
    show Steps p.tables e below (T11.setTop (mkF m 185 #[.val (.int p1), .val (.int p2), .val (.int p3), .val (.int p4), .val (.int (1 : Int32)), .val (.int B0), .val (.int B1), .val (.int B2), .val (.ref b5), .val (.ref b6), .val (.ref r9), .val (.ref o11)] [(.int (1 : Int32))])) _
    refine XS.iconst X11.here hx rfl (hb hby at_185) ?_
    show Steps p.tables e below (T11.setTop (mkF m 186 #[.val (.int p1), .val (.int p2), .val (.int p3), .val (.int p4), .val (.int (1 : Int32)), .val (.int B0), .val (.int B1), .val (.int B2), .val (.ref b5), .val (.ref b6), .val (.ref r9), .val (.ref o11)] [(.int (2 : Int32)), (.int (1 : Int32))])) _
    refine XS.icmpYes X11.here hx rfl (pc0 := 186) (pc' := 200) rfl (hb hby at_186) rfl (flt (by decide)).2.2.2 (by decide) (by decide) ?_
    show Steps p.tables e below (T11.setTop (mkF m 200 #[.val (.int p1), .val (.int p2), .val (.int p3), .val (.int p4), .val (.int (1 : Int32)), .val (.int B0), .val (.int B1), .val (.int B2), .val (.ref b5), .val (.ref b6), .val (.ref r9), .val (.ref o11)] [])) _
    refine XS.aload X11.here hx rfl (hb hby at_200) rfl rfl ?_
    show Steps p.tables e below (T11.setTop (mkF m 202 #[.val (.int p1), .val (.int p2), .val (.int p3), .val (.int p4), .val (.int (1 : Int32)), .val (.int B0), .val (.int B1), .val (.int B2), .val (.ref b5), .val (.ref b6), .val (.ref r9), .val (.ref o11)] [(.ref r9)])) _
    refine XS.aload X11.here hx rfl (hb hby at_202) rfl rfl ?_
    show Steps p.tables e below (T11.setTop (mkF m 204 #[.val (.int p1), .val (.int p2), .val (.int p3), .val (.int p4), .val (.int (1 : Int32)), .val (.int B0), .val (.int B1), .val (.int B2), .val (.ref b5), .val (.ref b6), .val (.ref r9), .val (.ref o11)] [(.ref b6), (.ref r9)])) _
    refine st13 _ ?_
    show Steps p.tables e below (T13.setTop (mkF m 207 #[.val (.int p1), .val (.int p2), .val (.int p3), .val (.int p4), .val (.int (1 : Int32)), .val (.int B0), .val (.int B1), .val (.int B2), .val (.ref b5), .val (.ref b6), .val (.ref r9), .val (.ref o11)] [(.ref r13), (.ref r9)])) _
    refine st14.trans ?_
    show Steps p.tables e below (T14.setTop (mkF m 210 #[.val (.int p1), .val (.int p2), .val (.int p3), .val (.int p4), .val (.int (1 : Int32)), .val (.int B0), .val (.int B1), .val (.int B2), .val (.ref b5), .val (.ref b6), .val (.ref r9), .val (.ref o11)] [(.int (1 : Int32))])) _
    refine XS.ifYes X14.here hx rfl (pc0 := 210) (pc' := 215) rfl (hb hby at_210) rfl ((if0 _ _).trans (feq (by first | rfl | decide : ¬ ((1 : Int32) = (0 : Int32)))).2) (by decide) (by decide) ?_
    show Steps p.tables e below (T14.setTop (mkF m 215 #[.val (.int p1), .val (.int p2), .val (.int p3), .val (.int p4), .val (.int (1 : Int32)), .val (.int B0), .val (.int B1), .val (.int B2), .val (.ref b5), .val (.ref b6), .val (.ref r9), .val (.ref o11)] [])) _
    refine XS.iload X14.here hx rfl (hb hby at_215) rfl ?_
    show Steps p.tables e below (T14.setTop (mkF m 217 #[.val (.int p1), .val (.int p2), .val (.int p3), .val (.int p4), .val (.int (1 : Int32)), .val (.int B0), .val (.int B1), .val (.int B2), .val (.ref b5), .val (.ref b6), .val (.ref r9), .val (.ref o11)] [(.int (1 : Int32))])) _
    refine XS.ifNo X14.here hx rfl (hb hby at_217) rfl ((if0 _ _).trans (tlt (by decide)).2.2.2) ?_
    show Steps p.tables e below (T14.setTop (mkF m 220 #[.val (.int p1), .val (.int p2), .val (.int p3), .val (.int p4), .val (.int (1 : Int32)), .val (.int B0), .val (.int B1), .val (.int B2), .val (.ref b5), .val (.ref b6), .val (.ref r9), .val (.ref o11)] [])) _
    refine XS.aload X14.here hx rfl (hb hby at_220) rfl rfl ?_
    show Steps p.tables e below (T14.setTop (mkF m 222 #[.val (.int p1), .val (.int p2), .val (.int p3), .val (.int p4), .val (.int (1 : Int32)), .val (.int B0), .val (.int B1), .val (.int B2), .val (.ref b5), .val (.ref b6), .val (.ref r9), .val (.ref o11)] [(.ref r9)])) _
    refine XS.aload X14.here hx rfl (hb hby at_222) rfl rfl ?_
    show Steps p.tables e below (T14.setTop (mkF m 224 #[.val (.int p1), .val (.int p2), .val (.int p3), .val (.int p4), .val (.int (1 : Int32)), .val (.int B0), .val (.int B1), .val (.int B2), .val (.ref b5), .val (.ref b6), .val (.ref r9), .val (.ref o11)] [(.ref b5), (.ref r9)])) _
    refine st15 _ ?_
    show Steps p.tables e below (T15.setTop (mkF m 227 #[.val (.int p1), .val (.int p2), .val (.int p3), .val (.int p4), .val (.int (1 : Int32)), .val (.int B0), .val (.int B1), .val (.int B2), .val (.ref b5), .val (.ref b6), .val (.ref r9), .val (.ref o11)] [(.ref r15), (.ref r9)])) _
    refine st16.trans ?_
    show Steps p.tables e below (T16.setTop (mkF m 230 #[.val (.int p1), .val (.int p2), .val (.int p3), .val (.int p4), .val (.int (1 : Int32)), .val (.int B0), .val (.int B1), .val (.int B2), .val (.ref b5), .val (.ref b6), .val (.ref r9), .val (.ref o11)] [(.int (0 : Int32))])) _
    refine XS.ifYes X16.here hx rfl (pc0 := 230) (pc' := 235) rfl (hb hby at_230) rfl ((if0 _ _).trans (teq (by first | rfl | decide : (0 : Int32) = (0 : Int32))).1) (by decide) (by decide) ?_
    show Steps p.tables e below (T16.setTop (mkF m 235 #[.val (.int p1), .val (.int p2), .val (.int p3), .val (.int p4), .val (.int (1 : Int32)), .val (.int B0), .val (.int B1), .val (.int B2), .val (.ref b5), .val (.ref b6), .val (.ref r9), .val (.ref o11)] [])) _
    refine XS.iconst X16.here hx rfl (hb hby at_235) ?_
    show Steps p.tables e below (T16.setTop (mkF m 236 #[.val (.int p1), .val (.int p2), .val (.int p3), .val (.int p4), .val (.int (1 : Int32)), .val (.int B0), .val (.int B1), .val (.int B2), .val (.ref b5), .val (.ref b6), .val (.ref r9), .val (.ref o11)] [(.int (1 : Int32))])) _
    exact retN X16 hx (t := .boolean) Bd.returns (by simp) (hb hby at_236) hr
  · show Q0 n0 _ _
    exact ⟨rfl, N16⟩
set_option maxRecDepth 65536 in
set_option maxHeartbeats 40000000 in
theorem rm0_2 (l : Launch) (Z : State) (a0 : Array Value) (hw : ∀ d ∈ tables_1, d.before a0 Z = true) (ws : List Jvm.Cond) (p1 : Int32) (p2 : Int32) (p3 : Int32) (p4 : Int32) (h0 : Heap) (n0 : Nat) (Z0 : n0 ≤ h0.size) (hn : (p1 &&& (3 : Int32)) = (2 : Int32)) :
    MetFree l x (head1 (Jvm.Cond.code x code maxLocals ret :: ws) room_1) (fun a U => a = #[(.int p1), (.int p2), (.int p3), (.int p4)] ∧ Z.Warmed39 U.vm ∧ U.heap = h0) (fun _ _ _ _ _ => True) (fun _ U o U' => ∃ v L, o = .returned v ∧ Q0 n0 v L ∧ FrameEnd U o U' L room_1.cells room_1.slots) := by
  refine MetFree.of_bodySF (plainFor_of_name pn_0) hisR ?_
  intro p e s m args below meth c s₁ Bd hml0 hP hK
  obtain ⟨rfl, hZ, hh⟩ := hP
  have hx := Bd.exec
  have hby := Bd.bytes
  have hml : c.maxLocals = 12 := hml0
  have hown : s.vm.findClass "com/example/mirrorlog/mirrorlog/core/undo/BytesOfPinLaw" = some m.cls := findClass_of_methodNamed Bd.named
  have hnm := (name_of_methodNamed Bd.named Bd.method).1
  have X0 : Stand p l e room_1 s m #[(.int p1), (.int p2), (.int p3), (.int p4)] below meth c s₁ [] 0 0 := Stand.of_body Bd
  have e0 : s₁.heap = h0 := by rw [← hh, Bd.state]; rfl
  have N0 := Fr.nil n0
  obtain ⟨B0, eB0⟩ : ∃ z, z = (p2.toInt8.toInt32) := ⟨_, rfl⟩
  obtain ⟨B1, eB1⟩ : ∃ z, z = (p3.toInt8.toInt32) := ⟨_, rfl⟩
  obtain ⟨B2, eB2⟩ : ∃ z, z = (p4.toInt8.toInt32) := ⟨_, rfl⟩
  have pre0 : ∀ t, Steps p.tables e below (s₁.setTop (mkF m 17 #[.val (.int p1), .val (.int p2), .val (.int p3), .val (.int p4), .val (.int (2 : Int32)), .val (.int B0), .val (.int B1), .val (.int B2), .unset, .unset, .unset, .unset] [])) t → Steps p.tables e below (s₁.setTop (entryFrame m #[(.int p1), (.int p2), (.int p3), (.int p4)] maxLocals)) t := fun t kt => castTop (ef_0 m p1 p2 p3 p4) (pc_A p1 p2 p3 p4 X0 hx hby t (by rw [hn, ← eB0, ← eB1, ← eB2]; exact kt))
  have hB0 : nar .byte B0 = B0 := by rw [eB0]; exact own_by _
  have hC0 : nar .byte ((B0 ^^^ (-1 : Int32)).toInt8.toInt32) = ((B0 ^^^ (-1 : Int32)).toInt8.toInt32) := own_by _
  have hB1 : nar .byte B1 = B1 := by rw [eB1]; exact own_by _
  have hC1 : nar .byte ((B1 ^^^ (-1 : Int32)).toInt8.toInt32) = ((B1 ^^^ (-1 : Int32)).toInt8.toInt32) := own_by _
  have hB2 : nar .byte B2 = B2 := by rw [eB2]; exact own_by _
  have hC2 : nar .byte ((B2 ^^^ (-1 : Int32)).toInt8.toInt32) = ((B2 ^^^ (-1 : Int32)).toInt8.toInt32) := own_by _
  obtain ⟨T5, h5, k5, X5, e5, E5, A5, Y5, st5⟩ := newPE X0 hx hZ (hw _ (List.mem_of_getElem? (i := 0) rfl)) e0 (g := (mkF m 19 #[.val (.int p1), .val (.int p2), .val (.int p3), .val (.int p4), .val (.int (2 : Int32)), .val (.int B0), .val (.int B1), .val (.int B2), .unset, .unset, .unset, .unset] [(.int (2 : Int32))])) rfl (hb hby at_19) rfl (by decide) (cap := 2) (by decide) (by decide) (by decide) (by decide) (ad := "[B") (by decide)
  obtain ⟨b5, g5⟩ : ∃ z, z = h0.size := ⟨_, rfl⟩
  rw [← g5] at A5 Y5 st5
  have V_b5 : Arv Z h5 b5 k5 .byte (2 : Int32) [(.int (0 : Int32)), (.int (0 : Int32))] (.int (0 : Int32)) := (Arv.new A5 (by decide)).pad (pad_rep [] (.int (0 : Int32)) 2)
  have g_b5 : n0 ≤ b5 := Nat.le_trans Z0 (Nat.le_of_eq g5.symm)
  have sz_b5 : h0.size ≤ b5 := (Nat.le_trans (Keep.refl h0 []).1 (Nat.le_of_eq g5.symm))
  have K5 : Keep h0 h5 [] := (Keep.refl h0 []).ext E5
  obtain ⟨T6, h6, k6, X6, e6, E6, A6, Y6, st6⟩ := newPE X5 hx hZ (hw _ (List.mem_of_getElem? (i := 0) rfl)) e5 (g := (mkF m 25 #[.val (.int p1), .val (.int p2), .val (.int p3), .val (.int p4), .val (.int (2 : Int32)), .val (.int B0), .val (.int B1), .val (.int B2), .val (.ref b5), .unset, .unset, .unset] [(.int (2 : Int32))])) rfl (hb hby at_25) rfl (by decide) (cap := 2) (by decide) (by decide) (by decide) (by decide) (ad := "[B") (by decide)
  obtain ⟨b6, g6⟩ : ∃ z, z = h5.size := ⟨_, rfl⟩
  rw [← g6] at A6 Y6 st6
  have V_b6 : Arv Z h6 b6 k6 .byte (2 : Int32) [(.int (0 : Int32)), (.int (0 : Int32))] (.int (0 : Int32)) := (Arv.new A6 (by decide)).pad (pad_rep [] (.int (0 : Int32)) 2)
  have g_b6 : n0 ≤ b6 := Nat.le_trans (Nat.le_trans Z0 E5.1) (Nat.le_of_eq g6.symm)
  have sz_b6 : h0.size ≤ b6 := (Nat.le_trans K5.1 (Nat.le_of_eq g6.symm))
  have l_ac : b5 < b6 := by rw [g6]; exact V_b5.lt
  have K6 : Keep h0 h6 [] := K5.ext E6
  obtain ⟨cl_b5_39, Ar_b5, q_b5, S_b5, N_b5, H_b5, G_b5⟩ := (V_b5.ext E6)
  have hin39 : ¬ ((0 : Int32) < 0 ∨ cl_b5_39.slots.size ≤ ((0 : Int32)).toNatClampNeg) := inb_of S_b5 ⟨by decide, by decide⟩
  obtain ⟨T7, h7, X7, e7, W7, st7⟩ := stB X6 hx hZ e6 Ar_b5 (j := (0 : Int32)) hin39 (g := (mkF m 39 #[.val (.int p1), .val (.int p2), .val (.int p3), .val (.int p4), .val (.int (2 : Int32)), .val (.int B0), .val (.int B1), .val (.int B2), .val (.ref b5), .val (.ref b6), .unset, .unset] [(.int B0), (.int (0 : Int32)), (.ref b5)])) rfl rfl (hb hby at_39)
  have V_b5_7 := Arv.set Ar_b5 q_b5 S_b5 N_b5 H_b5 G_b5 (fits_nar_byte _) W7 0 rfl (Nat.le_of_ble_eq_true rfl)
  replace V_b5_7 : Arv Z h7 b5 k5 .byte (2 : Int32) [(.int (nar .byte B0)), (.int (0 : Int32))] (.int (0 : Int32)) := V_b5_7
  rw [hB0] at V_b5_7
  have K7 : Keep h0 h7 [] := K6.wr W7 (Or.inr sz_b5)
  have N7 := Fr.snoc X7 N0 g_b5
  obtain ⟨cl_b6_45, Ar_b6, q_b6, S_b6, N_b6, H_b6, G_b6⟩ := (V_b6.other W7 (by omega : b6 ≠ b5))
  have hin45 : ¬ ((0 : Int32) < 0 ∨ cl_b6_45.slots.size ≤ ((0 : Int32)).toNatClampNeg) := inb_of S_b6 ⟨by decide, by decide⟩
  obtain ⟨T8, h8, X8, e8, W8, st8⟩ := stB X7 hx hZ e7 Ar_b6 (j := (0 : Int32)) hin45 (g := (mkF m 45 #[.val (.int p1), .val (.int p2), .val (.int p3), .val (.int p4), .val (.int (2 : Int32)), .val (.int B0), .val (.int B1), .val (.int B2), .val (.ref b5), .val (.ref b6), .unset, .unset] [(.int B0), (.int (0 : Int32)), (.ref b6)])) rfl rfl (hb hby at_45)
  have V_b6_8 := Arv.set Ar_b6 q_b6 S_b6 N_b6 H_b6 G_b6 (fits_nar_byte _) W8 0 rfl (Nat.le_of_ble_eq_true rfl)
  replace V_b6_8 : Arv Z h8 b6 k6 .byte (2 : Int32) [(.int (nar .byte B0)), (.int (0 : Int32))] (.int (0 : Int32)) := V_b6_8
  rw [hB0] at V_b6_8
  have K8 : Keep h0 h8 [] := K7.wr W8 (Or.inr sz_b6)
  have N8 := Fr.snoc X8 N7 g_b6
  obtain ⟨cl_b5_57, Ar_b5, q_b5, S_b5, N_b5, H_b5, G_b5⟩ := (V_b5_7.other W8 (by omega : b5 ≠ b6))
  have hin57 : ¬ ((1 : Int32) < 0 ∨ cl_b5_57.slots.size ≤ ((1 : Int32)).toNatClampNeg) := inb_of S_b5 ⟨by decide, by decide⟩
  obtain ⟨T9, h9, X9, e9, W9, st9⟩ := stB X8 hx hZ e8 Ar_b5 (j := (1 : Int32)) hin57 (g := (mkF m 57 #[.val (.int p1), .val (.int p2), .val (.int p3), .val (.int p4), .val (.int (2 : Int32)), .val (.int B0), .val (.int B1), .val (.int B2), .val (.ref b5), .val (.ref b6), .unset, .unset] [(.int B1), (.int (1 : Int32)), (.ref b5)])) rfl rfl (hb hby at_57)
  have V_b5_9 := Arv.set Ar_b5 q_b5 S_b5 N_b5 H_b5 G_b5 (fits_nar_byte _) W9 1 rfl (Nat.le_of_ble_eq_true rfl)
  replace V_b5_9 : Arv Z h9 b5 k5 .byte (2 : Int32) [(.int B0), (.int (nar .byte B1))] (.int (0 : Int32)) := V_b5_9
  rw [hB1] at V_b5_9
  have K9 : Keep h0 h9 [] := K8.wr W9 (Or.inr sz_b5)
  have N9 := Fr.snoc X9 N8 g_b5
  obtain ⟨cl_b6_63, Ar_b6, q_b6, S_b6, N_b6, H_b6, G_b6⟩ := (V_b6_8.other W9 (by omega : b6 ≠ b5))
  have hin63 : ¬ ((1 : Int32) < 0 ∨ cl_b6_63.slots.size ≤ ((1 : Int32)).toNatClampNeg) := inb_of S_b6 ⟨by decide, by decide⟩
  obtain ⟨T10, h10, X10, e10, W10, st10⟩ := stB X9 hx hZ e9 Ar_b6 (j := (1 : Int32)) hin63 (g := (mkF m 63 #[.val (.int p1), .val (.int p2), .val (.int p3), .val (.int p4), .val (.int (2 : Int32)), .val (.int B0), .val (.int B1), .val (.int B2), .val (.ref b5), .val (.ref b6), .unset, .unset] [(.int B1), (.int (1 : Int32)), (.ref b6)])) rfl rfl (hb hby at_63)
  have V_b6_10 := Arv.set Ar_b6 q_b6 S_b6 N_b6 H_b6 G_b6 (fits_nar_byte _) W10 1 rfl (Nat.le_of_ble_eq_true rfl)
  replace V_b6_10 : Arv Z h10 b6 k6 .byte (2 : Int32) [(.int B0), (.int (nar .byte B1))] (.int (0 : Int32)) := V_b6_10
  rw [hB1] at V_b6_10
  have K10 : Keep h0 h10 [] := K9.wr W10 (Or.inr sz_b6)
  have N10 := Fr.snoc X10 N9 g_b6
  have Zc11 : n0 ≤ h10.size := Nat.le_trans Z0 K10.1
  obtain ⟨_, _, ⟨T11, L11, k11, n11⟩, -, X11, ⟨Lc11, hQ11, l11, y11, z11⟩, st11⟩ := Jvm.LawKit.callS X10 hx (y := (⟨"com/example/mirrorlog/mirrorlog/core/undo/Bytes", "of", "([B)Lcom/example/mirrorlog/mirrorlog/core/undo/Bytes;"⟩ : MethodName)) hown (mvT hZ (hw _ (List.mem_of_getElem? (i := 1) rfl))) (mvT hZ (hw _ (List.mem_of_getElem? (i := 2) rfl))) (mvT hZ (hw _ (List.mem_of_getElem? (i := 3) rfl))) (mvT hZ (hw _ (List.mem_of_getElem? (i := 4) rfl))) (by decide) (backOf (W := 0) (rm1 l Z a0 hw [] b5 h10 n0 Zc11 (((((Y5.ext E6).wr W7).wr W8).wr W9).wr W10) k5 (2 : Int32) [(.int B0), (.int B1)] (V_b5_9.other W10 (by omega : b5 ≠ b6)) (by decide)) hZ (hw _ (List.mem_of_getElem? (i := 4) rfl)) (hw _ (List.mem_of_getElem? (i := 3) rfl)) (by decide) (by decide)) (g := (mkF m 84 #[.val (.int p1), .val (.int p2), .val (.int p3), .val (.int p4), .val (.int (2 : Int32)), .val (.int B0), .val (.int B1), .val (.int B2), .val (.ref b5), .val (.ref b6), .unset, .unset] [(.ref b5)])) rfl (by rw [hml]; rfl) (argsL := [(.ref b5)]) (rest := []) (lenOf pd_0_0 rfl) rfl (by show 2 * 0 + _ ≤ _; exact Nat.le_of_eq rfl) (hb hby at_84) (fun _ _ => ⟨rfl, e10, (by decide : 2 + 2 ≤ _), (by decide : 4 + 4 ≤ _)⟩)
  dsimp only [Pt.U, Pt.locs, Pt.cells, Pt.slots] at X11 l11 y11 z11 st11 hQ11
  subst l11 y11 z11
  obtain ⟨⟨r11, c11, rfl, lr11, lc11, Y_r11, F_r11, V_c11, Y_c11⟩, N11q, Kc11⟩ := hQ11
  have la11 : b5 < h10.size := ((V_b5_9.other W10 (by omega : b5 ≠ b6))).lt
  have KT11 : Keep h0 T11.heap [] := K10.trans Kc11 (fun x hx => nomatch hx)
  have N11 := Fr.app N10 N11q
  obtain ⟨cl_b5_102, Ar_b5, q_b5, S_b5, N_b5, H_b5, G_b5⟩ := ((V_b5_9.other W10 (by omega : b5 ≠ b6)).keep Kc11 (fun q => nomatch q))
  have hin102 : ¬ ((0 : Int32) < 0 ∨ cl_b5_102.slots.size ≤ ((0 : Int32)).toNatClampNeg) := inb_of S_b5 ⟨by decide, by decide⟩
  obtain ⟨T12, h12, X12, e12, W12, st12⟩ := stB X11 hx hZ rfl Ar_b5 (j := (0 : Int32)) hin102 (g := (mkF m 102 #[.val (.int p1), .val (.int p2), .val (.int p3), .val (.int p4), .val (.int (2 : Int32)), .val (.int B0), .val (.int B1), .val (.int B2), .val (.ref b5), .val (.ref b6), .val (.ref r11), .unset] [(.int ((B0 ^^^ (-1 : Int32)).toInt8.toInt32)), (.int (0 : Int32)), (.ref b5)])) rfl rfl (hb hby at_102)
  have V_b5_12 := Arv.set Ar_b5 q_b5 S_b5 N_b5 H_b5 G_b5 (fits_nar_byte _) W12 0 rfl (Nat.le_of_ble_eq_true rfl)
  replace V_b5_12 : Arv Z h12 b5 k5 .byte (2 : Int32) [(.int (nar .byte ((B0 ^^^ (-1 : Int32)).toInt8.toInt32))), (.int B1)] (.int (0 : Int32)) := V_b5_12
  rw [hC0] at V_b5_12
  have K12 : Keep h0 h12 [] := KT11.wr W12 (Or.inr sz_b5)
  have N12 := Fr.snoc X12 N11 g_b5
  obtain ⟨cl_b5_117, Ar_b5, q_b5, S_b5, N_b5, H_b5, G_b5⟩ := V_b5_12
  have hin117 : ¬ ((1 : Int32) < 0 ∨ cl_b5_117.slots.size ≤ ((1 : Int32)).toNatClampNeg) := inb_of S_b5 ⟨by decide, by decide⟩
  obtain ⟨T13, h13, X13, e13, W13, st13⟩ := stB X12 hx hZ e12 Ar_b5 (j := (1 : Int32)) hin117 (g := (mkF m 117 #[.val (.int p1), .val (.int p2), .val (.int p3), .val (.int p4), .val (.int (2 : Int32)), .val (.int B0), .val (.int B1), .val (.int B2), .val (.ref b5), .val (.ref b6), .val (.ref r11), .unset] [(.int ((B1 ^^^ (-1 : Int32)).toInt8.toInt32)), (.int (1 : Int32)), (.ref b5)])) rfl rfl (hb hby at_117)
  have V_b5_13 := Arv.set Ar_b5 q_b5 S_b5 N_b5 H_b5 G_b5 (fits_nar_byte _) W13 1 rfl (Nat.le_of_ble_eq_true rfl)
  replace V_b5_13 : Arv Z h13 b5 k5 .byte (2 : Int32) [(.int ((B0 ^^^ (-1 : Int32)).toInt8.toInt32)), (.int (nar .byte ((B1 ^^^ (-1 : Int32)).toInt8.toInt32)))] (.int (0 : Int32)) := V_b5_13
  rw [hC1] at V_b5_13
  have K13 : Keep h0 h13 [] := K12.wr W13 (Or.inr sz_b5)
  have N13 := Fr.snoc X13 N12 g_b5
  obtain ⟨cq14, kq14, q14a, q14b, q14c⟩ := isOf hZ e13 ((Y_r11.wr W12).wr W13)
  have Zc14 : n0 ≤ h13.size := Nat.le_trans Z0 K13.1
  obtain ⟨_, _, ⟨T14, L14, k14, n14⟩, -, X14, ⟨Lc14, hQ14, l14, y14, z14⟩, st14⟩ := X13.virtualBack hx (y := (⟨"com/example/mirrorlog/mirrorlog/core/undo/Bytes", "toArray", "()[B"⟩ : MethodName)) (z := (⟨"com/example/mirrorlog/mirrorlog/core/undo/Bytes", "toArray", "()[B"⟩ : MethodName)) hown (mvT hZ (hw _ (List.mem_of_getElem? (i := 24) rfl))) (mvT hZ (hw _ (List.mem_of_getElem? (i := 25) rfl))) (notFace_of_selects (args := #[]) (mvT hZ (hw _ (List.mem_of_getElem? (i := 27) rfl)))) (mvT hZ (hw _ (List.mem_of_getElem? (i := 27) rfl))) (mvT hZ (hw _ (List.mem_of_getElem? (i := 26) rfl))) (by decide) (backOf (W := 0) (rm4 l Z a0 hw [] r11 c11 h13 n0 Zc14 ((F_r11.other W12 (Or.inl (by omega : r11 ≠ b5))).other W13 (Or.inl (by omega : r11 ≠ b5))) ((Y_c11.wr W12).wr W13) k5 (2 : Int32) [(.int B0), (.int B1)] ((V_c11.other W12 (by omega : c11 ≠ b5)).other W13 (by omega : c11 ≠ b5)) (by decide)) hZ (hw _ (List.mem_of_getElem? (i := 28) rfl)) (hw _ (List.mem_of_getElem? (i := 3) rfl)) (by decide) (by decide)) q14a q14c (g := (mkF m 135 #[.val (.int p1), .val (.int p2), .val (.int p3), .val (.int p4), .val (.int (2 : Int32)), .val (.int B0), .val (.int B1), .val (.int B2), .val (.ref b5), .val (.ref b6), .val (.ref r11), .unset] [(.ref r11)])) rfl (by rw [hml]; rfl) (Steps.refl _) (argsL := []) (rest := []) (lenOf pd_0_4 rfl) rfl (by show 2 * 0 + _ ≤ _; exact Nat.le_of_eq rfl) (hb hby at_135) (fun _ _ => ⟨rfl, e13, (by decide : 4 + 1 ≤ _), (by decide : 8 + 3 ≤ _)⟩)
  dsimp only [Pt.U, Pt.locs, Pt.cells, Pt.slots] at X14 l14 y14 z14 st14 hQ14
  subst l14 y14 z14
  obtain ⟨⟨o14, rfl, V_o14⟩, N14q, Kc14⟩ := hQ14
  obtain ⟨cl_o, Ar_o, -, S_o, N_o, H_o, -⟩ := V_o14
  have KT14 : Keep h0 T14.heap [] := K13.trans Kc14 (fun x hx => nomatch hx)
  have N14 := Fr.app N13 N14q
  have Zc17 : n0 ≤ T14.heap.size := Nat.le_trans Z0 KT14.1
  obtain ⟨_, _, ⟨T17, L17, k17, n17⟩, -, X17, ⟨Lc17, hQ17, l17, y17, z17⟩, st17⟩ := Jvm.LawKit.callS X14 hx (y := (⟨"com/example/mirrorlog/mirrorlog/core/undo/Bytes", "of", "([B)Lcom/example/mirrorlog/mirrorlog/core/undo/Bytes;"⟩ : MethodName)) hown (mvT hZ (hw _ (List.mem_of_getElem? (i := 1) rfl))) (mvT hZ (hw _ (List.mem_of_getElem? (i := 2) rfl))) (mvT hZ (hw _ (List.mem_of_getElem? (i := 3) rfl))) (mvT hZ (hw _ (List.mem_of_getElem? (i := 4) rfl))) (by decide) (backOf (W := 1) (rm1 l Z a0 hw [] b6 T14.heap n0 Zc17 ((((((((Y6.wr W7).wr W8).wr W9).wr W10).keep Kc11).wr W12).wr W13).keep Kc14) k6 (2 : Int32) [(.int B0), (.int B1)] ((((V_b6_10.keep Kc11 (fun q => nomatch q)).other W12 (by omega : b6 ≠ b5)).other W13 (by omega : b6 ≠ b5)).keep Kc14 (fun q => nomatch q)) (by decide)) hZ (hw _ (List.mem_of_getElem? (i := 4) rfl)) (hw _ (List.mem_of_getElem? (i := 3) rfl)) (by decide) (by decide)) (g := (mkF m 204 #[.val (.int p1), .val (.int p2), .val (.int p3), .val (.int p4), .val (.int (2 : Int32)), .val (.int B0), .val (.int B1), .val (.int B2), .val (.ref b5), .val (.ref b6), .val (.ref r11), .val (.ref o14)] [(.ref b6), (.ref r11)])) rfl (by rw [hml]; rfl) (argsL := [(.ref b6)]) (rest := [(.ref r11)]) (lenOf pd_0_0 rfl) rfl (by show 2 * 0 + _ ≤ _; exact Nat.le_of_eq rfl) (hb hby at_204) (fun _ _ => ⟨rfl, rfl, (by decide : 5 + 2 ≤ _), (by decide : 11 + 4 ≤ _)⟩)
  dsimp only [Pt.U, Pt.locs, Pt.cells, Pt.slots] at X17 l17 y17 z17 st17 hQ17
  subst l17 y17 z17
  obtain ⟨⟨r17, c17, rfl, lr17, lc17, Y_r17, F_r17, V_c17, Y_c17⟩, N17q, Kc17⟩ := hQ17
  have lv17 : c11 < T14.heap.size := ((((V_c11.other W12 (by omega : c11 ≠ b5)).other W13 (by omega : c11 ≠ b5)).keep Kc14 (fun q => nomatch q))).lt
  have KT17 : Keep h0 T17.heap [] := KT14.trans Kc17 (fun x hx => nomatch hx)
  have N17 := Fr.app N14 N17q
  obtain ⟨cq18, kq18, q18a, q18b, q18c⟩ := isOf hZ rfl ((((Y_r11.wr W12).wr W13).keep Kc14).keep Kc17)
  have Zc18 : n0 ≤ T17.heap.size := Nat.le_trans Z0 KT17.1
  obtain ⟨_, _, ⟨T18, L18, k18, n18⟩, -, X18, ⟨Lc18, hQ18, l18, y18, z18⟩, st18⟩ := X17.virtualBack hx (y := (⟨"com/example/mirrorlog/mirrorlog/core/undo/Bytes", "equals", "(Ljava/lang/Object;)Z"⟩ : MethodName)) (z := (⟨"com/example/mirrorlog/mirrorlog/core/undo/Bytes", "equals", "(Ljava/lang/Object;)Z"⟩ : MethodName)) hown (mvT hZ (hw _ (List.mem_of_getElem? (i := 29) rfl))) (mvT hZ (hw _ (List.mem_of_getElem? (i := 30) rfl))) (notFace_of_selects (args := #[]) (mvT hZ (hw _ (List.mem_of_getElem? (i := 32) rfl)))) (mvT hZ (hw _ (List.mem_of_getElem? (i := 32) rfl))) (mvT hZ (hw _ (List.mem_of_getElem? (i := 31) rfl))) (by decide) (backOf (W := 0) (rm5e l Z a0 hw [] r11 r17 c11 c17 k5 k6 (2 : Int32) [(.int B0), (.int B1)] T17.heap n0 Zc18 (Ins.self Y_r17) ((((F_r11.other W12 (Or.inl (by omega : r11 ≠ b5))).other W13 (Or.inl (by omega : r11 ≠ b5))).keep Kc14 (fun q => nomatch q)).keep Kc17 (fun q => nomatch q)) F_r17 (Or.inr (Or.inr (Or.inl ⟨_, _, rfl, rfl⟩))) ((((V_c11.other W12 (by omega : c11 ≠ b5)).other W13 (by omega : c11 ≠ b5)).keep Kc14 (fun q => nomatch q)).keep Kc17 (fun q => nomatch q)) V_c17 (by omega : ¬ (c11 = c17))) hZ (hw _ (List.mem_of_getElem? (i := 33) rfl)) (hw _ (List.mem_of_getElem? (i := 3) rfl)) (by decide) (by decide)) q18a q18c (g := (mkF m 207 #[.val (.int p1), .val (.int p2), .val (.int p3), .val (.int p4), .val (.int (2 : Int32)), .val (.int B0), .val (.int B1), .val (.int B2), .val (.ref b5), .val (.ref b6), .val (.ref r11), .val (.ref o14)] [(.ref r17), (.ref r11)])) rfl (by rw [hml]; rfl) (Steps.refl _) (argsL := [(.ref r17)]) (rest := []) (lenOf pd_0_5 rfl) rfl (by show 2 * 0 + _ ≤ _; exact Nat.le_of_eq rfl) (hb hby at_207) (fun _ _ => ⟨rfl, rfl, (by decide : 7 + 0 ≤ _), (by decide : 15 + 0 ≤ _)⟩)
  dsimp only [Pt.U, Pt.locs, Pt.cells, Pt.slots] at X18 l18 y18 z18 st18 hQ18
  subst l18 y18 z18
  obtain ⟨rfl, N18q, eq18⟩ := hQ18
  have Kc18 : Keep T17.heap T18.heap [] := by rw [eq18]; exact Keep.refl _ []
  have KT18 : Keep h0 T18.heap [] := KT17.trans Kc18 (fun x hx => nomatch hx)
  have N18 := Fr.app N17 N18q
  have Zc19 : n0 ≤ T18.heap.size := Nat.le_trans Z0 KT18.1
  obtain ⟨_, _, ⟨T19, L19, k19, n19⟩, -, X19, ⟨Lc19, hQ19, l19, y19, z19⟩, st19⟩ := Jvm.LawKit.callS X18 hx (y := (⟨"com/example/mirrorlog/mirrorlog/core/undo/Bytes", "of", "([B)Lcom/example/mirrorlog/mirrorlog/core/undo/Bytes;"⟩ : MethodName)) hown (mvT hZ (hw _ (List.mem_of_getElem? (i := 1) rfl))) (mvT hZ (hw _ (List.mem_of_getElem? (i := 2) rfl))) (mvT hZ (hw _ (List.mem_of_getElem? (i := 3) rfl))) (mvT hZ (hw _ (List.mem_of_getElem? (i := 4) rfl))) (by decide) (backOf (W := 1) (rm1 l Z a0 hw [] b5 T18.heap n0 Zc19 (((((((((((Y5.ext E6).wr W7).wr W8).wr W9).wr W10).keep Kc11).wr W12).wr W13).keep Kc14).keep Kc17).keep Kc18) k5 (2 : Int32) [(.int ((B0 ^^^ (-1 : Int32)).toInt8.toInt32)), (.int ((B1 ^^^ (-1 : Int32)).toInt8.toInt32))] (((V_b5_13.keep Kc14 (fun q => nomatch q)).keep Kc17 (fun q => nomatch q)).keep Kc18 (fun q => nomatch q)) (by decide)) hZ (hw _ (List.mem_of_getElem? (i := 4) rfl)) (hw _ (List.mem_of_getElem? (i := 3) rfl)) (by decide) (by decide)) (g := (mkF m 224 #[.val (.int p1), .val (.int p2), .val (.int p3), .val (.int p4), .val (.int (2 : Int32)), .val (.int B0), .val (.int B1), .val (.int B2), .val (.ref b5), .val (.ref b6), .val (.ref r11), .val (.ref o14)] [(.ref b5), (.ref r11)])) rfl (by rw [hml]; rfl) (argsL := [(.ref b5)]) (rest := [(.ref r11)]) (lenOf pd_0_0 rfl) rfl (by show 2 * 0 + _ ≤ _; exact Nat.le_of_eq rfl) (hb hby at_224) (fun _ _ => ⟨rfl, rfl, (by decide : 7 + 2 ≤ _), (by decide : 15 + 4 ≤ _)⟩)
  dsimp only [Pt.U, Pt.locs, Pt.cells, Pt.slots] at X19 l19 y19 z19 st19 hQ19
  subst l19 y19 z19
  obtain ⟨⟨r19, c19, rfl, lr19, lc19, Y_r19, F_r19, V_c19, Y_c19⟩, N19q, Kc19⟩ := hQ19
  have lv19 : c11 < T18.heap.size := ((((((V_c11.other W12 (by omega : c11 ≠ b5)).other W13 (by omega : c11 ≠ b5)).keep Kc14 (fun q => nomatch q)).keep Kc17 (fun q => nomatch q)).keep Kc18 (fun q => nomatch q))).lt
  have KT19 : Keep h0 T19.heap [] := KT18.trans Kc19 (fun x hx => nomatch hx)
  have N19 := Fr.app N18 N19q
  obtain ⟨cq20, kq20, q20a, q20b, q20c⟩ := isOf hZ rfl ((((((Y_r11.wr W12).wr W13).keep Kc14).keep Kc17).keep Kc18).keep Kc19)
  have Zc20 : n0 ≤ T19.heap.size := Nat.le_trans Z0 KT19.1
  obtain ⟨_, _, ⟨T20, L20, k20, n20⟩, -, X20, ⟨Lc20, hQ20, l20, y20, z20⟩, st20⟩ := X19.virtualBack hx (y := (⟨"com/example/mirrorlog/mirrorlog/core/undo/Bytes", "equals", "(Ljava/lang/Object;)Z"⟩ : MethodName)) (z := (⟨"com/example/mirrorlog/mirrorlog/core/undo/Bytes", "equals", "(Ljava/lang/Object;)Z"⟩ : MethodName)) hown (mvT hZ (hw _ (List.mem_of_getElem? (i := 29) rfl))) (mvT hZ (hw _ (List.mem_of_getElem? (i := 30) rfl))) (notFace_of_selects (args := #[]) (mvT hZ (hw _ (List.mem_of_getElem? (i := 32) rfl)))) (mvT hZ (hw _ (List.mem_of_getElem? (i := 32) rfl))) (mvT hZ (hw _ (List.mem_of_getElem? (i := 31) rfl))) (by decide) (backOf (W := 0) (rm5n l Z a0 hw [] r11 r19 c11 c19 k5 k5 (2 : Int32) B0 ((B0 ^^^ (-1 : Int32)).toInt8.toInt32) [(.int B1)] [(.int ((B1 ^^^ (-1 : Int32)).toInt8.toInt32))] T19.heap n0 Zc20 (Ins.self Y_r19) ((((((F_r11.other W12 (Or.inl (by omega : r11 ≠ b5))).other W13 (Or.inl (by omega : r11 ≠ b5))).keep Kc14 (fun q => nomatch q)).keep Kc17 (fun q => nomatch q)).keep Kc18 (fun q => nomatch q)).keep Kc19 (fun q => nomatch q)) F_r19 (by decide) (by decide) (own_comp B0 hB0) ((((((V_c11.other W12 (by omega : c11 ≠ b5)).other W13 (by omega : c11 ≠ b5)).keep Kc14 (fun q => nomatch q)).keep Kc17 (fun q => nomatch q)).keep Kc18 (fun q => nomatch q)).keep Kc19 (fun q => nomatch q)) V_c19 (by omega : ¬ (c11 = c19))) hZ (hw _ (List.mem_of_getElem? (i := 33) rfl)) (hw _ (List.mem_of_getElem? (i := 3) rfl)) (by decide) (by decide)) q20a q20c (g := (mkF m 227 #[.val (.int p1), .val (.int p2), .val (.int p3), .val (.int p4), .val (.int (2 : Int32)), .val (.int B0), .val (.int B1), .val (.int B2), .val (.ref b5), .val (.ref b6), .val (.ref r11), .val (.ref o14)] [(.ref r19), (.ref r11)])) rfl (by rw [hml]; rfl) (Steps.refl _) (argsL := [(.ref r19)]) (rest := []) (lenOf pd_0_5 rfl) rfl (by show 2 * 0 + _ ≤ _; exact Nat.le_of_eq rfl) (hb hby at_227) (fun _ _ => ⟨rfl, rfl, (by decide : 9 + 0 ≤ _), (by decide : 19 + 0 ≤ _)⟩)
  dsimp only [Pt.U, Pt.locs, Pt.cells, Pt.slots] at X20 l20 y20 z20 st20 hQ20
  subst l20 y20 z20
  obtain ⟨rfl, N20q, eq20⟩ := hQ20
  have Kc20 : Keep T19.heap T20.heap [] := by rw [eq20]; exact Keep.refl _ []
  have KT20 : Keep h0 T20.heap [] := KT19.trans Kc20 (fun x hx => nomatch hx)
  have N20 := Fr.app N19 N20q
  obtain ⟨fs, hr, hrun, hended, hW, hsame⟩ := X20.leave (v := some (.int (1 : Int32))) (fun h => by rw [Bd.returns] at h; cases h)
  refine ⟨_, _, pre0 _ ?_, hrun, hended, _, _, rfl, ?_, ⟨_, rfl⟩, hW, hsame.mono (by decide) (by decide)⟩
  · show Steps p.tables e below (s₁.setTop (mkF m 17 #[.val (.int p1), .val (.int p2), .val (.int p3), .val (.int p4), .val (.int (2 : Int32)), .val (.int B0), .val (.int B1), .val (.int B2), .unset, .unset, .unset, .unset] [])) _
    refine XS.iload X0.here hx rfl (hb hby at_17) rfl ?_
    show Steps p.tables e below (s₁.setTop (mkF m 19 #[.val (.int p1), .val (.int p2), .val (.int p3), .val (.int p4), .val (.int (2 : Int32)), .val (.int B0), .val (.int B1), .val (.int B2), .unset, .unset, .unset, .unset] [(.int (2 : Int32))])) _
    refine st5 _ ?_
    show Steps p.tables e below (T5.setTop (mkF m 21 #[.val (.int p1), .val (.int p2), .val (.int p3), .val (.int p4), .val (.int (2 : Int32)), .val (.int B0), .val (.int B1), .val (.int B2), .unset, .unset, .unset, .unset] [(.ref b5)])) _
    refine XS.astore X5.here hx rfl (hb hby at_21) rfl rfl (l' := #[.val (.int p1), .val (.int p2), .val (.int p3), .val (.int p4), .val (.int (2 : Int32)), .val (.int B0), .val (.int B1), .val (.int B2), .val (.ref b5), .unset, .unset, .unset]) rfl ?_
    show Steps p.tables e below (T5.setTop (mkF m 23 #[.val (.int p1), .val (.int p2), .val (.int p3), .val (.int p4), .val (.int (2 : Int32)), .val (.int B0), .val (.int B1), .val (.int B2), .val (.ref b5), .unset, .unset, .unset] [])) _
    refine XS.iload X5.here hx rfl (hb hby at_23) rfl ?_
    show Steps p.tables e below (T5.setTop (mkF m 25 #[.val (.int p1), .val (.int p2), .val (.int p3), .val (.int p4), .val (.int (2 : Int32)), .val (.int B0), .val (.int B1), .val (.int B2), .val (.ref b5), .unset, .unset, .unset] [(.int (2 : Int32))])) _
    refine st6 _ ?_
    show Steps p.tables e below (T6.setTop (mkF m 27 #[.val (.int p1), .val (.int p2), .val (.int p3), .val (.int p4), .val (.int (2 : Int32)), .val (.int B0), .val (.int B1), .val (.int B2), .val (.ref b5), .unset, .unset, .unset] [(.ref b6)])) _
    refine XS.astore X6.here hx rfl (hb hby at_27) rfl rfl (l' := #[.val (.int p1), .val (.int p2), .val (.int p3), .val (.int p4), .val (.int (2 : Int32)), .val (.int B0), .val (.int B1), .val (.int B2), .val (.ref b5), .val (.ref b6), .unset, .unset]) rfl ?_
    show Steps p.tables e below (T6.setTop (mkF m 29 #[.val (.int p1), .val (.int p2), .val (.int p3), .val (.int p4), .val (.int (2 : Int32)), .val (.int B0), .val (.int B1), .val (.int B2), .val (.ref b5), .val (.ref b6), .unset, .unset] [])) _
    refine XS.iload X6.here hx rfl (hb hby at_29) rfl ?_
    show Steps p.tables e below (T6.setTop (mkF m 31 #[.val (.int p1), .val (.int p2), .val (.int p3), .val (.int p4), .val (.int (2 : Int32)), .val (.int B0), .val (.int B1), .val (.int B2), .val (.ref b5), .val (.ref b6), .unset, .unset] [(.int (2 : Int32))])) _
    refine XS.ifNo X6.here hx rfl (hb hby at_31) rfl ((if0 _ _).trans (tlt (by decide)).2.2.2) ?_
    show Steps p.tables e below (T6.setTop (mkF m 34 #[.val (.int p1), .val (.int p2), .val (.int p3), .val (.int p4), .val (.int (2 : Int32)), .val (.int B0), .val (.int B1), .val (.int B2), .val (.ref b5), .val (.ref b6), .unset, .unset] [])) _
    refine XS.aload X6.here hx rfl (hb hby at_34) rfl rfl ?_
    show Steps p.tables e below (T6.setTop (mkF m 36 #[.val (.int p1), .val (.int p2), .val (.int p3), .val (.int p4), .val (.int (2 : Int32)), .val (.int B0), .val (.int B1), .val (.int B2), .val (.ref b5), .val (.ref b6), .unset, .unset] [(.ref b5)])) _
    refine XS.iconst X6.here hx rfl (hb hby at_36) ?_
    show Steps p.tables e below (T6.setTop (mkF m 37 #[.val (.int p1), .val (.int p2), .val (.int p3), .val (.int p4), .val (.int (2 : Int32)), .val (.int B0), .val (.int B1), .val (.int B2), .val (.ref b5), .val (.ref b6), .unset, .unset] [(.int (0 : Int32)), (.ref b5)])) _
    refine XS.iload X6.here hx rfl (hb hby at_37) rfl ?_
    show Steps p.tables e below (T6.setTop (mkF m 39 #[.val (.int p1), .val (.int p2), .val (.int p3), .val (.int p4), .val (.int (2 : Int32)), .val (.int B0), .val (.int B1), .val (.int B2), .val (.ref b5), .val (.ref b6), .unset, .unset] [(.int B0), (.int (0 : Int32)), (.ref b5)])) _
    refine st7 _ ?_
    show Steps p.tables e below (T7.setTop (mkF m 40 #[.val (.int p1), .val (.int p2), .val (.int p3), .val (.int p4), .val (.int (2 : Int32)), .val (.int B0), .val (.int B1), .val (.int B2), .val (.ref b5), .val (.ref b6), .unset, .unset] [])) _
    refine XS.aload X7.here hx rfl (hb hby at_40) rfl rfl ?_
    show Steps p.tables e below (T7.setTop (mkF m 42 #[.val (.int p1), .val (.int p2), .val (.int p3), .val (.int p4), .val (.int (2 : Int32)), .val (.int B0), .val (.int B1), .val (.int B2), .val (.ref b5), .val (.ref b6), .unset, .unset] [(.ref b6)])) _
    refine XS.iconst X7.here hx rfl (hb hby at_42) ?_
    show Steps p.tables e below (T7.setTop (mkF m 43 #[.val (.int p1), .val (.int p2), .val (.int p3), .val (.int p4), .val (.int (2 : Int32)), .val (.int B0), .val (.int B1), .val (.int B2), .val (.ref b5), .val (.ref b6), .unset, .unset] [(.int (0 : Int32)), (.ref b6)])) _
    refine XS.iload X7.here hx rfl (hb hby at_43) rfl ?_
    show Steps p.tables e below (T7.setTop (mkF m 45 #[.val (.int p1), .val (.int p2), .val (.int p3), .val (.int p4), .val (.int (2 : Int32)), .val (.int B0), .val (.int B1), .val (.int B2), .val (.ref b5), .val (.ref b6), .unset, .unset] [(.int B0), (.int (0 : Int32)), (.ref b6)])) _
    refine st8 _ ?_
    show Steps p.tables e below (T8.setTop (mkF m 46 #[.val (.int p1), .val (.int p2), .val (.int p3), .val (.int p4), .val (.int (2 : Int32)), .val (.int B0), .val (.int B1), .val (.int B2), .val (.ref b5), .val (.ref b6), .unset, .unset] [])) _
    refine XS.iload X8.here hx rfl (hb hby at_46) rfl ?_
    show Steps p.tables e below (T8.setTop (mkF m 48 #[.val (.int p1), .val (.int p2), .val (.int p3), .val (.int p4), .val (.int (2 : Int32)), .val (.int B0), .val (.int B1), .val (.int B2), .val (.ref b5), .val (.ref b6), .unset, .unset] [(.int (2 : Int32))])) _
    refine XS.iconst X8.here hx rfl (hb hby at_48) ?_
    show Steps p.tables e below (T8.setTop (mkF m 49 #[.val (.int p1), .val (.int p2), .val (.int p3), .val (.int p4), .val (.int (2 : Int32)), .val (.int B0), .val (.int B1), .val (.int B2), .val (.ref b5), .val (.ref b6), .unset, .unset] [(.int (1 : Int32)), (.int (2 : Int32))])) _
    refine XS.icmpNo X8.here hx rfl (hb hby at_49) rfl (tlt (by decide)).2.2.2 ?_
    show Steps p.tables e below (T8.setTop (mkF m 52 #[.val (.int p1), .val (.int p2), .val (.int p3), .val (.int p4), .val (.int (2 : Int32)), .val (.int B0), .val (.int B1), .val (.int B2), .val (.ref b5), .val (.ref b6), .unset, .unset] [])) _
    refine XS.aload X8.here hx rfl (hb hby at_52) rfl rfl ?_
    show Steps p.tables e below (T8.setTop (mkF m 54 #[.val (.int p1), .val (.int p2), .val (.int p3), .val (.int p4), .val (.int (2 : Int32)), .val (.int B0), .val (.int B1), .val (.int B2), .val (.ref b5), .val (.ref b6), .unset, .unset] [(.ref b5)])) _
    refine XS.iconst X8.here hx rfl (hb hby at_54) ?_
    show Steps p.tables e below (T8.setTop (mkF m 55 #[.val (.int p1), .val (.int p2), .val (.int p3), .val (.int p4), .val (.int (2 : Int32)), .val (.int B0), .val (.int B1), .val (.int B2), .val (.ref b5), .val (.ref b6), .unset, .unset] [(.int (1 : Int32)), (.ref b5)])) _
    refine XS.iload X8.here hx rfl (hb hby at_55) rfl ?_
    show Steps p.tables e below (T8.setTop (mkF m 57 #[.val (.int p1), .val (.int p2), .val (.int p3), .val (.int p4), .val (.int (2 : Int32)), .val (.int B0), .val (.int B1), .val (.int B2), .val (.ref b5), .val (.ref b6), .unset, .unset] [(.int B1), (.int (1 : Int32)), (.ref b5)])) _
    refine st9 _ ?_
    show Steps p.tables e below (T9.setTop (mkF m 58 #[.val (.int p1), .val (.int p2), .val (.int p3), .val (.int p4), .val (.int (2 : Int32)), .val (.int B0), .val (.int B1), .val (.int B2), .val (.ref b5), .val (.ref b6), .unset, .unset] [])) _
    refine XS.aload X9.here hx rfl (hb hby at_58) rfl rfl ?_
    show Steps p.tables e below (T9.setTop (mkF m 60 #[.val (.int p1), .val (.int p2), .val (.int p3), .val (.int p4), .val (.int (2 : Int32)), .val (.int B0), .val (.int B1), .val (.int B2), .val (.ref b5), .val (.ref b6), .unset, .unset] [(.ref b6)])) _
    refine XS.iconst X9.here hx rfl (hb hby at_60) ?_
    show Steps p.tables e below (T9.setTop (mkF m 61 #[.val (.int p1), .val (.int p2), .val (.int p3), .val (.int p4), .val (.int (2 : Int32)), .val (.int B0), .val (.int B1), .val (.int B2), .val (.ref b5), .val (.ref b6), .unset, .unset] [(.int (1 : Int32)), (.ref b6)])) _
    refine XS.iload X9.here hx rfl (hb hby at_61) rfl ?_
    show Steps p.tables e below (T9.setTop (mkF m 63 #[.val (.int p1), .val (.int p2), .val (.int p3), .val (.int p4), .val (.int (2 : Int32)), .val (.int B0), .val (.int B1), .val (.int B2), .val (.ref b5), .val (.ref b6), .unset, .unset] [(.int B1), (.int (1 : Int32)), (.ref b6)])) _
    refine st10 _ ?_
    show Steps p.tables e below (T10.setTop (mkF m 64 #[.val (.int p1), .val (.int p2), .val (.int p3), .val (.int p4), .val (.int (2 : Int32)), .val (.int B0), .val (.int B1), .val (.int B2), .val (.ref b5), .val (.ref b6), .unset, .unset] [])) _
    refine XS.iload X10.here hx rfl (hb hby at_64) rfl ?_
    show Steps p.tables e below (T10.setTop (mkF m 66 #[.val (.int p1), .val (.int p2), .val (.int p3), .val (.int p4), .val (.int (2 : Int32)), .val (.int B0), .val (.int B1), .val (.int B2), .val (.ref b5), .val (.ref b6), .unset, .unset] [(.int (2 : Int32))])) _
    refine XS.iconst X10.here hx rfl (hb hby at_66) ?_
    show Steps p.tables e below (T10.setTop (mkF m 67 #[.val (.int p1), .val (.int p2), .val (.int p3), .val (.int p4), .val (.int (2 : Int32)), .val (.int B0), .val (.int B1), .val (.int B2), .val (.ref b5), .val (.ref b6), .unset, .unset] [(.int (2 : Int32)), (.int (2 : Int32))])) _
    refine XS.icmpYes X10.here hx rfl (pc0 := 67) (pc' := 82) rfl (hb hby at_67) rfl (flt (by decide)).2.2.2 (by decide) (by decide) ?_
    show Steps p.tables e below (T10.setTop (mkF m 82 #[.val (.int p1), .val (.int p2), .val (.int p3), .val (.int p4), .val (.int (2 : Int32)), .val (.int B0), .val (.int B1), .val (.int B2), .val (.ref b5), .val (.ref b6), .unset, .unset] [])) _
    refine XS.aload X10.here hx rfl (hb hby at_82) rfl rfl ?_
    show Steps p.tables e below (T10.setTop (mkF m 84 #[.val (.int p1), .val (.int p2), .val (.int p3), .val (.int p4), .val (.int (2 : Int32)), .val (.int B0), .val (.int B1), .val (.int B2), .val (.ref b5), .val (.ref b6), .unset, .unset] [(.ref b5)])) _
    refine st11 _ ?_
    show Steps p.tables e below (T11.setTop (mkF m 87 #[.val (.int p1), .val (.int p2), .val (.int p3), .val (.int p4), .val (.int (2 : Int32)), .val (.int B0), .val (.int B1), .val (.int B2), .val (.ref b5), .val (.ref b6), .unset, .unset] [(.ref r11)])) _
    refine XS.astore X11.here hx rfl (hb hby at_87) rfl rfl (l' := #[.val (.int p1), .val (.int p2), .val (.int p3), .val (.int p4), .val (.int (2 : Int32)), .val (.int B0), .val (.int B1), .val (.int B2), .val (.ref b5), .val (.ref b6), .val (.ref r11), .unset]) rfl ?_
    show Steps p.tables e below (T11.setTop (mkF m 89 #[.val (.int p1), .val (.int p2), .val (.int p3), .val (.int p4), .val (.int (2 : Int32)), .val (.int B0), .val (.int B1), .val (.int B2), .val (.ref b5), .val (.ref b6), .val (.ref r11), .unset] [])) _
    refine XS.iload X11.here hx rfl (hb hby at_89) rfl ?_
    show Steps p.tables e below (T11.setTop (mkF m 91 #[.val (.int p1), .val (.int p2), .val (.int p3), .val (.int p4), .val (.int (2 : Int32)), .val (.int B0), .val (.int B1), .val (.int B2), .val (.ref b5), .val (.ref b6), .val (.ref r11), .unset] [(.int (2 : Int32))])) _
    refine XS.ifNo X11.here hx rfl (hb hby at_91) rfl ((if0 _ _).trans (tlt (by decide)).2.2.2) ?_
    show Steps p.tables e below (T11.setTop (mkF m 94 #[.val (.int p1), .val (.int p2), .val (.int p3), .val (.int p4), .val (.int (2 : Int32)), .val (.int B0), .val (.int B1), .val (.int B2), .val (.ref b5), .val (.ref b6), .val (.ref r11), .unset] [])) _
    refine XS.aload X11.here hx rfl (hb hby at_94) rfl rfl ?_
    show Steps p.tables e below (T11.setTop (mkF m 96 #[.val (.int p1), .val (.int p2), .val (.int p3), .val (.int p4), .val (.int (2 : Int32)), .val (.int B0), .val (.int B1), .val (.int B2), .val (.ref b5), .val (.ref b6), .val (.ref r11), .unset] [(.ref b5)])) _
    refine XS.iconst X11.here hx rfl (hb hby at_96) ?_
    show Steps p.tables e below (T11.setTop (mkF m 97 #[.val (.int p1), .val (.int p2), .val (.int p3), .val (.int p4), .val (.int (2 : Int32)), .val (.int B0), .val (.int B1), .val (.int B2), .val (.ref b5), .val (.ref b6), .val (.ref r11), .unset] [(.int (0 : Int32)), (.ref b5)])) _
    refine XS.iload X11.here hx rfl (hb hby at_97) rfl ?_
    show Steps p.tables e below (T11.setTop (mkF m 99 #[.val (.int p1), .val (.int p2), .val (.int p3), .val (.int p4), .val (.int (2 : Int32)), .val (.int B0), .val (.int B1), .val (.int B2), .val (.ref b5), .val (.ref b6), .val (.ref r11), .unset] [(.int B0), (.int (0 : Int32)), (.ref b5)])) _
    refine XS.iconst X11.here hx rfl (hb hby at_99) ?_
    show Steps p.tables e below (T11.setTop (mkF m 100 #[.val (.int p1), .val (.int p2), .val (.int p3), .val (.int p4), .val (.int (2 : Int32)), .val (.int B0), .val (.int B1), .val (.int B2), .val (.ref b5), .val (.ref b6), .val (.ref r11), .unset] [(.int (-1 : Int32)), (.int B0), (.int (0 : Int32)), (.ref b5)])) _
    refine XS.ixor X11.here hx rfl (hb hby at_100) rfl ?_
    show Steps p.tables e below (T11.setTop (mkF m 101 #[.val (.int p1), .val (.int p2), .val (.int p3), .val (.int p4), .val (.int (2 : Int32)), .val (.int B0), .val (.int B1), .val (.int B2), .val (.ref b5), .val (.ref b6), .val (.ref r11), .unset] [(.int (B0 ^^^ (-1 : Int32))), (.int (0 : Int32)), (.ref b5)])) _
    refine XS.i2b X11.here hx rfl (hb hby at_101) rfl ?_
    show Steps p.tables e below (T11.setTop (mkF m 102 #[.val (.int p1), .val (.int p2), .val (.int p3), .val (.int p4), .val (.int (2 : Int32)), .val (.int B0), .val (.int B1), .val (.int B2), .val (.ref b5), .val (.ref b6), .val (.ref r11), .unset] [(.int ((B0 ^^^ (-1 : Int32)).toInt8.toInt32)), (.int (0 : Int32)), (.ref b5)])) _
    refine st12 _ ?_
    show Steps p.tables e below (T12.setTop (mkF m 103 #[.val (.int p1), .val (.int p2), .val (.int p3), .val (.int p4), .val (.int (2 : Int32)), .val (.int B0), .val (.int B1), .val (.int B2), .val (.ref b5), .val (.ref b6), .val (.ref r11), .unset] [])) _
    refine XS.iload X12.here hx rfl (hb hby at_103) rfl ?_
    show Steps p.tables e below (T12.setTop (mkF m 105 #[.val (.int p1), .val (.int p2), .val (.int p3), .val (.int p4), .val (.int (2 : Int32)), .val (.int B0), .val (.int B1), .val (.int B2), .val (.ref b5), .val (.ref b6), .val (.ref r11), .unset] [(.int (2 : Int32))])) _
    refine XS.iconst X12.here hx rfl (hb hby at_105) ?_
    show Steps p.tables e below (T12.setTop (mkF m 106 #[.val (.int p1), .val (.int p2), .val (.int p3), .val (.int p4), .val (.int (2 : Int32)), .val (.int B0), .val (.int B1), .val (.int B2), .val (.ref b5), .val (.ref b6), .val (.ref r11), .unset] [(.int (1 : Int32)), (.int (2 : Int32))])) _
    refine XS.icmpNo X12.here hx rfl (hb hby at_106) rfl (tlt (by decide)).2.2.2 ?_
    show Steps p.tables e below (T12.setTop (mkF m 109 #[.val (.int p1), .val (.int p2), .val (.int p3), .val (.int p4), .val (.int (2 : Int32)), .val (.int B0), .val (.int B1), .val (.int B2), .val (.ref b5), .val (.ref b6), .val (.ref r11), .unset] [])) _
    refine XS.aload X12.here hx rfl (hb hby at_109) rfl rfl ?_
    show Steps p.tables e below (T12.setTop (mkF m 111 #[.val (.int p1), .val (.int p2), .val (.int p3), .val (.int p4), .val (.int (2 : Int32)), .val (.int B0), .val (.int B1), .val (.int B2), .val (.ref b5), .val (.ref b6), .val (.ref r11), .unset] [(.ref b5)])) _
    refine XS.iconst X12.here hx rfl (hb hby at_111) ?_
    show Steps p.tables e below (T12.setTop (mkF m 112 #[.val (.int p1), .val (.int p2), .val (.int p3), .val (.int p4), .val (.int (2 : Int32)), .val (.int B0), .val (.int B1), .val (.int B2), .val (.ref b5), .val (.ref b6), .val (.ref r11), .unset] [(.int (1 : Int32)), (.ref b5)])) _
    refine XS.iload X12.here hx rfl (hb hby at_112) rfl ?_
    show Steps p.tables e below (T12.setTop (mkF m 114 #[.val (.int p1), .val (.int p2), .val (.int p3), .val (.int p4), .val (.int (2 : Int32)), .val (.int B0), .val (.int B1), .val (.int B2), .val (.ref b5), .val (.ref b6), .val (.ref r11), .unset] [(.int B1), (.int (1 : Int32)), (.ref b5)])) _
    refine XS.iconst X12.here hx rfl (hb hby at_114) ?_
    show Steps p.tables e below (T12.setTop (mkF m 115 #[.val (.int p1), .val (.int p2), .val (.int p3), .val (.int p4), .val (.int (2 : Int32)), .val (.int B0), .val (.int B1), .val (.int B2), .val (.ref b5), .val (.ref b6), .val (.ref r11), .unset] [(.int (-1 : Int32)), (.int B1), (.int (1 : Int32)), (.ref b5)])) _
    refine XS.ixor X12.here hx rfl (hb hby at_115) rfl ?_
    show Steps p.tables e below (T12.setTop (mkF m 116 #[.val (.int p1), .val (.int p2), .val (.int p3), .val (.int p4), .val (.int (2 : Int32)), .val (.int B0), .val (.int B1), .val (.int B2), .val (.ref b5), .val (.ref b6), .val (.ref r11), .unset] [(.int (B1 ^^^ (-1 : Int32))), (.int (1 : Int32)), (.ref b5)])) _
    refine XS.i2b X12.here hx rfl (hb hby at_116) rfl ?_
    show Steps p.tables e below (T12.setTop (mkF m 117 #[.val (.int p1), .val (.int p2), .val (.int p3), .val (.int p4), .val (.int (2 : Int32)), .val (.int B0), .val (.int B1), .val (.int B2), .val (.ref b5), .val (.ref b6), .val (.ref r11), .unset] [(.int ((B1 ^^^ (-1 : Int32)).toInt8.toInt32)), (.int (1 : Int32)), (.ref b5)])) _
    refine st13 _ ?_
    show Steps p.tables e below (T13.setTop (mkF m 118 #[.val (.int p1), .val (.int p2), .val (.int p3), .val (.int p4), .val (.int (2 : Int32)), .val (.int B0), .val (.int B1), .val (.int B2), .val (.ref b5), .val (.ref b6), .val (.ref r11), .unset] [])) _
    refine XS.iload X13.here hx rfl (hb hby at_118) rfl ?_
    show Steps p.tables e below (T13.setTop (mkF m 120 #[.val (.int p1), .val (.int p2), .val (.int p3), .val (.int p4), .val (.int (2 : Int32)), .val (.int B0), .val (.int B1), .val (.int B2), .val (.ref b5), .val (.ref b6), .val (.ref r11), .unset] [(.int (2 : Int32))])) _
    refine XS.iconst X13.here hx rfl (hb hby at_120) ?_
    show Steps p.tables e below (T13.setTop (mkF m 121 #[.val (.int p1), .val (.int p2), .val (.int p3), .val (.int p4), .val (.int (2 : Int32)), .val (.int B0), .val (.int B1), .val (.int B2), .val (.ref b5), .val (.ref b6), .val (.ref r11), .unset] [(.int (2 : Int32)), (.int (2 : Int32))])) _
    refine XS.icmpYes X13.here hx rfl (pc0 := 121) (pc' := 133) rfl (hb hby at_121) rfl (flt (by decide)).2.2.2 (by decide) (by decide) ?_
    show Steps p.tables e below (T13.setTop (mkF m 133 #[.val (.int p1), .val (.int p2), .val (.int p3), .val (.int p4), .val (.int (2 : Int32)), .val (.int B0), .val (.int B1), .val (.int B2), .val (.ref b5), .val (.ref b6), .val (.ref r11), .unset] [])) _
    refine XS.aload X13.here hx rfl (hb hby at_133) rfl rfl ?_
    show Steps p.tables e below (T13.setTop (mkF m 135 #[.val (.int p1), .val (.int p2), .val (.int p3), .val (.int p4), .val (.int (2 : Int32)), .val (.int B0), .val (.int B1), .val (.int B2), .val (.ref b5), .val (.ref b6), .val (.ref r11), .unset] [(.ref r11)])) _
    refine st14.trans ?_
    show Steps p.tables e below (T14.setTop (mkF m 138 #[.val (.int p1), .val (.int p2), .val (.int p3), .val (.int p4), .val (.int (2 : Int32)), .val (.int B0), .val (.int B1), .val (.int B2), .val (.ref b5), .val (.ref b6), .val (.ref r11), .unset] [(.ref o14)])) _
    refine XS.astore X14.here hx rfl (hb hby at_138) rfl rfl (l' := #[.val (.int p1), .val (.int p2), .val (.int p3), .val (.int p4), .val (.int (2 : Int32)), .val (.int B0), .val (.int B1), .val (.int B2), .val (.ref b5), .val (.ref b6), .val (.ref r11), .val (.ref o14)]) rfl ?_
    show Steps p.tables e below (T14.setTop (mkF m 140 #[.val (.int p1), .val (.int p2), .val (.int p3), .val (.int p4), .val (.int (2 : Int32)), .val (.int B0), .val (.int B1), .val (.int B2), .val (.ref b5), .val (.ref b6), .val (.ref r11), .val (.ref o14)] [])) _
    refine XS.aload X14.here hx rfl (hb hby at_140) rfl rfl ?_
    show Steps p.tables e below (T14.setTop (mkF m 142 #[.val (.int p1), .val (.int p2), .val (.int p3), .val (.int p4), .val (.int (2 : Int32)), .val (.int B0), .val (.int B1), .val (.int B2), .val (.ref b5), .val (.ref b6), .val (.ref r11), .val (.ref o14)] [(.ref o14)])) _
    refine X14.arraylength hx Ar_o.1 (State.isArrayOf_alike hZ.alike Ar_o.2.1) (g := (mkF m 142 #[.val (.int p1), .val (.int p2), .val (.int p3), .val (.int p4), .val (.int (2 : Int32)), .val (.int B0), .val (.int B1), .val (.int B2), .val (.ref b5), .val (.ref b6), .val (.ref r11), .val (.ref o14)] [(.ref o14)])) rfl rfl (hb hby at_142) _ ?_
    rw [len_of S_o N_o]
    show Steps p.tables e below (T14.setTop (mkF m 143 #[.val (.int p1), .val (.int p2), .val (.int p3), .val (.int p4), .val (.int (2 : Int32)), .val (.int B0), .val (.int B1), .val (.int B2), .val (.ref b5), .val (.ref b6), .val (.ref r11), .val (.ref o14)] [(.int (2 : Int32))])) _
    refine XS.iload X14.here hx rfl (hb hby at_143) rfl ?_
    show Steps p.tables e below (T14.setTop (mkF m 145 #[.val (.int p1), .val (.int p2), .val (.int p3), .val (.int p4), .val (.int (2 : Int32)), .val (.int B0), .val (.int B1), .val (.int B2), .val (.ref b5), .val (.ref b6), .val (.ref r11), .val (.ref o14)] [(.int (2 : Int32)), (.int (2 : Int32))])) _
    refine XS.icmpYes X14.here hx rfl (pc0 := 145) (pc' := 150) rfl (hb hby at_145) rfl (teq (by first | rfl | decide : (2 : Int32) = (2 : Int32))).1 (by decide) (by decide) ?_
    show Steps p.tables e below (T14.setTop (mkF m 150 #[.val (.int p1), .val (.int p2), .val (.int p3), .val (.int p4), .val (.int (2 : Int32)), .val (.int B0), .val (.int B1), .val (.int B2), .val (.ref b5), .val (.ref b6), .val (.ref r11), .val (.ref o14)] [])) _
    refine XS.iload X14.here hx rfl (hb hby at_150) rfl ?_
    show Steps p.tables e below (T14.setTop (mkF m 152 #[.val (.int p1), .val (.int p2), .val (.int p3), .val (.int p4), .val (.int (2 : Int32)), .val (.int B0), .val (.int B1), .val (.int B2), .val (.ref b5), .val (.ref b6), .val (.ref r11), .val (.ref o14)] [(.int (2 : Int32))])) _
    refine XS.ifNo X14.here hx rfl (hb hby at_152) rfl ((if0 _ _).trans (tlt (by decide)).2.2.2) ?_
    show Steps p.tables e below (T14.setTop (mkF m 155 #[.val (.int p1), .val (.int p2), .val (.int p3), .val (.int p4), .val (.int (2 : Int32)), .val (.int B0), .val (.int B1), .val (.int B2), .val (.ref b5), .val (.ref b6), .val (.ref r11), .val (.ref o14)] [])) _
    refine XS.aload X14.here hx rfl (hb hby at_155) rfl rfl ?_
    show Steps p.tables e below (T14.setTop (mkF m 157 #[.val (.int p1), .val (.int p2), .val (.int p3), .val (.int p4), .val (.int (2 : Int32)), .val (.int B0), .val (.int B1), .val (.int B2), .val (.ref b5), .val (.ref b6), .val (.ref r11), .val (.ref o14)] [(.ref o14)])) _
    refine XS.iconst X14.here hx rfl (hb hby at_157) ?_
    show Steps p.tables e below (T14.setTop (mkF m 158 #[.val (.int p1), .val (.int p2), .val (.int p3), .val (.int p4), .val (.int (2 : Int32)), .val (.int B0), .val (.int B1), .val (.int B2), .val (.ref b5), .val (.ref b6), .val (.ref r11), .val (.ref o14)] [(.int (0 : Int32)), (.ref o14)])) _
    refine X14.baloadBytes hx (j := (0 : Int32)) (v := (.int B0)) Ar_o.1 (State.isArrayOf_alike hZ.alike Ar_o.2.1) Ar_o.2.2 (inb_of S_o ⟨by decide, by decide⟩) (H_o.at (inb_of S_o ⟨by decide, by decide⟩) rfl) (g := (mkF m 158 #[.val (.int p1), .val (.int p2), .val (.int p3), .val (.int p4), .val (.int (2 : Int32)), .val (.int B0), .val (.int B1), .val (.int B2), .val (.ref b5), .val (.ref b6), .val (.ref r11), .val (.ref o14)] [(.int (0 : Int32)), (.ref o14)])) rfl rfl (hb hby at_158) _ ?_
    show Steps p.tables e below (T14.setTop (mkF m 159 #[.val (.int p1), .val (.int p2), .val (.int p3), .val (.int p4), .val (.int (2 : Int32)), .val (.int B0), .val (.int B1), .val (.int B2), .val (.ref b5), .val (.ref b6), .val (.ref r11), .val (.ref o14)] [(.int B0)])) _
    refine XS.iload X14.here hx rfl (hb hby at_159) rfl ?_
    show Steps p.tables e below (T14.setTop (mkF m 161 #[.val (.int p1), .val (.int p2), .val (.int p3), .val (.int p4), .val (.int (2 : Int32)), .val (.int B0), .val (.int B1), .val (.int B2), .val (.ref b5), .val (.ref b6), .val (.ref r11), .val (.ref o14)] [(.int B0), (.int B0)])) _
    refine XS.icmpYes X14.here hx rfl (pc0 := 161) (pc' := 166) rfl (hb hby at_161) rfl (teq (by first | rfl | decide)).1 (by decide) (by decide) ?_
    show Steps p.tables e below (T14.setTop (mkF m 166 #[.val (.int p1), .val (.int p2), .val (.int p3), .val (.int p4), .val (.int (2 : Int32)), .val (.int B0), .val (.int B1), .val (.int B2), .val (.ref b5), .val (.ref b6), .val (.ref r11), .val (.ref o14)] [])) _
    refine XS.iload X14.here hx rfl (hb hby at_166) rfl ?_
    show Steps p.tables e below (T14.setTop (mkF m 168 #[.val (.int p1), .val (.int p2), .val (.int p3), .val (.int p4), .val (.int (2 : Int32)), .val (.int B0), .val (.int B1), .val (.int B2), .val (.ref b5), .val (.ref b6), .val (.ref r11), .val (.ref o14)] [(.int (2 : Int32))])) _
    refine XS.iconst X14.here hx rfl (hb hby at_168) ?_
    show Steps p.tables e below (T14.setTop (mkF m 169 #[.val (.int p1), .val (.int p2), .val (.int p3), .val (.int p4), .val (.int (2 : Int32)), .val (.int B0), .val (.int B1), .val (.int B2), .val (.ref b5), .val (.ref b6), .val (.ref r11), .val (.ref o14)] [(.int (1 : Int32)), (.int (2 : Int32))])) _
    refine XS.icmpNo X14.here hx rfl (hb hby at_169) rfl (tlt (by decide)).2.2.2 ?_
    show Steps p.tables e below (T14.setTop (mkF m 172 #[.val (.int p1), .val (.int p2), .val (.int p3), .val (.int p4), .val (.int (2 : Int32)), .val (.int B0), .val (.int B1), .val (.int B2), .val (.ref b5), .val (.ref b6), .val (.ref r11), .val (.ref o14)] [])) _
    refine XS.aload X14.here hx rfl (hb hby at_172) rfl rfl ?_
    show Steps p.tables e below (T14.setTop (mkF m 174 #[.val (.int p1), .val (.int p2), .val (.int p3), .val (.int p4), .val (.int (2 : Int32)), .val (.int B0), .val (.int B1), .val (.int B2), .val (.ref b5), .val (.ref b6), .val (.ref r11), .val (.ref o14)] [(.ref o14)])) _
    refine XS.iconst X14.here hx rfl (hb hby at_174) ?_
    show Steps p.tables e below (T14.setTop (mkF m 175 #[.val (.int p1), .val (.int p2), .val (.int p3), .val (.int p4), .val (.int (2 : Int32)), .val (.int B0), .val (.int B1), .val (.int B2), .val (.ref b5), .val (.ref b6), .val (.ref r11), .val (.ref o14)] [(.int (1 : Int32)), (.ref o14)])) _
    refine X14.baloadBytes hx (j := (1 : Int32)) (v := (.int B1)) Ar_o.1 (State.isArrayOf_alike hZ.alike Ar_o.2.1) Ar_o.2.2 (inb_of S_o ⟨by decide, by decide⟩) (H_o.at (inb_of S_o ⟨by decide, by decide⟩) rfl) (g := (mkF m 175 #[.val (.int p1), .val (.int p2), .val (.int p3), .val (.int p4), .val (.int (2 : Int32)), .val (.int B0), .val (.int B1), .val (.int B2), .val (.ref b5), .val (.ref b6), .val (.ref r11), .val (.ref o14)] [(.int (1 : Int32)), (.ref o14)])) rfl rfl (hb hby at_175) _ ?_
    show Steps p.tables e below (T14.setTop (mkF m 176 #[.val (.int p1), .val (.int p2), .val (.int p3), .val (.int p4), .val (.int (2 : Int32)), .val (.int B0), .val (.int B1), .val (.int B2), .val (.ref b5), .val (.ref b6), .val (.ref r11), .val (.ref o14)] [(.int B1)])) _
    refine XS.iload X14.here hx rfl (hb hby at_176) rfl ?_
    show Steps p.tables e below (T14.setTop (mkF m 178 #[.val (.int p1), .val (.int p2), .val (.int p3), .val (.int p4), .val (.int (2 : Int32)), .val (.int B0), .val (.int B1), .val (.int B2), .val (.ref b5), .val (.ref b6), .val (.ref r11), .val (.ref o14)] [(.int B1), (.int B1)])) _
    refine XS.icmpYes X14.here hx rfl (pc0 := 178) (pc' := 183) rfl (hb hby at_178) rfl (teq (by first | rfl | decide)).1 (by decide) (by decide) ?_
    show Steps p.tables e below (T14.setTop (mkF m 183 #[.val (.int p1), .val (.int p2), .val (.int p3), .val (.int p4), .val (.int (2 : Int32)), .val (.int B0), .val (.int B1), .val (.int B2), .val (.ref b5), .val (.ref b6), .val (.ref r11), .val (.ref o14)] [])) _
    refine XS.iload X14.here hx rfl (hb hby at_183) rfl ?_
    show Steps p.tables e below (T14.setTop (mkF m 185 #[.val (.int p1), .val (.int p2), .val (.int p3), .val (.int p4), .val (.int (2 : Int32)), .val (.int B0), .val (.int B1), .val (.int B2), .val (.ref b5), .val (.ref b6), .val (.ref r11), .val (.ref o14)] [(.int (2 : Int32))])) _
    refine XS.iconst X14.here hx rfl (hb hby at_185) ?_
    show Steps p.tables e below (T14.setTop (mkF m 186 #[.val (.int p1), .val (.int p2), .val (.int p3), .val (.int p4), .val (.int (2 : Int32)), .val (.int B0), .val (.int B1), .val (.int B2), .val (.ref b5), .val (.ref b6), .val (.ref r11), .val (.ref o14)] [(.int (2 : Int32)), (.int (2 : Int32))])) _
    refine XS.icmpYes X14.here hx rfl (pc0 := 186) (pc' := 200) rfl (hb hby at_186) rfl (flt (by decide)).2.2.2 (by decide) (by decide) ?_
    show Steps p.tables e below (T14.setTop (mkF m 200 #[.val (.int p1), .val (.int p2), .val (.int p3), .val (.int p4), .val (.int (2 : Int32)), .val (.int B0), .val (.int B1), .val (.int B2), .val (.ref b5), .val (.ref b6), .val (.ref r11), .val (.ref o14)] [])) _
    refine XS.aload X14.here hx rfl (hb hby at_200) rfl rfl ?_
    show Steps p.tables e below (T14.setTop (mkF m 202 #[.val (.int p1), .val (.int p2), .val (.int p3), .val (.int p4), .val (.int (2 : Int32)), .val (.int B0), .val (.int B1), .val (.int B2), .val (.ref b5), .val (.ref b6), .val (.ref r11), .val (.ref o14)] [(.ref r11)])) _
    refine XS.aload X14.here hx rfl (hb hby at_202) rfl rfl ?_
    show Steps p.tables e below (T14.setTop (mkF m 204 #[.val (.int p1), .val (.int p2), .val (.int p3), .val (.int p4), .val (.int (2 : Int32)), .val (.int B0), .val (.int B1), .val (.int B2), .val (.ref b5), .val (.ref b6), .val (.ref r11), .val (.ref o14)] [(.ref b6), (.ref r11)])) _
    refine st17 _ ?_
    show Steps p.tables e below (T17.setTop (mkF m 207 #[.val (.int p1), .val (.int p2), .val (.int p3), .val (.int p4), .val (.int (2 : Int32)), .val (.int B0), .val (.int B1), .val (.int B2), .val (.ref b5), .val (.ref b6), .val (.ref r11), .val (.ref o14)] [(.ref r17), (.ref r11)])) _
    refine st18.trans ?_
    show Steps p.tables e below (T18.setTop (mkF m 210 #[.val (.int p1), .val (.int p2), .val (.int p3), .val (.int p4), .val (.int (2 : Int32)), .val (.int B0), .val (.int B1), .val (.int B2), .val (.ref b5), .val (.ref b6), .val (.ref r11), .val (.ref o14)] [(.int (1 : Int32))])) _
    refine XS.ifYes X18.here hx rfl (pc0 := 210) (pc' := 215) rfl (hb hby at_210) rfl ((if0 _ _).trans (feq (by first | rfl | decide : ¬ ((1 : Int32) = (0 : Int32)))).2) (by decide) (by decide) ?_
    show Steps p.tables e below (T18.setTop (mkF m 215 #[.val (.int p1), .val (.int p2), .val (.int p3), .val (.int p4), .val (.int (2 : Int32)), .val (.int B0), .val (.int B1), .val (.int B2), .val (.ref b5), .val (.ref b6), .val (.ref r11), .val (.ref o14)] [])) _
    refine XS.iload X18.here hx rfl (hb hby at_215) rfl ?_
    show Steps p.tables e below (T18.setTop (mkF m 217 #[.val (.int p1), .val (.int p2), .val (.int p3), .val (.int p4), .val (.int (2 : Int32)), .val (.int B0), .val (.int B1), .val (.int B2), .val (.ref b5), .val (.ref b6), .val (.ref r11), .val (.ref o14)] [(.int (2 : Int32))])) _
    refine XS.ifNo X18.here hx rfl (hb hby at_217) rfl ((if0 _ _).trans (tlt (by decide)).2.2.2) ?_
    show Steps p.tables e below (T18.setTop (mkF m 220 #[.val (.int p1), .val (.int p2), .val (.int p3), .val (.int p4), .val (.int (2 : Int32)), .val (.int B0), .val (.int B1), .val (.int B2), .val (.ref b5), .val (.ref b6), .val (.ref r11), .val (.ref o14)] [])) _
    refine XS.aload X18.here hx rfl (hb hby at_220) rfl rfl ?_
    show Steps p.tables e below (T18.setTop (mkF m 222 #[.val (.int p1), .val (.int p2), .val (.int p3), .val (.int p4), .val (.int (2 : Int32)), .val (.int B0), .val (.int B1), .val (.int B2), .val (.ref b5), .val (.ref b6), .val (.ref r11), .val (.ref o14)] [(.ref r11)])) _
    refine XS.aload X18.here hx rfl (hb hby at_222) rfl rfl ?_
    show Steps p.tables e below (T18.setTop (mkF m 224 #[.val (.int p1), .val (.int p2), .val (.int p3), .val (.int p4), .val (.int (2 : Int32)), .val (.int B0), .val (.int B1), .val (.int B2), .val (.ref b5), .val (.ref b6), .val (.ref r11), .val (.ref o14)] [(.ref b5), (.ref r11)])) _
    refine st19 _ ?_
    show Steps p.tables e below (T19.setTop (mkF m 227 #[.val (.int p1), .val (.int p2), .val (.int p3), .val (.int p4), .val (.int (2 : Int32)), .val (.int B0), .val (.int B1), .val (.int B2), .val (.ref b5), .val (.ref b6), .val (.ref r11), .val (.ref o14)] [(.ref r19), (.ref r11)])) _
    refine st20.trans ?_
    show Steps p.tables e below (T20.setTop (mkF m 230 #[.val (.int p1), .val (.int p2), .val (.int p3), .val (.int p4), .val (.int (2 : Int32)), .val (.int B0), .val (.int B1), .val (.int B2), .val (.ref b5), .val (.ref b6), .val (.ref r11), .val (.ref o14)] [(.int (0 : Int32))])) _
    refine XS.ifYes X20.here hx rfl (pc0 := 230) (pc' := 235) rfl (hb hby at_230) rfl ((if0 _ _).trans (teq (by first | rfl | decide : (0 : Int32) = (0 : Int32))).1) (by decide) (by decide) ?_
    show Steps p.tables e below (T20.setTop (mkF m 235 #[.val (.int p1), .val (.int p2), .val (.int p3), .val (.int p4), .val (.int (2 : Int32)), .val (.int B0), .val (.int B1), .val (.int B2), .val (.ref b5), .val (.ref b6), .val (.ref r11), .val (.ref o14)] [])) _
    refine XS.iconst X20.here hx rfl (hb hby at_235) ?_
    show Steps p.tables e below (T20.setTop (mkF m 236 #[.val (.int p1), .val (.int p2), .val (.int p3), .val (.int p4), .val (.int (2 : Int32)), .val (.int B0), .val (.int B1), .val (.int B2), .val (.ref b5), .val (.ref b6), .val (.ref r11), .val (.ref o14)] [(.int (1 : Int32))])) _
    exact retN X20 hx (t := .boolean) Bd.returns (by simp) (hb hby at_236) hr
  · show Q0 n0 _ _
    exact ⟨rfl, N20⟩
set_option maxRecDepth 65536 in
set_option maxHeartbeats 40000000 in
theorem rm0_3 (l : Launch) (Z : State) (a0 : Array Value) (hw : ∀ d ∈ tables_1, d.before a0 Z = true) (ws : List Jvm.Cond) (p1 : Int32) (p2 : Int32) (p3 : Int32) (p4 : Int32) (h0 : Heap) (n0 : Nat) (Z0 : n0 ≤ h0.size) (hn : (p1 &&& (3 : Int32)) = (3 : Int32)) :
    MetFree l x (head1 (Jvm.Cond.code x code maxLocals ret :: ws) room_1) (fun a U => a = #[(.int p1), (.int p2), (.int p3), (.int p4)] ∧ Z.Warmed39 U.vm ∧ U.heap = h0) (fun _ _ _ _ _ => True) (fun _ U o U' => ∃ v L, o = .returned v ∧ Q0 n0 v L ∧ FrameEnd U o U' L room_1.cells room_1.slots) := by
  refine MetFree.of_bodySF (plainFor_of_name pn_0) hisR ?_
  intro p e s m args below meth c s₁ Bd hml0 hP hK
  obtain ⟨rfl, hZ, hh⟩ := hP
  have hx := Bd.exec
  have hby := Bd.bytes
  have hml : c.maxLocals = 12 := hml0
  have hown : s.vm.findClass "com/example/mirrorlog/mirrorlog/core/undo/BytesOfPinLaw" = some m.cls := findClass_of_methodNamed Bd.named
  have hnm := (name_of_methodNamed Bd.named Bd.method).1
  have X0 : Stand p l e room_1 s m #[(.int p1), (.int p2), (.int p3), (.int p4)] below meth c s₁ [] 0 0 := Stand.of_body Bd
  have e0 : s₁.heap = h0 := by rw [← hh, Bd.state]; rfl
  have N0 := Fr.nil n0
  obtain ⟨B0, eB0⟩ : ∃ z, z = (p2.toInt8.toInt32) := ⟨_, rfl⟩
  obtain ⟨B1, eB1⟩ : ∃ z, z = (p3.toInt8.toInt32) := ⟨_, rfl⟩
  obtain ⟨B2, eB2⟩ : ∃ z, z = (p4.toInt8.toInt32) := ⟨_, rfl⟩
  have pre0 : ∀ t, Steps p.tables e below (s₁.setTop (mkF m 17 #[.val (.int p1), .val (.int p2), .val (.int p3), .val (.int p4), .val (.int (3 : Int32)), .val (.int B0), .val (.int B1), .val (.int B2), .unset, .unset, .unset, .unset] [])) t → Steps p.tables e below (s₁.setTop (entryFrame m #[(.int p1), (.int p2), (.int p3), (.int p4)] maxLocals)) t := fun t kt => castTop (ef_0 m p1 p2 p3 p4) (pc_A p1 p2 p3 p4 X0 hx hby t (by rw [hn, ← eB0, ← eB1, ← eB2]; exact kt))
  have hB0 : nar .byte B0 = B0 := by rw [eB0]; exact own_by _
  have hC0 : nar .byte ((B0 ^^^ (-1 : Int32)).toInt8.toInt32) = ((B0 ^^^ (-1 : Int32)).toInt8.toInt32) := own_by _
  have hB1 : nar .byte B1 = B1 := by rw [eB1]; exact own_by _
  have hC1 : nar .byte ((B1 ^^^ (-1 : Int32)).toInt8.toInt32) = ((B1 ^^^ (-1 : Int32)).toInt8.toInt32) := own_by _
  have hB2 : nar .byte B2 = B2 := by rw [eB2]; exact own_by _
  have hC2 : nar .byte ((B2 ^^^ (-1 : Int32)).toInt8.toInt32) = ((B2 ^^^ (-1 : Int32)).toInt8.toInt32) := own_by _
  obtain ⟨T5, h5, k5, X5, e5, E5, A5, Y5, st5⟩ := newPE X0 hx hZ (hw _ (List.mem_of_getElem? (i := 0) rfl)) e0 (g := (mkF m 19 #[.val (.int p1), .val (.int p2), .val (.int p3), .val (.int p4), .val (.int (3 : Int32)), .val (.int B0), .val (.int B1), .val (.int B2), .unset, .unset, .unset, .unset] [(.int (3 : Int32))])) rfl (hb hby at_19) rfl (by decide) (cap := 3) (by decide) (by decide) (by decide) (by decide) (ad := "[B") (by decide)
  obtain ⟨b5, g5⟩ : ∃ z, z = h0.size := ⟨_, rfl⟩
  rw [← g5] at A5 Y5 st5
  have V_b5 : Arv Z h5 b5 k5 .byte (3 : Int32) [(.int (0 : Int32)), (.int (0 : Int32)), (.int (0 : Int32))] (.int (0 : Int32)) := (Arv.new A5 (by decide)).pad (pad_rep [] (.int (0 : Int32)) 3)
  have g_b5 : n0 ≤ b5 := Nat.le_trans Z0 (Nat.le_of_eq g5.symm)
  have sz_b5 : h0.size ≤ b5 := (Nat.le_trans (Keep.refl h0 []).1 (Nat.le_of_eq g5.symm))
  have K5 : Keep h0 h5 [] := (Keep.refl h0 []).ext E5
  obtain ⟨T6, h6, k6, X6, e6, E6, A6, Y6, st6⟩ := newPE X5 hx hZ (hw _ (List.mem_of_getElem? (i := 0) rfl)) e5 (g := (mkF m 25 #[.val (.int p1), .val (.int p2), .val (.int p3), .val (.int p4), .val (.int (3 : Int32)), .val (.int B0), .val (.int B1), .val (.int B2), .val (.ref b5), .unset, .unset, .unset] [(.int (3 : Int32))])) rfl (hb hby at_25) rfl (by decide) (cap := 3) (by decide) (by decide) (by decide) (by decide) (ad := "[B") (by decide)
  obtain ⟨b6, g6⟩ : ∃ z, z = h5.size := ⟨_, rfl⟩
  rw [← g6] at A6 Y6 st6
  have V_b6 : Arv Z h6 b6 k6 .byte (3 : Int32) [(.int (0 : Int32)), (.int (0 : Int32)), (.int (0 : Int32))] (.int (0 : Int32)) := (Arv.new A6 (by decide)).pad (pad_rep [] (.int (0 : Int32)) 3)
  have g_b6 : n0 ≤ b6 := Nat.le_trans (Nat.le_trans Z0 E5.1) (Nat.le_of_eq g6.symm)
  have sz_b6 : h0.size ≤ b6 := (Nat.le_trans K5.1 (Nat.le_of_eq g6.symm))
  have l_ac : b5 < b6 := by rw [g6]; exact V_b5.lt
  have K6 : Keep h0 h6 [] := K5.ext E6
  obtain ⟨cl_b5_39, Ar_b5, q_b5, S_b5, N_b5, H_b5, G_b5⟩ := (V_b5.ext E6)
  have hin39 : ¬ ((0 : Int32) < 0 ∨ cl_b5_39.slots.size ≤ ((0 : Int32)).toNatClampNeg) := inb_of S_b5 ⟨by decide, by decide⟩
  obtain ⟨T7, h7, X7, e7, W7, st7⟩ := stB X6 hx hZ e6 Ar_b5 (j := (0 : Int32)) hin39 (g := (mkF m 39 #[.val (.int p1), .val (.int p2), .val (.int p3), .val (.int p4), .val (.int (3 : Int32)), .val (.int B0), .val (.int B1), .val (.int B2), .val (.ref b5), .val (.ref b6), .unset, .unset] [(.int B0), (.int (0 : Int32)), (.ref b5)])) rfl rfl (hb hby at_39)
  have V_b5_7 := Arv.set Ar_b5 q_b5 S_b5 N_b5 H_b5 G_b5 (fits_nar_byte _) W7 0 rfl (Nat.le_of_ble_eq_true rfl)
  replace V_b5_7 : Arv Z h7 b5 k5 .byte (3 : Int32) [(.int (nar .byte B0)), (.int (0 : Int32)), (.int (0 : Int32))] (.int (0 : Int32)) := V_b5_7
  rw [hB0] at V_b5_7
  have K7 : Keep h0 h7 [] := K6.wr W7 (Or.inr sz_b5)
  have N7 := Fr.snoc X7 N0 g_b5
  obtain ⟨cl_b6_45, Ar_b6, q_b6, S_b6, N_b6, H_b6, G_b6⟩ := (V_b6.other W7 (by omega : b6 ≠ b5))
  have hin45 : ¬ ((0 : Int32) < 0 ∨ cl_b6_45.slots.size ≤ ((0 : Int32)).toNatClampNeg) := inb_of S_b6 ⟨by decide, by decide⟩
  obtain ⟨T8, h8, X8, e8, W8, st8⟩ := stB X7 hx hZ e7 Ar_b6 (j := (0 : Int32)) hin45 (g := (mkF m 45 #[.val (.int p1), .val (.int p2), .val (.int p3), .val (.int p4), .val (.int (3 : Int32)), .val (.int B0), .val (.int B1), .val (.int B2), .val (.ref b5), .val (.ref b6), .unset, .unset] [(.int B0), (.int (0 : Int32)), (.ref b6)])) rfl rfl (hb hby at_45)
  have V_b6_8 := Arv.set Ar_b6 q_b6 S_b6 N_b6 H_b6 G_b6 (fits_nar_byte _) W8 0 rfl (Nat.le_of_ble_eq_true rfl)
  replace V_b6_8 : Arv Z h8 b6 k6 .byte (3 : Int32) [(.int (nar .byte B0)), (.int (0 : Int32)), (.int (0 : Int32))] (.int (0 : Int32)) := V_b6_8
  rw [hB0] at V_b6_8
  have K8 : Keep h0 h8 [] := K7.wr W8 (Or.inr sz_b6)
  have N8 := Fr.snoc X8 N7 g_b6
  obtain ⟨cl_b5_57, Ar_b5, q_b5, S_b5, N_b5, H_b5, G_b5⟩ := (V_b5_7.other W8 (by omega : b5 ≠ b6))
  have hin57 : ¬ ((1 : Int32) < 0 ∨ cl_b5_57.slots.size ≤ ((1 : Int32)).toNatClampNeg) := inb_of S_b5 ⟨by decide, by decide⟩
  obtain ⟨T9, h9, X9, e9, W9, st9⟩ := stB X8 hx hZ e8 Ar_b5 (j := (1 : Int32)) hin57 (g := (mkF m 57 #[.val (.int p1), .val (.int p2), .val (.int p3), .val (.int p4), .val (.int (3 : Int32)), .val (.int B0), .val (.int B1), .val (.int B2), .val (.ref b5), .val (.ref b6), .unset, .unset] [(.int B1), (.int (1 : Int32)), (.ref b5)])) rfl rfl (hb hby at_57)
  have V_b5_9 := Arv.set Ar_b5 q_b5 S_b5 N_b5 H_b5 G_b5 (fits_nar_byte _) W9 1 rfl (Nat.le_of_ble_eq_true rfl)
  replace V_b5_9 : Arv Z h9 b5 k5 .byte (3 : Int32) [(.int B0), (.int (nar .byte B1)), (.int (0 : Int32))] (.int (0 : Int32)) := V_b5_9
  rw [hB1] at V_b5_9
  have K9 : Keep h0 h9 [] := K8.wr W9 (Or.inr sz_b5)
  have N9 := Fr.snoc X9 N8 g_b5
  obtain ⟨cl_b6_63, Ar_b6, q_b6, S_b6, N_b6, H_b6, G_b6⟩ := (V_b6_8.other W9 (by omega : b6 ≠ b5))
  have hin63 : ¬ ((1 : Int32) < 0 ∨ cl_b6_63.slots.size ≤ ((1 : Int32)).toNatClampNeg) := inb_of S_b6 ⟨by decide, by decide⟩
  obtain ⟨T10, h10, X10, e10, W10, st10⟩ := stB X9 hx hZ e9 Ar_b6 (j := (1 : Int32)) hin63 (g := (mkF m 63 #[.val (.int p1), .val (.int p2), .val (.int p3), .val (.int p4), .val (.int (3 : Int32)), .val (.int B0), .val (.int B1), .val (.int B2), .val (.ref b5), .val (.ref b6), .unset, .unset] [(.int B1), (.int (1 : Int32)), (.ref b6)])) rfl rfl (hb hby at_63)
  have V_b6_10 := Arv.set Ar_b6 q_b6 S_b6 N_b6 H_b6 G_b6 (fits_nar_byte _) W10 1 rfl (Nat.le_of_ble_eq_true rfl)
  replace V_b6_10 : Arv Z h10 b6 k6 .byte (3 : Int32) [(.int B0), (.int (nar .byte B1)), (.int (0 : Int32))] (.int (0 : Int32)) := V_b6_10
  rw [hB1] at V_b6_10
  have K10 : Keep h0 h10 [] := K9.wr W10 (Or.inr sz_b6)
  have N10 := Fr.snoc X10 N9 g_b6
  obtain ⟨cl_b5_75, Ar_b5, q_b5, S_b5, N_b5, H_b5, G_b5⟩ := (V_b5_9.other W10 (by omega : b5 ≠ b6))
  have hin75 : ¬ ((2 : Int32) < 0 ∨ cl_b5_75.slots.size ≤ ((2 : Int32)).toNatClampNeg) := inb_of S_b5 ⟨by decide, by decide⟩
  obtain ⟨T11, h11, X11, e11, W11, st11⟩ := stB X10 hx hZ e10 Ar_b5 (j := (2 : Int32)) hin75 (g := (mkF m 75 #[.val (.int p1), .val (.int p2), .val (.int p3), .val (.int p4), .val (.int (3 : Int32)), .val (.int B0), .val (.int B1), .val (.int B2), .val (.ref b5), .val (.ref b6), .unset, .unset] [(.int B2), (.int (2 : Int32)), (.ref b5)])) rfl rfl (hb hby at_75)
  have V_b5_11 := Arv.set Ar_b5 q_b5 S_b5 N_b5 H_b5 G_b5 (fits_nar_byte _) W11 2 rfl (Nat.le_of_ble_eq_true rfl)
  replace V_b5_11 : Arv Z h11 b5 k5 .byte (3 : Int32) [(.int B0), (.int B1), (.int (nar .byte B2))] (.int (0 : Int32)) := V_b5_11
  rw [hB2] at V_b5_11
  have K11 : Keep h0 h11 [] := K10.wr W11 (Or.inr sz_b5)
  have N11 := Fr.snoc X11 N10 g_b5
  obtain ⟨cl_b6_81, Ar_b6, q_b6, S_b6, N_b6, H_b6, G_b6⟩ := (V_b6_10.other W11 (by omega : b6 ≠ b5))
  have hin81 : ¬ ((2 : Int32) < 0 ∨ cl_b6_81.slots.size ≤ ((2 : Int32)).toNatClampNeg) := inb_of S_b6 ⟨by decide, by decide⟩
  obtain ⟨T12, h12, X12, e12, W12, st12⟩ := stB X11 hx hZ e11 Ar_b6 (j := (2 : Int32)) hin81 (g := (mkF m 81 #[.val (.int p1), .val (.int p2), .val (.int p3), .val (.int p4), .val (.int (3 : Int32)), .val (.int B0), .val (.int B1), .val (.int B2), .val (.ref b5), .val (.ref b6), .unset, .unset] [(.int B2), (.int (2 : Int32)), (.ref b6)])) rfl rfl (hb hby at_81)
  have V_b6_12 := Arv.set Ar_b6 q_b6 S_b6 N_b6 H_b6 G_b6 (fits_nar_byte _) W12 2 rfl (Nat.le_of_ble_eq_true rfl)
  replace V_b6_12 : Arv Z h12 b6 k6 .byte (3 : Int32) [(.int B0), (.int B1), (.int (nar .byte B2))] (.int (0 : Int32)) := V_b6_12
  rw [hB2] at V_b6_12
  have K12 : Keep h0 h12 [] := K11.wr W12 (Or.inr sz_b6)
  have N12 := Fr.snoc X12 N11 g_b6
  have Zc13 : n0 ≤ h12.size := Nat.le_trans Z0 K12.1
  obtain ⟨_, _, ⟨T13, L13, k13, n13⟩, -, X13, ⟨Lc13, hQ13, l13, y13, z13⟩, st13⟩ := Jvm.LawKit.callS X12 hx (y := (⟨"com/example/mirrorlog/mirrorlog/core/undo/Bytes", "of", "([B)Lcom/example/mirrorlog/mirrorlog/core/undo/Bytes;"⟩ : MethodName)) hown (mvT hZ (hw _ (List.mem_of_getElem? (i := 1) rfl))) (mvT hZ (hw _ (List.mem_of_getElem? (i := 2) rfl))) (mvT hZ (hw _ (List.mem_of_getElem? (i := 3) rfl))) (mvT hZ (hw _ (List.mem_of_getElem? (i := 4) rfl))) (by decide) (backOf (W := 0) (rm1 l Z a0 hw [] b5 h12 n0 Zc13 (((((((Y5.ext E6).wr W7).wr W8).wr W9).wr W10).wr W11).wr W12) k5 (3 : Int32) [(.int B0), (.int B1), (.int B2)] (V_b5_11.other W12 (by omega : b5 ≠ b6)) (by decide)) hZ (hw _ (List.mem_of_getElem? (i := 4) rfl)) (hw _ (List.mem_of_getElem? (i := 3) rfl)) (by decide) (by decide)) (g := (mkF m 84 #[.val (.int p1), .val (.int p2), .val (.int p3), .val (.int p4), .val (.int (3 : Int32)), .val (.int B0), .val (.int B1), .val (.int B2), .val (.ref b5), .val (.ref b6), .unset, .unset] [(.ref b5)])) rfl (by rw [hml]; rfl) (argsL := [(.ref b5)]) (rest := []) (lenOf pd_0_0 rfl) rfl (by show 2 * 0 + _ ≤ _; exact Nat.le_of_eq rfl) (hb hby at_84) (fun _ _ => ⟨rfl, e12, (by decide : 2 + 2 ≤ _), (by decide : 6 + 4 ≤ _)⟩)
  dsimp only [Pt.U, Pt.locs, Pt.cells, Pt.slots] at X13 l13 y13 z13 st13 hQ13
  subst l13 y13 z13
  obtain ⟨⟨r13, c13, rfl, lr13, lc13, Y_r13, F_r13, V_c13, Y_c13⟩, N13q, Kc13⟩ := hQ13
  have la13 : b5 < h12.size := ((V_b5_11.other W12 (by omega : b5 ≠ b6))).lt
  have KT13 : Keep h0 T13.heap [] := K12.trans Kc13 (fun x hx => nomatch hx)
  have N13 := Fr.app N12 N13q
  obtain ⟨cl_b5_102, Ar_b5, q_b5, S_b5, N_b5, H_b5, G_b5⟩ := ((V_b5_11.other W12 (by omega : b5 ≠ b6)).keep Kc13 (fun q => nomatch q))
  have hin102 : ¬ ((0 : Int32) < 0 ∨ cl_b5_102.slots.size ≤ ((0 : Int32)).toNatClampNeg) := inb_of S_b5 ⟨by decide, by decide⟩
  obtain ⟨T14, h14, X14, e14, W14, st14⟩ := stB X13 hx hZ rfl Ar_b5 (j := (0 : Int32)) hin102 (g := (mkF m 102 #[.val (.int p1), .val (.int p2), .val (.int p3), .val (.int p4), .val (.int (3 : Int32)), .val (.int B0), .val (.int B1), .val (.int B2), .val (.ref b5), .val (.ref b6), .val (.ref r13), .unset] [(.int ((B0 ^^^ (-1 : Int32)).toInt8.toInt32)), (.int (0 : Int32)), (.ref b5)])) rfl rfl (hb hby at_102)
  have V_b5_14 := Arv.set Ar_b5 q_b5 S_b5 N_b5 H_b5 G_b5 (fits_nar_byte _) W14 0 rfl (Nat.le_of_ble_eq_true rfl)
  replace V_b5_14 : Arv Z h14 b5 k5 .byte (3 : Int32) [(.int (nar .byte ((B0 ^^^ (-1 : Int32)).toInt8.toInt32))), (.int B1), (.int B2)] (.int (0 : Int32)) := V_b5_14
  rw [hC0] at V_b5_14
  have K14 : Keep h0 h14 [] := KT13.wr W14 (Or.inr sz_b5)
  have N14 := Fr.snoc X14 N13 g_b5
  obtain ⟨cl_b5_117, Ar_b5, q_b5, S_b5, N_b5, H_b5, G_b5⟩ := V_b5_14
  have hin117 : ¬ ((1 : Int32) < 0 ∨ cl_b5_117.slots.size ≤ ((1 : Int32)).toNatClampNeg) := inb_of S_b5 ⟨by decide, by decide⟩
  obtain ⟨T15, h15, X15, e15, W15, st15⟩ := stB X14 hx hZ e14 Ar_b5 (j := (1 : Int32)) hin117 (g := (mkF m 117 #[.val (.int p1), .val (.int p2), .val (.int p3), .val (.int p4), .val (.int (3 : Int32)), .val (.int B0), .val (.int B1), .val (.int B2), .val (.ref b5), .val (.ref b6), .val (.ref r13), .unset] [(.int ((B1 ^^^ (-1 : Int32)).toInt8.toInt32)), (.int (1 : Int32)), (.ref b5)])) rfl rfl (hb hby at_117)
  have V_b5_15 := Arv.set Ar_b5 q_b5 S_b5 N_b5 H_b5 G_b5 (fits_nar_byte _) W15 1 rfl (Nat.le_of_ble_eq_true rfl)
  replace V_b5_15 : Arv Z h15 b5 k5 .byte (3 : Int32) [(.int ((B0 ^^^ (-1 : Int32)).toInt8.toInt32)), (.int (nar .byte ((B1 ^^^ (-1 : Int32)).toInt8.toInt32))), (.int B2)] (.int (0 : Int32)) := V_b5_15
  rw [hC1] at V_b5_15
  have K15 : Keep h0 h15 [] := K14.wr W15 (Or.inr sz_b5)
  have N15 := Fr.snoc X15 N14 g_b5
  obtain ⟨cl_b5_132, Ar_b5, q_b5, S_b5, N_b5, H_b5, G_b5⟩ := V_b5_15
  have hin132 : ¬ ((2 : Int32) < 0 ∨ cl_b5_132.slots.size ≤ ((2 : Int32)).toNatClampNeg) := inb_of S_b5 ⟨by decide, by decide⟩
  obtain ⟨T16, h16, X16, e16, W16, st16⟩ := stB X15 hx hZ e15 Ar_b5 (j := (2 : Int32)) hin132 (g := (mkF m 132 #[.val (.int p1), .val (.int p2), .val (.int p3), .val (.int p4), .val (.int (3 : Int32)), .val (.int B0), .val (.int B1), .val (.int B2), .val (.ref b5), .val (.ref b6), .val (.ref r13), .unset] [(.int ((B2 ^^^ (-1 : Int32)).toInt8.toInt32)), (.int (2 : Int32)), (.ref b5)])) rfl rfl (hb hby at_132)
  have V_b5_16 := Arv.set Ar_b5 q_b5 S_b5 N_b5 H_b5 G_b5 (fits_nar_byte _) W16 2 rfl (Nat.le_of_ble_eq_true rfl)
  replace V_b5_16 : Arv Z h16 b5 k5 .byte (3 : Int32) [(.int ((B0 ^^^ (-1 : Int32)).toInt8.toInt32)), (.int ((B1 ^^^ (-1 : Int32)).toInt8.toInt32)), (.int (nar .byte ((B2 ^^^ (-1 : Int32)).toInt8.toInt32)))] (.int (0 : Int32)) := V_b5_16
  rw [hC2] at V_b5_16
  have K16 : Keep h0 h16 [] := K15.wr W16 (Or.inr sz_b5)
  have N16 := Fr.snoc X16 N15 g_b5
  obtain ⟨cq17, kq17, q17a, q17b, q17c⟩ := isOf hZ e16 (((Y_r13.wr W14).wr W15).wr W16)
  have Zc17 : n0 ≤ h16.size := Nat.le_trans Z0 K16.1
  obtain ⟨_, _, ⟨T17, L17, k17, n17⟩, -, X17, ⟨Lc17, hQ17, l17, y17, z17⟩, st17⟩ := X16.virtualBack hx (y := (⟨"com/example/mirrorlog/mirrorlog/core/undo/Bytes", "toArray", "()[B"⟩ : MethodName)) (z := (⟨"com/example/mirrorlog/mirrorlog/core/undo/Bytes", "toArray", "()[B"⟩ : MethodName)) hown (mvT hZ (hw _ (List.mem_of_getElem? (i := 24) rfl))) (mvT hZ (hw _ (List.mem_of_getElem? (i := 25) rfl))) (notFace_of_selects (args := #[]) (mvT hZ (hw _ (List.mem_of_getElem? (i := 27) rfl)))) (mvT hZ (hw _ (List.mem_of_getElem? (i := 27) rfl))) (mvT hZ (hw _ (List.mem_of_getElem? (i := 26) rfl))) (by decide) (backOf (W := 0) (rm4 l Z a0 hw [] r13 c13 h16 n0 Zc17 (((F_r13.other W14 (Or.inl (by omega : r13 ≠ b5))).other W15 (Or.inl (by omega : r13 ≠ b5))).other W16 (Or.inl (by omega : r13 ≠ b5))) (((Y_c13.wr W14).wr W15).wr W16) k5 (3 : Int32) [(.int B0), (.int B1), (.int B2)] (((V_c13.other W14 (by omega : c13 ≠ b5)).other W15 (by omega : c13 ≠ b5)).other W16 (by omega : c13 ≠ b5)) (by decide)) hZ (hw _ (List.mem_of_getElem? (i := 28) rfl)) (hw _ (List.mem_of_getElem? (i := 3) rfl)) (by decide) (by decide)) q17a q17c (g := (mkF m 135 #[.val (.int p1), .val (.int p2), .val (.int p3), .val (.int p4), .val (.int (3 : Int32)), .val (.int B0), .val (.int B1), .val (.int B2), .val (.ref b5), .val (.ref b6), .val (.ref r13), .unset] [(.ref r13)])) rfl (by rw [hml]; rfl) (Steps.refl _) (argsL := []) (rest := []) (lenOf pd_0_4 rfl) rfl (by show 2 * 0 + _ ≤ _; exact Nat.le_of_eq rfl) (hb hby at_135) (fun _ _ => ⟨rfl, e16, (by decide : 4 + 1 ≤ _), (by decide : 10 + 3 ≤ _)⟩)
  dsimp only [Pt.U, Pt.locs, Pt.cells, Pt.slots] at X17 l17 y17 z17 st17 hQ17
  subst l17 y17 z17
  obtain ⟨⟨o17, rfl, V_o17⟩, N17q, Kc17⟩ := hQ17
  obtain ⟨cl_o, Ar_o, -, S_o, N_o, H_o, -⟩ := V_o17
  have KT17 : Keep h0 T17.heap [] := K16.trans Kc17 (fun x hx => nomatch hx)
  have N17 := Fr.app N16 N17q
  have Zc21 : n0 ≤ T17.heap.size := Nat.le_trans Z0 KT17.1
  obtain ⟨_, _, ⟨T21, L21, k21, n21⟩, -, X21, ⟨Lc21, hQ21, l21, y21, z21⟩, st21⟩ := Jvm.LawKit.callS X17 hx (y := (⟨"com/example/mirrorlog/mirrorlog/core/undo/Bytes", "of", "([B)Lcom/example/mirrorlog/mirrorlog/core/undo/Bytes;"⟩ : MethodName)) hown (mvT hZ (hw _ (List.mem_of_getElem? (i := 1) rfl))) (mvT hZ (hw _ (List.mem_of_getElem? (i := 2) rfl))) (mvT hZ (hw _ (List.mem_of_getElem? (i := 3) rfl))) (mvT hZ (hw _ (List.mem_of_getElem? (i := 4) rfl))) (by decide) (backOf (W := 1) (rm1 l Z a0 hw [] b6 T17.heap n0 Zc21 (((((((((((Y6.wr W7).wr W8).wr W9).wr W10).wr W11).wr W12).keep Kc13).wr W14).wr W15).wr W16).keep Kc17) k6 (3 : Int32) [(.int B0), (.int B1), (.int B2)] (((((V_b6_12.keep Kc13 (fun q => nomatch q)).other W14 (by omega : b6 ≠ b5)).other W15 (by omega : b6 ≠ b5)).other W16 (by omega : b6 ≠ b5)).keep Kc17 (fun q => nomatch q)) (by decide)) hZ (hw _ (List.mem_of_getElem? (i := 4) rfl)) (hw _ (List.mem_of_getElem? (i := 3) rfl)) (by decide) (by decide)) (g := (mkF m 204 #[.val (.int p1), .val (.int p2), .val (.int p3), .val (.int p4), .val (.int (3 : Int32)), .val (.int B0), .val (.int B1), .val (.int B2), .val (.ref b5), .val (.ref b6), .val (.ref r13), .val (.ref o17)] [(.ref b6), (.ref r13)])) rfl (by rw [hml]; rfl) (argsL := [(.ref b6)]) (rest := [(.ref r13)]) (lenOf pd_0_0 rfl) rfl (by show 2 * 0 + _ ≤ _; exact Nat.le_of_eq rfl) (hb hby at_204) (fun _ _ => ⟨rfl, rfl, (by decide : 5 + 2 ≤ _), (by decide : 13 + 4 ≤ _)⟩)
  dsimp only [Pt.U, Pt.locs, Pt.cells, Pt.slots] at X21 l21 y21 z21 st21 hQ21
  subst l21 y21 z21
  obtain ⟨⟨r21, c21, rfl, lr21, lc21, Y_r21, F_r21, V_c21, Y_c21⟩, N21q, Kc21⟩ := hQ21
  have lv21 : c13 < T17.heap.size := (((((V_c13.other W14 (by omega : c13 ≠ b5)).other W15 (by omega : c13 ≠ b5)).other W16 (by omega : c13 ≠ b5)).keep Kc17 (fun q => nomatch q))).lt
  have KT21 : Keep h0 T21.heap [] := KT17.trans Kc21 (fun x hx => nomatch hx)
  have N21 := Fr.app N17 N21q
  obtain ⟨cq22, kq22, q22a, q22b, q22c⟩ := isOf hZ rfl (((((Y_r13.wr W14).wr W15).wr W16).keep Kc17).keep Kc21)
  have Zc22 : n0 ≤ T21.heap.size := Nat.le_trans Z0 KT21.1
  obtain ⟨_, _, ⟨T22, L22, k22, n22⟩, -, X22, ⟨Lc22, hQ22, l22, y22, z22⟩, st22⟩ := X21.virtualBack hx (y := (⟨"com/example/mirrorlog/mirrorlog/core/undo/Bytes", "equals", "(Ljava/lang/Object;)Z"⟩ : MethodName)) (z := (⟨"com/example/mirrorlog/mirrorlog/core/undo/Bytes", "equals", "(Ljava/lang/Object;)Z"⟩ : MethodName)) hown (mvT hZ (hw _ (List.mem_of_getElem? (i := 29) rfl))) (mvT hZ (hw _ (List.mem_of_getElem? (i := 30) rfl))) (notFace_of_selects (args := #[]) (mvT hZ (hw _ (List.mem_of_getElem? (i := 32) rfl)))) (mvT hZ (hw _ (List.mem_of_getElem? (i := 32) rfl))) (mvT hZ (hw _ (List.mem_of_getElem? (i := 31) rfl))) (by decide) (backOf (W := 0) (rm5e l Z a0 hw [] r13 r21 c13 c21 k5 k6 (3 : Int32) [(.int B0), (.int B1), (.int B2)] T21.heap n0 Zc22 (Ins.self Y_r21) (((((F_r13.other W14 (Or.inl (by omega : r13 ≠ b5))).other W15 (Or.inl (by omega : r13 ≠ b5))).other W16 (Or.inl (by omega : r13 ≠ b5))).keep Kc17 (fun q => nomatch q)).keep Kc21 (fun q => nomatch q)) F_r21 (Or.inr (Or.inr (Or.inr ⟨_, _, _, rfl, rfl⟩))) (((((V_c13.other W14 (by omega : c13 ≠ b5)).other W15 (by omega : c13 ≠ b5)).other W16 (by omega : c13 ≠ b5)).keep Kc17 (fun q => nomatch q)).keep Kc21 (fun q => nomatch q)) V_c21 (by omega : ¬ (c13 = c21))) hZ (hw _ (List.mem_of_getElem? (i := 33) rfl)) (hw _ (List.mem_of_getElem? (i := 3) rfl)) (by decide) (by decide)) q22a q22c (g := (mkF m 207 #[.val (.int p1), .val (.int p2), .val (.int p3), .val (.int p4), .val (.int (3 : Int32)), .val (.int B0), .val (.int B1), .val (.int B2), .val (.ref b5), .val (.ref b6), .val (.ref r13), .val (.ref o17)] [(.ref r21), (.ref r13)])) rfl (by rw [hml]; rfl) (Steps.refl _) (argsL := [(.ref r21)]) (rest := []) (lenOf pd_0_5 rfl) rfl (by show 2 * 0 + _ ≤ _; exact Nat.le_of_eq rfl) (hb hby at_207) (fun _ _ => ⟨rfl, rfl, (by decide : 7 + 0 ≤ _), (by decide : 17 + 0 ≤ _)⟩)
  dsimp only [Pt.U, Pt.locs, Pt.cells, Pt.slots] at X22 l22 y22 z22 st22 hQ22
  subst l22 y22 z22
  obtain ⟨rfl, N22q, eq22⟩ := hQ22
  have Kc22 : Keep T21.heap T22.heap [] := by rw [eq22]; exact Keep.refl _ []
  have KT22 : Keep h0 T22.heap [] := KT21.trans Kc22 (fun x hx => nomatch hx)
  have N22 := Fr.app N21 N22q
  have Zc23 : n0 ≤ T22.heap.size := Nat.le_trans Z0 KT22.1
  obtain ⟨_, _, ⟨T23, L23, k23, n23⟩, -, X23, ⟨Lc23, hQ23, l23, y23, z23⟩, st23⟩ := Jvm.LawKit.callS X22 hx (y := (⟨"com/example/mirrorlog/mirrorlog/core/undo/Bytes", "of", "([B)Lcom/example/mirrorlog/mirrorlog/core/undo/Bytes;"⟩ : MethodName)) hown (mvT hZ (hw _ (List.mem_of_getElem? (i := 1) rfl))) (mvT hZ (hw _ (List.mem_of_getElem? (i := 2) rfl))) (mvT hZ (hw _ (List.mem_of_getElem? (i := 3) rfl))) (mvT hZ (hw _ (List.mem_of_getElem? (i := 4) rfl))) (by decide) (backOf (W := 1) (rm1 l Z a0 hw [] b5 T22.heap n0 Zc23 ((((((((((((((Y5.ext E6).wr W7).wr W8).wr W9).wr W10).wr W11).wr W12).keep Kc13).wr W14).wr W15).wr W16).keep Kc17).keep Kc21).keep Kc22) k5 (3 : Int32) [(.int ((B0 ^^^ (-1 : Int32)).toInt8.toInt32)), (.int ((B1 ^^^ (-1 : Int32)).toInt8.toInt32)), (.int ((B2 ^^^ (-1 : Int32)).toInt8.toInt32))] (((V_b5_16.keep Kc17 (fun q => nomatch q)).keep Kc21 (fun q => nomatch q)).keep Kc22 (fun q => nomatch q)) (by decide)) hZ (hw _ (List.mem_of_getElem? (i := 4) rfl)) (hw _ (List.mem_of_getElem? (i := 3) rfl)) (by decide) (by decide)) (g := (mkF m 224 #[.val (.int p1), .val (.int p2), .val (.int p3), .val (.int p4), .val (.int (3 : Int32)), .val (.int B0), .val (.int B1), .val (.int B2), .val (.ref b5), .val (.ref b6), .val (.ref r13), .val (.ref o17)] [(.ref b5), (.ref r13)])) rfl (by rw [hml]; rfl) (argsL := [(.ref b5)]) (rest := [(.ref r13)]) (lenOf pd_0_0 rfl) rfl (by show 2 * 0 + _ ≤ _; exact Nat.le_of_eq rfl) (hb hby at_224) (fun _ _ => ⟨rfl, rfl, (by decide : 7 + 2 ≤ _), (by decide : 17 + 4 ≤ _)⟩)
  dsimp only [Pt.U, Pt.locs, Pt.cells, Pt.slots] at X23 l23 y23 z23 st23 hQ23
  subst l23 y23 z23
  obtain ⟨⟨r23, c23, rfl, lr23, lc23, Y_r23, F_r23, V_c23, Y_c23⟩, N23q, Kc23⟩ := hQ23
  have lv23 : c13 < T22.heap.size := (((((((V_c13.other W14 (by omega : c13 ≠ b5)).other W15 (by omega : c13 ≠ b5)).other W16 (by omega : c13 ≠ b5)).keep Kc17 (fun q => nomatch q)).keep Kc21 (fun q => nomatch q)).keep Kc22 (fun q => nomatch q))).lt
  have KT23 : Keep h0 T23.heap [] := KT22.trans Kc23 (fun x hx => nomatch hx)
  have N23 := Fr.app N22 N23q
  obtain ⟨cq24, kq24, q24a, q24b, q24c⟩ := isOf hZ rfl (((((((Y_r13.wr W14).wr W15).wr W16).keep Kc17).keep Kc21).keep Kc22).keep Kc23)
  have Zc24 : n0 ≤ T23.heap.size := Nat.le_trans Z0 KT23.1
  obtain ⟨_, _, ⟨T24, L24, k24, n24⟩, -, X24, ⟨Lc24, hQ24, l24, y24, z24⟩, st24⟩ := X23.virtualBack hx (y := (⟨"com/example/mirrorlog/mirrorlog/core/undo/Bytes", "equals", "(Ljava/lang/Object;)Z"⟩ : MethodName)) (z := (⟨"com/example/mirrorlog/mirrorlog/core/undo/Bytes", "equals", "(Ljava/lang/Object;)Z"⟩ : MethodName)) hown (mvT hZ (hw _ (List.mem_of_getElem? (i := 29) rfl))) (mvT hZ (hw _ (List.mem_of_getElem? (i := 30) rfl))) (notFace_of_selects (args := #[]) (mvT hZ (hw _ (List.mem_of_getElem? (i := 32) rfl)))) (mvT hZ (hw _ (List.mem_of_getElem? (i := 32) rfl))) (mvT hZ (hw _ (List.mem_of_getElem? (i := 31) rfl))) (by decide) (backOf (W := 0) (rm5n l Z a0 hw [] r13 r23 c13 c23 k5 k5 (3 : Int32) B0 ((B0 ^^^ (-1 : Int32)).toInt8.toInt32) [(.int B1), (.int B2)] [(.int ((B1 ^^^ (-1 : Int32)).toInt8.toInt32)), (.int ((B2 ^^^ (-1 : Int32)).toInt8.toInt32))] T23.heap n0 Zc24 (Ins.self Y_r23) (((((((F_r13.other W14 (Or.inl (by omega : r13 ≠ b5))).other W15 (Or.inl (by omega : r13 ≠ b5))).other W16 (Or.inl (by omega : r13 ≠ b5))).keep Kc17 (fun q => nomatch q)).keep Kc21 (fun q => nomatch q)).keep Kc22 (fun q => nomatch q)).keep Kc23 (fun q => nomatch q)) F_r23 (by decide) (by decide) (own_comp B0 hB0) (((((((V_c13.other W14 (by omega : c13 ≠ b5)).other W15 (by omega : c13 ≠ b5)).other W16 (by omega : c13 ≠ b5)).keep Kc17 (fun q => nomatch q)).keep Kc21 (fun q => nomatch q)).keep Kc22 (fun q => nomatch q)).keep Kc23 (fun q => nomatch q)) V_c23 (by omega : ¬ (c13 = c23))) hZ (hw _ (List.mem_of_getElem? (i := 33) rfl)) (hw _ (List.mem_of_getElem? (i := 3) rfl)) (by decide) (by decide)) q24a q24c (g := (mkF m 227 #[.val (.int p1), .val (.int p2), .val (.int p3), .val (.int p4), .val (.int (3 : Int32)), .val (.int B0), .val (.int B1), .val (.int B2), .val (.ref b5), .val (.ref b6), .val (.ref r13), .val (.ref o17)] [(.ref r23), (.ref r13)])) rfl (by rw [hml]; rfl) (Steps.refl _) (argsL := [(.ref r23)]) (rest := []) (lenOf pd_0_5 rfl) rfl (by show 2 * 0 + _ ≤ _; exact Nat.le_of_eq rfl) (hb hby at_227) (fun _ _ => ⟨rfl, rfl, (by decide : 9 + 0 ≤ _), (by decide : 21 + 0 ≤ _)⟩)
  dsimp only [Pt.U, Pt.locs, Pt.cells, Pt.slots] at X24 l24 y24 z24 st24 hQ24
  subst l24 y24 z24
  obtain ⟨rfl, N24q, eq24⟩ := hQ24
  have Kc24 : Keep T23.heap T24.heap [] := by rw [eq24]; exact Keep.refl _ []
  have KT24 : Keep h0 T24.heap [] := KT23.trans Kc24 (fun x hx => nomatch hx)
  have N24 := Fr.app N23 N24q
  obtain ⟨fs, hr, hrun, hended, hW, hsame⟩ := X24.leave (v := some (.int (1 : Int32))) (fun h => by rw [Bd.returns] at h; cases h)
  refine ⟨_, _, pre0 _ ?_, hrun, hended, _, _, rfl, ?_, ⟨_, rfl⟩, hW, hsame.mono (by decide) (by decide)⟩
  · show Steps p.tables e below (s₁.setTop (mkF m 17 #[.val (.int p1), .val (.int p2), .val (.int p3), .val (.int p4), .val (.int (3 : Int32)), .val (.int B0), .val (.int B1), .val (.int B2), .unset, .unset, .unset, .unset] [])) _
    refine XS.iload X0.here hx rfl (hb hby at_17) rfl ?_
    show Steps p.tables e below (s₁.setTop (mkF m 19 #[.val (.int p1), .val (.int p2), .val (.int p3), .val (.int p4), .val (.int (3 : Int32)), .val (.int B0), .val (.int B1), .val (.int B2), .unset, .unset, .unset, .unset] [(.int (3 : Int32))])) _
    refine st5 _ ?_
    show Steps p.tables e below (T5.setTop (mkF m 21 #[.val (.int p1), .val (.int p2), .val (.int p3), .val (.int p4), .val (.int (3 : Int32)), .val (.int B0), .val (.int B1), .val (.int B2), .unset, .unset, .unset, .unset] [(.ref b5)])) _
    refine XS.astore X5.here hx rfl (hb hby at_21) rfl rfl (l' := #[.val (.int p1), .val (.int p2), .val (.int p3), .val (.int p4), .val (.int (3 : Int32)), .val (.int B0), .val (.int B1), .val (.int B2), .val (.ref b5), .unset, .unset, .unset]) rfl ?_
    show Steps p.tables e below (T5.setTop (mkF m 23 #[.val (.int p1), .val (.int p2), .val (.int p3), .val (.int p4), .val (.int (3 : Int32)), .val (.int B0), .val (.int B1), .val (.int B2), .val (.ref b5), .unset, .unset, .unset] [])) _
    refine XS.iload X5.here hx rfl (hb hby at_23) rfl ?_
    show Steps p.tables e below (T5.setTop (mkF m 25 #[.val (.int p1), .val (.int p2), .val (.int p3), .val (.int p4), .val (.int (3 : Int32)), .val (.int B0), .val (.int B1), .val (.int B2), .val (.ref b5), .unset, .unset, .unset] [(.int (3 : Int32))])) _
    refine st6 _ ?_
    show Steps p.tables e below (T6.setTop (mkF m 27 #[.val (.int p1), .val (.int p2), .val (.int p3), .val (.int p4), .val (.int (3 : Int32)), .val (.int B0), .val (.int B1), .val (.int B2), .val (.ref b5), .unset, .unset, .unset] [(.ref b6)])) _
    refine XS.astore X6.here hx rfl (hb hby at_27) rfl rfl (l' := #[.val (.int p1), .val (.int p2), .val (.int p3), .val (.int p4), .val (.int (3 : Int32)), .val (.int B0), .val (.int B1), .val (.int B2), .val (.ref b5), .val (.ref b6), .unset, .unset]) rfl ?_
    show Steps p.tables e below (T6.setTop (mkF m 29 #[.val (.int p1), .val (.int p2), .val (.int p3), .val (.int p4), .val (.int (3 : Int32)), .val (.int B0), .val (.int B1), .val (.int B2), .val (.ref b5), .val (.ref b6), .unset, .unset] [])) _
    refine XS.iload X6.here hx rfl (hb hby at_29) rfl ?_
    show Steps p.tables e below (T6.setTop (mkF m 31 #[.val (.int p1), .val (.int p2), .val (.int p3), .val (.int p4), .val (.int (3 : Int32)), .val (.int B0), .val (.int B1), .val (.int B2), .val (.ref b5), .val (.ref b6), .unset, .unset] [(.int (3 : Int32))])) _
    refine XS.ifNo X6.here hx rfl (hb hby at_31) rfl ((if0 _ _).trans (tlt (by decide)).2.2.2) ?_
    show Steps p.tables e below (T6.setTop (mkF m 34 #[.val (.int p1), .val (.int p2), .val (.int p3), .val (.int p4), .val (.int (3 : Int32)), .val (.int B0), .val (.int B1), .val (.int B2), .val (.ref b5), .val (.ref b6), .unset, .unset] [])) _
    refine XS.aload X6.here hx rfl (hb hby at_34) rfl rfl ?_
    show Steps p.tables e below (T6.setTop (mkF m 36 #[.val (.int p1), .val (.int p2), .val (.int p3), .val (.int p4), .val (.int (3 : Int32)), .val (.int B0), .val (.int B1), .val (.int B2), .val (.ref b5), .val (.ref b6), .unset, .unset] [(.ref b5)])) _
    refine XS.iconst X6.here hx rfl (hb hby at_36) ?_
    show Steps p.tables e below (T6.setTop (mkF m 37 #[.val (.int p1), .val (.int p2), .val (.int p3), .val (.int p4), .val (.int (3 : Int32)), .val (.int B0), .val (.int B1), .val (.int B2), .val (.ref b5), .val (.ref b6), .unset, .unset] [(.int (0 : Int32)), (.ref b5)])) _
    refine XS.iload X6.here hx rfl (hb hby at_37) rfl ?_
    show Steps p.tables e below (T6.setTop (mkF m 39 #[.val (.int p1), .val (.int p2), .val (.int p3), .val (.int p4), .val (.int (3 : Int32)), .val (.int B0), .val (.int B1), .val (.int B2), .val (.ref b5), .val (.ref b6), .unset, .unset] [(.int B0), (.int (0 : Int32)), (.ref b5)])) _
    refine st7 _ ?_
    show Steps p.tables e below (T7.setTop (mkF m 40 #[.val (.int p1), .val (.int p2), .val (.int p3), .val (.int p4), .val (.int (3 : Int32)), .val (.int B0), .val (.int B1), .val (.int B2), .val (.ref b5), .val (.ref b6), .unset, .unset] [])) _
    refine XS.aload X7.here hx rfl (hb hby at_40) rfl rfl ?_
    show Steps p.tables e below (T7.setTop (mkF m 42 #[.val (.int p1), .val (.int p2), .val (.int p3), .val (.int p4), .val (.int (3 : Int32)), .val (.int B0), .val (.int B1), .val (.int B2), .val (.ref b5), .val (.ref b6), .unset, .unset] [(.ref b6)])) _
    refine XS.iconst X7.here hx rfl (hb hby at_42) ?_
    show Steps p.tables e below (T7.setTop (mkF m 43 #[.val (.int p1), .val (.int p2), .val (.int p3), .val (.int p4), .val (.int (3 : Int32)), .val (.int B0), .val (.int B1), .val (.int B2), .val (.ref b5), .val (.ref b6), .unset, .unset] [(.int (0 : Int32)), (.ref b6)])) _
    refine XS.iload X7.here hx rfl (hb hby at_43) rfl ?_
    show Steps p.tables e below (T7.setTop (mkF m 45 #[.val (.int p1), .val (.int p2), .val (.int p3), .val (.int p4), .val (.int (3 : Int32)), .val (.int B0), .val (.int B1), .val (.int B2), .val (.ref b5), .val (.ref b6), .unset, .unset] [(.int B0), (.int (0 : Int32)), (.ref b6)])) _
    refine st8 _ ?_
    show Steps p.tables e below (T8.setTop (mkF m 46 #[.val (.int p1), .val (.int p2), .val (.int p3), .val (.int p4), .val (.int (3 : Int32)), .val (.int B0), .val (.int B1), .val (.int B2), .val (.ref b5), .val (.ref b6), .unset, .unset] [])) _
    refine XS.iload X8.here hx rfl (hb hby at_46) rfl ?_
    show Steps p.tables e below (T8.setTop (mkF m 48 #[.val (.int p1), .val (.int p2), .val (.int p3), .val (.int p4), .val (.int (3 : Int32)), .val (.int B0), .val (.int B1), .val (.int B2), .val (.ref b5), .val (.ref b6), .unset, .unset] [(.int (3 : Int32))])) _
    refine XS.iconst X8.here hx rfl (hb hby at_48) ?_
    show Steps p.tables e below (T8.setTop (mkF m 49 #[.val (.int p1), .val (.int p2), .val (.int p3), .val (.int p4), .val (.int (3 : Int32)), .val (.int B0), .val (.int B1), .val (.int B2), .val (.ref b5), .val (.ref b6), .unset, .unset] [(.int (1 : Int32)), (.int (3 : Int32))])) _
    refine XS.icmpNo X8.here hx rfl (hb hby at_49) rfl (tlt (by decide)).2.2.2 ?_
    show Steps p.tables e below (T8.setTop (mkF m 52 #[.val (.int p1), .val (.int p2), .val (.int p3), .val (.int p4), .val (.int (3 : Int32)), .val (.int B0), .val (.int B1), .val (.int B2), .val (.ref b5), .val (.ref b6), .unset, .unset] [])) _
    refine XS.aload X8.here hx rfl (hb hby at_52) rfl rfl ?_
    show Steps p.tables e below (T8.setTop (mkF m 54 #[.val (.int p1), .val (.int p2), .val (.int p3), .val (.int p4), .val (.int (3 : Int32)), .val (.int B0), .val (.int B1), .val (.int B2), .val (.ref b5), .val (.ref b6), .unset, .unset] [(.ref b5)])) _
    refine XS.iconst X8.here hx rfl (hb hby at_54) ?_
    show Steps p.tables e below (T8.setTop (mkF m 55 #[.val (.int p1), .val (.int p2), .val (.int p3), .val (.int p4), .val (.int (3 : Int32)), .val (.int B0), .val (.int B1), .val (.int B2), .val (.ref b5), .val (.ref b6), .unset, .unset] [(.int (1 : Int32)), (.ref b5)])) _
    refine XS.iload X8.here hx rfl (hb hby at_55) rfl ?_
    show Steps p.tables e below (T8.setTop (mkF m 57 #[.val (.int p1), .val (.int p2), .val (.int p3), .val (.int p4), .val (.int (3 : Int32)), .val (.int B0), .val (.int B1), .val (.int B2), .val (.ref b5), .val (.ref b6), .unset, .unset] [(.int B1), (.int (1 : Int32)), (.ref b5)])) _
    refine st9 _ ?_
    show Steps p.tables e below (T9.setTop (mkF m 58 #[.val (.int p1), .val (.int p2), .val (.int p3), .val (.int p4), .val (.int (3 : Int32)), .val (.int B0), .val (.int B1), .val (.int B2), .val (.ref b5), .val (.ref b6), .unset, .unset] [])) _
    refine XS.aload X9.here hx rfl (hb hby at_58) rfl rfl ?_
    show Steps p.tables e below (T9.setTop (mkF m 60 #[.val (.int p1), .val (.int p2), .val (.int p3), .val (.int p4), .val (.int (3 : Int32)), .val (.int B0), .val (.int B1), .val (.int B2), .val (.ref b5), .val (.ref b6), .unset, .unset] [(.ref b6)])) _
    refine XS.iconst X9.here hx rfl (hb hby at_60) ?_
    show Steps p.tables e below (T9.setTop (mkF m 61 #[.val (.int p1), .val (.int p2), .val (.int p3), .val (.int p4), .val (.int (3 : Int32)), .val (.int B0), .val (.int B1), .val (.int B2), .val (.ref b5), .val (.ref b6), .unset, .unset] [(.int (1 : Int32)), (.ref b6)])) _
    refine XS.iload X9.here hx rfl (hb hby at_61) rfl ?_
    show Steps p.tables e below (T9.setTop (mkF m 63 #[.val (.int p1), .val (.int p2), .val (.int p3), .val (.int p4), .val (.int (3 : Int32)), .val (.int B0), .val (.int B1), .val (.int B2), .val (.ref b5), .val (.ref b6), .unset, .unset] [(.int B1), (.int (1 : Int32)), (.ref b6)])) _
    refine st10 _ ?_
    show Steps p.tables e below (T10.setTop (mkF m 64 #[.val (.int p1), .val (.int p2), .val (.int p3), .val (.int p4), .val (.int (3 : Int32)), .val (.int B0), .val (.int B1), .val (.int B2), .val (.ref b5), .val (.ref b6), .unset, .unset] [])) _
    refine XS.iload X10.here hx rfl (hb hby at_64) rfl ?_
    show Steps p.tables e below (T10.setTop (mkF m 66 #[.val (.int p1), .val (.int p2), .val (.int p3), .val (.int p4), .val (.int (3 : Int32)), .val (.int B0), .val (.int B1), .val (.int B2), .val (.ref b5), .val (.ref b6), .unset, .unset] [(.int (3 : Int32))])) _
    refine XS.iconst X10.here hx rfl (hb hby at_66) ?_
    show Steps p.tables e below (T10.setTop (mkF m 67 #[.val (.int p1), .val (.int p2), .val (.int p3), .val (.int p4), .val (.int (3 : Int32)), .val (.int B0), .val (.int B1), .val (.int B2), .val (.ref b5), .val (.ref b6), .unset, .unset] [(.int (2 : Int32)), (.int (3 : Int32))])) _
    refine XS.icmpNo X10.here hx rfl (hb hby at_67) rfl (tlt (by decide)).2.2.2 ?_
    show Steps p.tables e below (T10.setTop (mkF m 70 #[.val (.int p1), .val (.int p2), .val (.int p3), .val (.int p4), .val (.int (3 : Int32)), .val (.int B0), .val (.int B1), .val (.int B2), .val (.ref b5), .val (.ref b6), .unset, .unset] [])) _
    refine XS.aload X10.here hx rfl (hb hby at_70) rfl rfl ?_
    show Steps p.tables e below (T10.setTop (mkF m 72 #[.val (.int p1), .val (.int p2), .val (.int p3), .val (.int p4), .val (.int (3 : Int32)), .val (.int B0), .val (.int B1), .val (.int B2), .val (.ref b5), .val (.ref b6), .unset, .unset] [(.ref b5)])) _
    refine XS.iconst X10.here hx rfl (hb hby at_72) ?_
    show Steps p.tables e below (T10.setTop (mkF m 73 #[.val (.int p1), .val (.int p2), .val (.int p3), .val (.int p4), .val (.int (3 : Int32)), .val (.int B0), .val (.int B1), .val (.int B2), .val (.ref b5), .val (.ref b6), .unset, .unset] [(.int (2 : Int32)), (.ref b5)])) _
    refine XS.iload X10.here hx rfl (hb hby at_73) rfl ?_
    show Steps p.tables e below (T10.setTop (mkF m 75 #[.val (.int p1), .val (.int p2), .val (.int p3), .val (.int p4), .val (.int (3 : Int32)), .val (.int B0), .val (.int B1), .val (.int B2), .val (.ref b5), .val (.ref b6), .unset, .unset] [(.int B2), (.int (2 : Int32)), (.ref b5)])) _
    refine st11 _ ?_
    show Steps p.tables e below (T11.setTop (mkF m 76 #[.val (.int p1), .val (.int p2), .val (.int p3), .val (.int p4), .val (.int (3 : Int32)), .val (.int B0), .val (.int B1), .val (.int B2), .val (.ref b5), .val (.ref b6), .unset, .unset] [])) _
    refine XS.aload X11.here hx rfl (hb hby at_76) rfl rfl ?_
    show Steps p.tables e below (T11.setTop (mkF m 78 #[.val (.int p1), .val (.int p2), .val (.int p3), .val (.int p4), .val (.int (3 : Int32)), .val (.int B0), .val (.int B1), .val (.int B2), .val (.ref b5), .val (.ref b6), .unset, .unset] [(.ref b6)])) _
    refine XS.iconst X11.here hx rfl (hb hby at_78) ?_
    show Steps p.tables e below (T11.setTop (mkF m 79 #[.val (.int p1), .val (.int p2), .val (.int p3), .val (.int p4), .val (.int (3 : Int32)), .val (.int B0), .val (.int B1), .val (.int B2), .val (.ref b5), .val (.ref b6), .unset, .unset] [(.int (2 : Int32)), (.ref b6)])) _
    refine XS.iload X11.here hx rfl (hb hby at_79) rfl ?_
    show Steps p.tables e below (T11.setTop (mkF m 81 #[.val (.int p1), .val (.int p2), .val (.int p3), .val (.int p4), .val (.int (3 : Int32)), .val (.int B0), .val (.int B1), .val (.int B2), .val (.ref b5), .val (.ref b6), .unset, .unset] [(.int B2), (.int (2 : Int32)), (.ref b6)])) _
    refine st12 _ ?_
    show Steps p.tables e below (T12.setTop (mkF m 82 #[.val (.int p1), .val (.int p2), .val (.int p3), .val (.int p4), .val (.int (3 : Int32)), .val (.int B0), .val (.int B1), .val (.int B2), .val (.ref b5), .val (.ref b6), .unset, .unset] [])) _
    refine XS.aload X12.here hx rfl (hb hby at_82) rfl rfl ?_
    show Steps p.tables e below (T12.setTop (mkF m 84 #[.val (.int p1), .val (.int p2), .val (.int p3), .val (.int p4), .val (.int (3 : Int32)), .val (.int B0), .val (.int B1), .val (.int B2), .val (.ref b5), .val (.ref b6), .unset, .unset] [(.ref b5)])) _
    refine st13 _ ?_
    show Steps p.tables e below (T13.setTop (mkF m 87 #[.val (.int p1), .val (.int p2), .val (.int p3), .val (.int p4), .val (.int (3 : Int32)), .val (.int B0), .val (.int B1), .val (.int B2), .val (.ref b5), .val (.ref b6), .unset, .unset] [(.ref r13)])) _
    refine XS.astore X13.here hx rfl (hb hby at_87) rfl rfl (l' := #[.val (.int p1), .val (.int p2), .val (.int p3), .val (.int p4), .val (.int (3 : Int32)), .val (.int B0), .val (.int B1), .val (.int B2), .val (.ref b5), .val (.ref b6), .val (.ref r13), .unset]) rfl ?_
    show Steps p.tables e below (T13.setTop (mkF m 89 #[.val (.int p1), .val (.int p2), .val (.int p3), .val (.int p4), .val (.int (3 : Int32)), .val (.int B0), .val (.int B1), .val (.int B2), .val (.ref b5), .val (.ref b6), .val (.ref r13), .unset] [])) _
    refine XS.iload X13.here hx rfl (hb hby at_89) rfl ?_
    show Steps p.tables e below (T13.setTop (mkF m 91 #[.val (.int p1), .val (.int p2), .val (.int p3), .val (.int p4), .val (.int (3 : Int32)), .val (.int B0), .val (.int B1), .val (.int B2), .val (.ref b5), .val (.ref b6), .val (.ref r13), .unset] [(.int (3 : Int32))])) _
    refine XS.ifNo X13.here hx rfl (hb hby at_91) rfl ((if0 _ _).trans (tlt (by decide)).2.2.2) ?_
    show Steps p.tables e below (T13.setTop (mkF m 94 #[.val (.int p1), .val (.int p2), .val (.int p3), .val (.int p4), .val (.int (3 : Int32)), .val (.int B0), .val (.int B1), .val (.int B2), .val (.ref b5), .val (.ref b6), .val (.ref r13), .unset] [])) _
    refine XS.aload X13.here hx rfl (hb hby at_94) rfl rfl ?_
    show Steps p.tables e below (T13.setTop (mkF m 96 #[.val (.int p1), .val (.int p2), .val (.int p3), .val (.int p4), .val (.int (3 : Int32)), .val (.int B0), .val (.int B1), .val (.int B2), .val (.ref b5), .val (.ref b6), .val (.ref r13), .unset] [(.ref b5)])) _
    refine XS.iconst X13.here hx rfl (hb hby at_96) ?_
    show Steps p.tables e below (T13.setTop (mkF m 97 #[.val (.int p1), .val (.int p2), .val (.int p3), .val (.int p4), .val (.int (3 : Int32)), .val (.int B0), .val (.int B1), .val (.int B2), .val (.ref b5), .val (.ref b6), .val (.ref r13), .unset] [(.int (0 : Int32)), (.ref b5)])) _
    refine XS.iload X13.here hx rfl (hb hby at_97) rfl ?_
    show Steps p.tables e below (T13.setTop (mkF m 99 #[.val (.int p1), .val (.int p2), .val (.int p3), .val (.int p4), .val (.int (3 : Int32)), .val (.int B0), .val (.int B1), .val (.int B2), .val (.ref b5), .val (.ref b6), .val (.ref r13), .unset] [(.int B0), (.int (0 : Int32)), (.ref b5)])) _
    refine XS.iconst X13.here hx rfl (hb hby at_99) ?_
    show Steps p.tables e below (T13.setTop (mkF m 100 #[.val (.int p1), .val (.int p2), .val (.int p3), .val (.int p4), .val (.int (3 : Int32)), .val (.int B0), .val (.int B1), .val (.int B2), .val (.ref b5), .val (.ref b6), .val (.ref r13), .unset] [(.int (-1 : Int32)), (.int B0), (.int (0 : Int32)), (.ref b5)])) _
    refine XS.ixor X13.here hx rfl (hb hby at_100) rfl ?_
    show Steps p.tables e below (T13.setTop (mkF m 101 #[.val (.int p1), .val (.int p2), .val (.int p3), .val (.int p4), .val (.int (3 : Int32)), .val (.int B0), .val (.int B1), .val (.int B2), .val (.ref b5), .val (.ref b6), .val (.ref r13), .unset] [(.int (B0 ^^^ (-1 : Int32))), (.int (0 : Int32)), (.ref b5)])) _
    refine XS.i2b X13.here hx rfl (hb hby at_101) rfl ?_
    show Steps p.tables e below (T13.setTop (mkF m 102 #[.val (.int p1), .val (.int p2), .val (.int p3), .val (.int p4), .val (.int (3 : Int32)), .val (.int B0), .val (.int B1), .val (.int B2), .val (.ref b5), .val (.ref b6), .val (.ref r13), .unset] [(.int ((B0 ^^^ (-1 : Int32)).toInt8.toInt32)), (.int (0 : Int32)), (.ref b5)])) _
    refine st14 _ ?_
    show Steps p.tables e below (T14.setTop (mkF m 103 #[.val (.int p1), .val (.int p2), .val (.int p3), .val (.int p4), .val (.int (3 : Int32)), .val (.int B0), .val (.int B1), .val (.int B2), .val (.ref b5), .val (.ref b6), .val (.ref r13), .unset] [])) _
    refine XS.iload X14.here hx rfl (hb hby at_103) rfl ?_
    show Steps p.tables e below (T14.setTop (mkF m 105 #[.val (.int p1), .val (.int p2), .val (.int p3), .val (.int p4), .val (.int (3 : Int32)), .val (.int B0), .val (.int B1), .val (.int B2), .val (.ref b5), .val (.ref b6), .val (.ref r13), .unset] [(.int (3 : Int32))])) _
    refine XS.iconst X14.here hx rfl (hb hby at_105) ?_
    show Steps p.tables e below (T14.setTop (mkF m 106 #[.val (.int p1), .val (.int p2), .val (.int p3), .val (.int p4), .val (.int (3 : Int32)), .val (.int B0), .val (.int B1), .val (.int B2), .val (.ref b5), .val (.ref b6), .val (.ref r13), .unset] [(.int (1 : Int32)), (.int (3 : Int32))])) _
    refine XS.icmpNo X14.here hx rfl (hb hby at_106) rfl (tlt (by decide)).2.2.2 ?_
    show Steps p.tables e below (T14.setTop (mkF m 109 #[.val (.int p1), .val (.int p2), .val (.int p3), .val (.int p4), .val (.int (3 : Int32)), .val (.int B0), .val (.int B1), .val (.int B2), .val (.ref b5), .val (.ref b6), .val (.ref r13), .unset] [])) _
    refine XS.aload X14.here hx rfl (hb hby at_109) rfl rfl ?_
    show Steps p.tables e below (T14.setTop (mkF m 111 #[.val (.int p1), .val (.int p2), .val (.int p3), .val (.int p4), .val (.int (3 : Int32)), .val (.int B0), .val (.int B1), .val (.int B2), .val (.ref b5), .val (.ref b6), .val (.ref r13), .unset] [(.ref b5)])) _
    refine XS.iconst X14.here hx rfl (hb hby at_111) ?_
    show Steps p.tables e below (T14.setTop (mkF m 112 #[.val (.int p1), .val (.int p2), .val (.int p3), .val (.int p4), .val (.int (3 : Int32)), .val (.int B0), .val (.int B1), .val (.int B2), .val (.ref b5), .val (.ref b6), .val (.ref r13), .unset] [(.int (1 : Int32)), (.ref b5)])) _
    refine XS.iload X14.here hx rfl (hb hby at_112) rfl ?_
    show Steps p.tables e below (T14.setTop (mkF m 114 #[.val (.int p1), .val (.int p2), .val (.int p3), .val (.int p4), .val (.int (3 : Int32)), .val (.int B0), .val (.int B1), .val (.int B2), .val (.ref b5), .val (.ref b6), .val (.ref r13), .unset] [(.int B1), (.int (1 : Int32)), (.ref b5)])) _
    refine XS.iconst X14.here hx rfl (hb hby at_114) ?_
    show Steps p.tables e below (T14.setTop (mkF m 115 #[.val (.int p1), .val (.int p2), .val (.int p3), .val (.int p4), .val (.int (3 : Int32)), .val (.int B0), .val (.int B1), .val (.int B2), .val (.ref b5), .val (.ref b6), .val (.ref r13), .unset] [(.int (-1 : Int32)), (.int B1), (.int (1 : Int32)), (.ref b5)])) _
    refine XS.ixor X14.here hx rfl (hb hby at_115) rfl ?_
    show Steps p.tables e below (T14.setTop (mkF m 116 #[.val (.int p1), .val (.int p2), .val (.int p3), .val (.int p4), .val (.int (3 : Int32)), .val (.int B0), .val (.int B1), .val (.int B2), .val (.ref b5), .val (.ref b6), .val (.ref r13), .unset] [(.int (B1 ^^^ (-1 : Int32))), (.int (1 : Int32)), (.ref b5)])) _
    refine XS.i2b X14.here hx rfl (hb hby at_116) rfl ?_
    show Steps p.tables e below (T14.setTop (mkF m 117 #[.val (.int p1), .val (.int p2), .val (.int p3), .val (.int p4), .val (.int (3 : Int32)), .val (.int B0), .val (.int B1), .val (.int B2), .val (.ref b5), .val (.ref b6), .val (.ref r13), .unset] [(.int ((B1 ^^^ (-1 : Int32)).toInt8.toInt32)), (.int (1 : Int32)), (.ref b5)])) _
    refine st15 _ ?_
    show Steps p.tables e below (T15.setTop (mkF m 118 #[.val (.int p1), .val (.int p2), .val (.int p3), .val (.int p4), .val (.int (3 : Int32)), .val (.int B0), .val (.int B1), .val (.int B2), .val (.ref b5), .val (.ref b6), .val (.ref r13), .unset] [])) _
    refine XS.iload X15.here hx rfl (hb hby at_118) rfl ?_
    show Steps p.tables e below (T15.setTop (mkF m 120 #[.val (.int p1), .val (.int p2), .val (.int p3), .val (.int p4), .val (.int (3 : Int32)), .val (.int B0), .val (.int B1), .val (.int B2), .val (.ref b5), .val (.ref b6), .val (.ref r13), .unset] [(.int (3 : Int32))])) _
    refine XS.iconst X15.here hx rfl (hb hby at_120) ?_
    show Steps p.tables e below (T15.setTop (mkF m 121 #[.val (.int p1), .val (.int p2), .val (.int p3), .val (.int p4), .val (.int (3 : Int32)), .val (.int B0), .val (.int B1), .val (.int B2), .val (.ref b5), .val (.ref b6), .val (.ref r13), .unset] [(.int (2 : Int32)), (.int (3 : Int32))])) _
    refine XS.icmpNo X15.here hx rfl (hb hby at_121) rfl (tlt (by decide)).2.2.2 ?_
    show Steps p.tables e below (T15.setTop (mkF m 124 #[.val (.int p1), .val (.int p2), .val (.int p3), .val (.int p4), .val (.int (3 : Int32)), .val (.int B0), .val (.int B1), .val (.int B2), .val (.ref b5), .val (.ref b6), .val (.ref r13), .unset] [])) _
    refine XS.aload X15.here hx rfl (hb hby at_124) rfl rfl ?_
    show Steps p.tables e below (T15.setTop (mkF m 126 #[.val (.int p1), .val (.int p2), .val (.int p3), .val (.int p4), .val (.int (3 : Int32)), .val (.int B0), .val (.int B1), .val (.int B2), .val (.ref b5), .val (.ref b6), .val (.ref r13), .unset] [(.ref b5)])) _
    refine XS.iconst X15.here hx rfl (hb hby at_126) ?_
    show Steps p.tables e below (T15.setTop (mkF m 127 #[.val (.int p1), .val (.int p2), .val (.int p3), .val (.int p4), .val (.int (3 : Int32)), .val (.int B0), .val (.int B1), .val (.int B2), .val (.ref b5), .val (.ref b6), .val (.ref r13), .unset] [(.int (2 : Int32)), (.ref b5)])) _
    refine XS.iload X15.here hx rfl (hb hby at_127) rfl ?_
    show Steps p.tables e below (T15.setTop (mkF m 129 #[.val (.int p1), .val (.int p2), .val (.int p3), .val (.int p4), .val (.int (3 : Int32)), .val (.int B0), .val (.int B1), .val (.int B2), .val (.ref b5), .val (.ref b6), .val (.ref r13), .unset] [(.int B2), (.int (2 : Int32)), (.ref b5)])) _
    refine XS.iconst X15.here hx rfl (hb hby at_129) ?_
    show Steps p.tables e below (T15.setTop (mkF m 130 #[.val (.int p1), .val (.int p2), .val (.int p3), .val (.int p4), .val (.int (3 : Int32)), .val (.int B0), .val (.int B1), .val (.int B2), .val (.ref b5), .val (.ref b6), .val (.ref r13), .unset] [(.int (-1 : Int32)), (.int B2), (.int (2 : Int32)), (.ref b5)])) _
    refine XS.ixor X15.here hx rfl (hb hby at_130) rfl ?_
    show Steps p.tables e below (T15.setTop (mkF m 131 #[.val (.int p1), .val (.int p2), .val (.int p3), .val (.int p4), .val (.int (3 : Int32)), .val (.int B0), .val (.int B1), .val (.int B2), .val (.ref b5), .val (.ref b6), .val (.ref r13), .unset] [(.int (B2 ^^^ (-1 : Int32))), (.int (2 : Int32)), (.ref b5)])) _
    refine XS.i2b X15.here hx rfl (hb hby at_131) rfl ?_
    show Steps p.tables e below (T15.setTop (mkF m 132 #[.val (.int p1), .val (.int p2), .val (.int p3), .val (.int p4), .val (.int (3 : Int32)), .val (.int B0), .val (.int B1), .val (.int B2), .val (.ref b5), .val (.ref b6), .val (.ref r13), .unset] [(.int ((B2 ^^^ (-1 : Int32)).toInt8.toInt32)), (.int (2 : Int32)), (.ref b5)])) _
    refine st16 _ ?_
    show Steps p.tables e below (T16.setTop (mkF m 133 #[.val (.int p1), .val (.int p2), .val (.int p3), .val (.int p4), .val (.int (3 : Int32)), .val (.int B0), .val (.int B1), .val (.int B2), .val (.ref b5), .val (.ref b6), .val (.ref r13), .unset] [])) _
    refine XS.aload X16.here hx rfl (hb hby at_133) rfl rfl ?_
    show Steps p.tables e below (T16.setTop (mkF m 135 #[.val (.int p1), .val (.int p2), .val (.int p3), .val (.int p4), .val (.int (3 : Int32)), .val (.int B0), .val (.int B1), .val (.int B2), .val (.ref b5), .val (.ref b6), .val (.ref r13), .unset] [(.ref r13)])) _
    refine st17.trans ?_
    show Steps p.tables e below (T17.setTop (mkF m 138 #[.val (.int p1), .val (.int p2), .val (.int p3), .val (.int p4), .val (.int (3 : Int32)), .val (.int B0), .val (.int B1), .val (.int B2), .val (.ref b5), .val (.ref b6), .val (.ref r13), .unset] [(.ref o17)])) _
    refine XS.astore X17.here hx rfl (hb hby at_138) rfl rfl (l' := #[.val (.int p1), .val (.int p2), .val (.int p3), .val (.int p4), .val (.int (3 : Int32)), .val (.int B0), .val (.int B1), .val (.int B2), .val (.ref b5), .val (.ref b6), .val (.ref r13), .val (.ref o17)]) rfl ?_
    show Steps p.tables e below (T17.setTop (mkF m 140 #[.val (.int p1), .val (.int p2), .val (.int p3), .val (.int p4), .val (.int (3 : Int32)), .val (.int B0), .val (.int B1), .val (.int B2), .val (.ref b5), .val (.ref b6), .val (.ref r13), .val (.ref o17)] [])) _
    refine XS.aload X17.here hx rfl (hb hby at_140) rfl rfl ?_
    show Steps p.tables e below (T17.setTop (mkF m 142 #[.val (.int p1), .val (.int p2), .val (.int p3), .val (.int p4), .val (.int (3 : Int32)), .val (.int B0), .val (.int B1), .val (.int B2), .val (.ref b5), .val (.ref b6), .val (.ref r13), .val (.ref o17)] [(.ref o17)])) _
    refine X17.arraylength hx Ar_o.1 (State.isArrayOf_alike hZ.alike Ar_o.2.1) (g := (mkF m 142 #[.val (.int p1), .val (.int p2), .val (.int p3), .val (.int p4), .val (.int (3 : Int32)), .val (.int B0), .val (.int B1), .val (.int B2), .val (.ref b5), .val (.ref b6), .val (.ref r13), .val (.ref o17)] [(.ref o17)])) rfl rfl (hb hby at_142) _ ?_
    rw [len_of S_o N_o]
    show Steps p.tables e below (T17.setTop (mkF m 143 #[.val (.int p1), .val (.int p2), .val (.int p3), .val (.int p4), .val (.int (3 : Int32)), .val (.int B0), .val (.int B1), .val (.int B2), .val (.ref b5), .val (.ref b6), .val (.ref r13), .val (.ref o17)] [(.int (3 : Int32))])) _
    refine XS.iload X17.here hx rfl (hb hby at_143) rfl ?_
    show Steps p.tables e below (T17.setTop (mkF m 145 #[.val (.int p1), .val (.int p2), .val (.int p3), .val (.int p4), .val (.int (3 : Int32)), .val (.int B0), .val (.int B1), .val (.int B2), .val (.ref b5), .val (.ref b6), .val (.ref r13), .val (.ref o17)] [(.int (3 : Int32)), (.int (3 : Int32))])) _
    refine XS.icmpYes X17.here hx rfl (pc0 := 145) (pc' := 150) rfl (hb hby at_145) rfl (teq (by first | rfl | decide : (3 : Int32) = (3 : Int32))).1 (by decide) (by decide) ?_
    show Steps p.tables e below (T17.setTop (mkF m 150 #[.val (.int p1), .val (.int p2), .val (.int p3), .val (.int p4), .val (.int (3 : Int32)), .val (.int B0), .val (.int B1), .val (.int B2), .val (.ref b5), .val (.ref b6), .val (.ref r13), .val (.ref o17)] [])) _
    refine XS.iload X17.here hx rfl (hb hby at_150) rfl ?_
    show Steps p.tables e below (T17.setTop (mkF m 152 #[.val (.int p1), .val (.int p2), .val (.int p3), .val (.int p4), .val (.int (3 : Int32)), .val (.int B0), .val (.int B1), .val (.int B2), .val (.ref b5), .val (.ref b6), .val (.ref r13), .val (.ref o17)] [(.int (3 : Int32))])) _
    refine XS.ifNo X17.here hx rfl (hb hby at_152) rfl ((if0 _ _).trans (tlt (by decide)).2.2.2) ?_
    show Steps p.tables e below (T17.setTop (mkF m 155 #[.val (.int p1), .val (.int p2), .val (.int p3), .val (.int p4), .val (.int (3 : Int32)), .val (.int B0), .val (.int B1), .val (.int B2), .val (.ref b5), .val (.ref b6), .val (.ref r13), .val (.ref o17)] [])) _
    refine XS.aload X17.here hx rfl (hb hby at_155) rfl rfl ?_
    show Steps p.tables e below (T17.setTop (mkF m 157 #[.val (.int p1), .val (.int p2), .val (.int p3), .val (.int p4), .val (.int (3 : Int32)), .val (.int B0), .val (.int B1), .val (.int B2), .val (.ref b5), .val (.ref b6), .val (.ref r13), .val (.ref o17)] [(.ref o17)])) _
    refine XS.iconst X17.here hx rfl (hb hby at_157) ?_
    show Steps p.tables e below (T17.setTop (mkF m 158 #[.val (.int p1), .val (.int p2), .val (.int p3), .val (.int p4), .val (.int (3 : Int32)), .val (.int B0), .val (.int B1), .val (.int B2), .val (.ref b5), .val (.ref b6), .val (.ref r13), .val (.ref o17)] [(.int (0 : Int32)), (.ref o17)])) _
    refine X17.baloadBytes hx (j := (0 : Int32)) (v := (.int B0)) Ar_o.1 (State.isArrayOf_alike hZ.alike Ar_o.2.1) Ar_o.2.2 (inb_of S_o ⟨by decide, by decide⟩) (H_o.at (inb_of S_o ⟨by decide, by decide⟩) rfl) (g := (mkF m 158 #[.val (.int p1), .val (.int p2), .val (.int p3), .val (.int p4), .val (.int (3 : Int32)), .val (.int B0), .val (.int B1), .val (.int B2), .val (.ref b5), .val (.ref b6), .val (.ref r13), .val (.ref o17)] [(.int (0 : Int32)), (.ref o17)])) rfl rfl (hb hby at_158) _ ?_
    show Steps p.tables e below (T17.setTop (mkF m 159 #[.val (.int p1), .val (.int p2), .val (.int p3), .val (.int p4), .val (.int (3 : Int32)), .val (.int B0), .val (.int B1), .val (.int B2), .val (.ref b5), .val (.ref b6), .val (.ref r13), .val (.ref o17)] [(.int B0)])) _
    refine XS.iload X17.here hx rfl (hb hby at_159) rfl ?_
    show Steps p.tables e below (T17.setTop (mkF m 161 #[.val (.int p1), .val (.int p2), .val (.int p3), .val (.int p4), .val (.int (3 : Int32)), .val (.int B0), .val (.int B1), .val (.int B2), .val (.ref b5), .val (.ref b6), .val (.ref r13), .val (.ref o17)] [(.int B0), (.int B0)])) _
    refine XS.icmpYes X17.here hx rfl (pc0 := 161) (pc' := 166) rfl (hb hby at_161) rfl (teq (by first | rfl | decide)).1 (by decide) (by decide) ?_
    show Steps p.tables e below (T17.setTop (mkF m 166 #[.val (.int p1), .val (.int p2), .val (.int p3), .val (.int p4), .val (.int (3 : Int32)), .val (.int B0), .val (.int B1), .val (.int B2), .val (.ref b5), .val (.ref b6), .val (.ref r13), .val (.ref o17)] [])) _
    refine XS.iload X17.here hx rfl (hb hby at_166) rfl ?_
    show Steps p.tables e below (T17.setTop (mkF m 168 #[.val (.int p1), .val (.int p2), .val (.int p3), .val (.int p4), .val (.int (3 : Int32)), .val (.int B0), .val (.int B1), .val (.int B2), .val (.ref b5), .val (.ref b6), .val (.ref r13), .val (.ref o17)] [(.int (3 : Int32))])) _
    refine XS.iconst X17.here hx rfl (hb hby at_168) ?_
    show Steps p.tables e below (T17.setTop (mkF m 169 #[.val (.int p1), .val (.int p2), .val (.int p3), .val (.int p4), .val (.int (3 : Int32)), .val (.int B0), .val (.int B1), .val (.int B2), .val (.ref b5), .val (.ref b6), .val (.ref r13), .val (.ref o17)] [(.int (1 : Int32)), (.int (3 : Int32))])) _
    refine XS.icmpNo X17.here hx rfl (hb hby at_169) rfl (tlt (by decide)).2.2.2 ?_
    show Steps p.tables e below (T17.setTop (mkF m 172 #[.val (.int p1), .val (.int p2), .val (.int p3), .val (.int p4), .val (.int (3 : Int32)), .val (.int B0), .val (.int B1), .val (.int B2), .val (.ref b5), .val (.ref b6), .val (.ref r13), .val (.ref o17)] [])) _
    refine XS.aload X17.here hx rfl (hb hby at_172) rfl rfl ?_
    show Steps p.tables e below (T17.setTop (mkF m 174 #[.val (.int p1), .val (.int p2), .val (.int p3), .val (.int p4), .val (.int (3 : Int32)), .val (.int B0), .val (.int B1), .val (.int B2), .val (.ref b5), .val (.ref b6), .val (.ref r13), .val (.ref o17)] [(.ref o17)])) _
    refine XS.iconst X17.here hx rfl (hb hby at_174) ?_
    show Steps p.tables e below (T17.setTop (mkF m 175 #[.val (.int p1), .val (.int p2), .val (.int p3), .val (.int p4), .val (.int (3 : Int32)), .val (.int B0), .val (.int B1), .val (.int B2), .val (.ref b5), .val (.ref b6), .val (.ref r13), .val (.ref o17)] [(.int (1 : Int32)), (.ref o17)])) _
    refine X17.baloadBytes hx (j := (1 : Int32)) (v := (.int B1)) Ar_o.1 (State.isArrayOf_alike hZ.alike Ar_o.2.1) Ar_o.2.2 (inb_of S_o ⟨by decide, by decide⟩) (H_o.at (inb_of S_o ⟨by decide, by decide⟩) rfl) (g := (mkF m 175 #[.val (.int p1), .val (.int p2), .val (.int p3), .val (.int p4), .val (.int (3 : Int32)), .val (.int B0), .val (.int B1), .val (.int B2), .val (.ref b5), .val (.ref b6), .val (.ref r13), .val (.ref o17)] [(.int (1 : Int32)), (.ref o17)])) rfl rfl (hb hby at_175) _ ?_
    show Steps p.tables e below (T17.setTop (mkF m 176 #[.val (.int p1), .val (.int p2), .val (.int p3), .val (.int p4), .val (.int (3 : Int32)), .val (.int B0), .val (.int B1), .val (.int B2), .val (.ref b5), .val (.ref b6), .val (.ref r13), .val (.ref o17)] [(.int B1)])) _
    refine XS.iload X17.here hx rfl (hb hby at_176) rfl ?_
    show Steps p.tables e below (T17.setTop (mkF m 178 #[.val (.int p1), .val (.int p2), .val (.int p3), .val (.int p4), .val (.int (3 : Int32)), .val (.int B0), .val (.int B1), .val (.int B2), .val (.ref b5), .val (.ref b6), .val (.ref r13), .val (.ref o17)] [(.int B1), (.int B1)])) _
    refine XS.icmpYes X17.here hx rfl (pc0 := 178) (pc' := 183) rfl (hb hby at_178) rfl (teq (by first | rfl | decide)).1 (by decide) (by decide) ?_
    show Steps p.tables e below (T17.setTop (mkF m 183 #[.val (.int p1), .val (.int p2), .val (.int p3), .val (.int p4), .val (.int (3 : Int32)), .val (.int B0), .val (.int B1), .val (.int B2), .val (.ref b5), .val (.ref b6), .val (.ref r13), .val (.ref o17)] [])) _
    refine XS.iload X17.here hx rfl (hb hby at_183) rfl ?_
    show Steps p.tables e below (T17.setTop (mkF m 185 #[.val (.int p1), .val (.int p2), .val (.int p3), .val (.int p4), .val (.int (3 : Int32)), .val (.int B0), .val (.int B1), .val (.int B2), .val (.ref b5), .val (.ref b6), .val (.ref r13), .val (.ref o17)] [(.int (3 : Int32))])) _
    refine XS.iconst X17.here hx rfl (hb hby at_185) ?_
    show Steps p.tables e below (T17.setTop (mkF m 186 #[.val (.int p1), .val (.int p2), .val (.int p3), .val (.int p4), .val (.int (3 : Int32)), .val (.int B0), .val (.int B1), .val (.int B2), .val (.ref b5), .val (.ref b6), .val (.ref r13), .val (.ref o17)] [(.int (2 : Int32)), (.int (3 : Int32))])) _
    refine XS.icmpNo X17.here hx rfl (hb hby at_186) rfl (tlt (by decide)).2.2.2 ?_
    show Steps p.tables e below (T17.setTop (mkF m 189 #[.val (.int p1), .val (.int p2), .val (.int p3), .val (.int p4), .val (.int (3 : Int32)), .val (.int B0), .val (.int B1), .val (.int B2), .val (.ref b5), .val (.ref b6), .val (.ref r13), .val (.ref o17)] [])) _
    refine XS.aload X17.here hx rfl (hb hby at_189) rfl rfl ?_
    show Steps p.tables e below (T17.setTop (mkF m 191 #[.val (.int p1), .val (.int p2), .val (.int p3), .val (.int p4), .val (.int (3 : Int32)), .val (.int B0), .val (.int B1), .val (.int B2), .val (.ref b5), .val (.ref b6), .val (.ref r13), .val (.ref o17)] [(.ref o17)])) _
    refine XS.iconst X17.here hx rfl (hb hby at_191) ?_
    show Steps p.tables e below (T17.setTop (mkF m 192 #[.val (.int p1), .val (.int p2), .val (.int p3), .val (.int p4), .val (.int (3 : Int32)), .val (.int B0), .val (.int B1), .val (.int B2), .val (.ref b5), .val (.ref b6), .val (.ref r13), .val (.ref o17)] [(.int (2 : Int32)), (.ref o17)])) _
    refine X17.baloadBytes hx (j := (2 : Int32)) (v := (.int B2)) Ar_o.1 (State.isArrayOf_alike hZ.alike Ar_o.2.1) Ar_o.2.2 (inb_of S_o ⟨by decide, by decide⟩) (H_o.at (inb_of S_o ⟨by decide, by decide⟩) rfl) (g := (mkF m 192 #[.val (.int p1), .val (.int p2), .val (.int p3), .val (.int p4), .val (.int (3 : Int32)), .val (.int B0), .val (.int B1), .val (.int B2), .val (.ref b5), .val (.ref b6), .val (.ref r13), .val (.ref o17)] [(.int (2 : Int32)), (.ref o17)])) rfl rfl (hb hby at_192) _ ?_
    show Steps p.tables e below (T17.setTop (mkF m 193 #[.val (.int p1), .val (.int p2), .val (.int p3), .val (.int p4), .val (.int (3 : Int32)), .val (.int B0), .val (.int B1), .val (.int B2), .val (.ref b5), .val (.ref b6), .val (.ref r13), .val (.ref o17)] [(.int B2)])) _
    refine XS.iload X17.here hx rfl (hb hby at_193) rfl ?_
    show Steps p.tables e below (T17.setTop (mkF m 195 #[.val (.int p1), .val (.int p2), .val (.int p3), .val (.int p4), .val (.int (3 : Int32)), .val (.int B0), .val (.int B1), .val (.int B2), .val (.ref b5), .val (.ref b6), .val (.ref r13), .val (.ref o17)] [(.int B2), (.int B2)])) _
    refine XS.icmpYes X17.here hx rfl (pc0 := 195) (pc' := 200) rfl (hb hby at_195) rfl (teq (by first | rfl | decide)).1 (by decide) (by decide) ?_
    show Steps p.tables e below (T17.setTop (mkF m 200 #[.val (.int p1), .val (.int p2), .val (.int p3), .val (.int p4), .val (.int (3 : Int32)), .val (.int B0), .val (.int B1), .val (.int B2), .val (.ref b5), .val (.ref b6), .val (.ref r13), .val (.ref o17)] [])) _
    refine XS.aload X17.here hx rfl (hb hby at_200) rfl rfl ?_
    show Steps p.tables e below (T17.setTop (mkF m 202 #[.val (.int p1), .val (.int p2), .val (.int p3), .val (.int p4), .val (.int (3 : Int32)), .val (.int B0), .val (.int B1), .val (.int B2), .val (.ref b5), .val (.ref b6), .val (.ref r13), .val (.ref o17)] [(.ref r13)])) _
    refine XS.aload X17.here hx rfl (hb hby at_202) rfl rfl ?_
    show Steps p.tables e below (T17.setTop (mkF m 204 #[.val (.int p1), .val (.int p2), .val (.int p3), .val (.int p4), .val (.int (3 : Int32)), .val (.int B0), .val (.int B1), .val (.int B2), .val (.ref b5), .val (.ref b6), .val (.ref r13), .val (.ref o17)] [(.ref b6), (.ref r13)])) _
    refine st21 _ ?_
    show Steps p.tables e below (T21.setTop (mkF m 207 #[.val (.int p1), .val (.int p2), .val (.int p3), .val (.int p4), .val (.int (3 : Int32)), .val (.int B0), .val (.int B1), .val (.int B2), .val (.ref b5), .val (.ref b6), .val (.ref r13), .val (.ref o17)] [(.ref r21), (.ref r13)])) _
    refine st22.trans ?_
    show Steps p.tables e below (T22.setTop (mkF m 210 #[.val (.int p1), .val (.int p2), .val (.int p3), .val (.int p4), .val (.int (3 : Int32)), .val (.int B0), .val (.int B1), .val (.int B2), .val (.ref b5), .val (.ref b6), .val (.ref r13), .val (.ref o17)] [(.int (1 : Int32))])) _
    refine XS.ifYes X22.here hx rfl (pc0 := 210) (pc' := 215) rfl (hb hby at_210) rfl ((if0 _ _).trans (feq (by first | rfl | decide : ¬ ((1 : Int32) = (0 : Int32)))).2) (by decide) (by decide) ?_
    show Steps p.tables e below (T22.setTop (mkF m 215 #[.val (.int p1), .val (.int p2), .val (.int p3), .val (.int p4), .val (.int (3 : Int32)), .val (.int B0), .val (.int B1), .val (.int B2), .val (.ref b5), .val (.ref b6), .val (.ref r13), .val (.ref o17)] [])) _
    refine XS.iload X22.here hx rfl (hb hby at_215) rfl ?_
    show Steps p.tables e below (T22.setTop (mkF m 217 #[.val (.int p1), .val (.int p2), .val (.int p3), .val (.int p4), .val (.int (3 : Int32)), .val (.int B0), .val (.int B1), .val (.int B2), .val (.ref b5), .val (.ref b6), .val (.ref r13), .val (.ref o17)] [(.int (3 : Int32))])) _
    refine XS.ifNo X22.here hx rfl (hb hby at_217) rfl ((if0 _ _).trans (tlt (by decide)).2.2.2) ?_
    show Steps p.tables e below (T22.setTop (mkF m 220 #[.val (.int p1), .val (.int p2), .val (.int p3), .val (.int p4), .val (.int (3 : Int32)), .val (.int B0), .val (.int B1), .val (.int B2), .val (.ref b5), .val (.ref b6), .val (.ref r13), .val (.ref o17)] [])) _
    refine XS.aload X22.here hx rfl (hb hby at_220) rfl rfl ?_
    show Steps p.tables e below (T22.setTop (mkF m 222 #[.val (.int p1), .val (.int p2), .val (.int p3), .val (.int p4), .val (.int (3 : Int32)), .val (.int B0), .val (.int B1), .val (.int B2), .val (.ref b5), .val (.ref b6), .val (.ref r13), .val (.ref o17)] [(.ref r13)])) _
    refine XS.aload X22.here hx rfl (hb hby at_222) rfl rfl ?_
    show Steps p.tables e below (T22.setTop (mkF m 224 #[.val (.int p1), .val (.int p2), .val (.int p3), .val (.int p4), .val (.int (3 : Int32)), .val (.int B0), .val (.int B1), .val (.int B2), .val (.ref b5), .val (.ref b6), .val (.ref r13), .val (.ref o17)] [(.ref b5), (.ref r13)])) _
    refine st23 _ ?_
    show Steps p.tables e below (T23.setTop (mkF m 227 #[.val (.int p1), .val (.int p2), .val (.int p3), .val (.int p4), .val (.int (3 : Int32)), .val (.int B0), .val (.int B1), .val (.int B2), .val (.ref b5), .val (.ref b6), .val (.ref r13), .val (.ref o17)] [(.ref r23), (.ref r13)])) _
    refine st24.trans ?_
    show Steps p.tables e below (T24.setTop (mkF m 230 #[.val (.int p1), .val (.int p2), .val (.int p3), .val (.int p4), .val (.int (3 : Int32)), .val (.int B0), .val (.int B1), .val (.int B2), .val (.ref b5), .val (.ref b6), .val (.ref r13), .val (.ref o17)] [(.int (0 : Int32))])) _
    refine XS.ifYes X24.here hx rfl (pc0 := 230) (pc' := 235) rfl (hb hby at_230) rfl ((if0 _ _).trans (teq (by first | rfl | decide : (0 : Int32) = (0 : Int32))).1) (by decide) (by decide) ?_
    show Steps p.tables e below (T24.setTop (mkF m 235 #[.val (.int p1), .val (.int p2), .val (.int p3), .val (.int p4), .val (.int (3 : Int32)), .val (.int B0), .val (.int B1), .val (.int B2), .val (.ref b5), .val (.ref b6), .val (.ref r13), .val (.ref o17)] [])) _
    refine XS.iconst X24.here hx rfl (hb hby at_235) ?_
    show Steps p.tables e below (T24.setTop (mkF m 236 #[.val (.int p1), .val (.int p2), .val (.int p3), .val (.int p4), .val (.int (3 : Int32)), .val (.int B0), .val (.int B1), .val (.int B2), .val (.ref b5), .val (.ref b6), .val (.ref r13), .val (.ref o17)] [(.int (1 : Int32))])) _
    exact retN X24 hx (t := .boolean) Bd.returns (by simp) (hb hby at_236) hr
  · show Q0 n0 _ _
    exact ⟨rfl, N24⟩
set_option maxRecDepth 65536 in
set_option maxHeartbeats 40000000 in
theorem comes_1 {Post : Tables → Env → Array Value → State → Outcome → State → Prop} (hpost : ∀ tb e args s v u, (limb_1_1.after args s (.returned v) u = true ∧ limb_1_2.after args s (.returned v) u = true ∧ True) → FrameEnd s (.returned v) u (Jvm.fieldLocs frame_1_writes args s ++ Jvm.arrayLocs frame_1_arrays args s ++ Jvm.staticLocs frame_1_statics s) 32 128 → Post tb e args s (.returned v) u) :
    ArmFor flags0 classFile x code maxLocals ret World_1 tables_1 room_1 Calls_1 rest_1 Pre_1 Post := by
  intro l hfl _ _ p e ha hc hk s m args below hf hA hF happ hP
  obtain ⟨hcalls, hrest, hpre⟩ := hP
  obtain ⟨-, -, -, hnamed, -, -, -, hat⟩ := (Spec.applies_iff hf).mp happ
  obtain ⟨hg, hn⟩ := and_e (Cond.before_iff.mp (show (Jvm.Cond.and given_1 narrow_1).before args s = true from hpre))
  obtain ⟨g25, g26⟩ := and_e hg
  obtain ⟨g27, g28⟩ := and_e g26
  obtain ⟨g29, g30⟩ := and_e g28
  obtain ⟨g31, g32⟩ := and_e g30
  obtain ⟨w0, w1, w2, w3, rfl⟩ : ∃ w0 w1 w2 w3 : Value, args = #[w0, w1, w2, w3] := by
    have hs : args.size = 4 := by simpa [Cond.value, given_1] using g25
    obtain ⟨L⟩ := args
    match L, hs with
    | [w0, w1, w2, w3], _ => exact ⟨w0, w1, w2, w3, rfl⟩
  have hw := fun d (hd : d ∈ tables_1) => atoms_spec (ws := Jvm.Cond.code x code maxLocals ret :: tables_1) hat d (List.mem_cons_of_mem _ hd)
  have hfit : Fit s := fun {y c} hc i hi => by
    obtain ⟨ha, rfl⟩ := Array.getElem?_eq_some_iff.mp hc
    have q := List.all_eq_true.mp ((Array.all_eq_true_iff_forall_mem.mp hF) _ (Array.getElem_mem ha)) i (List.mem_range.mpr hi)
    simpa [Array.getElem?_eq_getElem hi] using q
  obtain ⟨i0, ei0⟩ := is_v g27
  obtain rfl : w0 = (.int i0) := Option.some.inj ei0
  obtain ⟨i1, ei1⟩ := is_v g29
  obtain rfl : w1 = (.int i1) := Option.some.inj ei1
  obtain ⟨i2, ei2⟩ := is_v g31
  obtain rfl : w2 = (.int i2) := Option.some.inj ei2
  obtain ⟨i3, ei3⟩ := is_v g32
  obtain rfl : w3 = (.int i3) := Option.some.inj ei3
  rcases own_and3 i0 with q | q | q | q
  · obtain ⟨n, o, h1, h2, h3, _, L, rfl, ⟨rfl, N⟩, hq⟩ := rm0_0 l s _ hw tables_1 i0 i1 i2 i3 s.heap s.heap.size (Nat.le_refl _) q p e ha hc hk s m _ below hf ((Spec.applies_iff_loose hf).mp happ).1 ⟨rfl, State.Warmed39.refl s, rfl⟩ trivial
    exact ⟨n, _, h1, h2, h3, hpost _ _ _ _ _ _ ⟨Cond.after_iff.mpr rfl, Cond.after_iff.mpr (eq_i res_at (Term.int_eval (1)) rfl), trivial⟩ ⟨hq.1, hq.2.1, (hq.2.2.sift fun y hy => Or.inr (N y hy)).mono (by decide) (by decide)⟩⟩
  · obtain ⟨n, o, h1, h2, h3, _, L, rfl, ⟨rfl, N⟩, hq⟩ := rm0_1 l s _ hw tables_1 i0 i1 i2 i3 s.heap s.heap.size (Nat.le_refl _) q p e ha hc hk s m _ below hf ((Spec.applies_iff_loose hf).mp happ).1 ⟨rfl, State.Warmed39.refl s, rfl⟩ trivial
    exact ⟨n, _, h1, h2, h3, hpost _ _ _ _ _ _ ⟨Cond.after_iff.mpr rfl, Cond.after_iff.mpr (eq_i res_at (Term.int_eval (1)) rfl), trivial⟩ ⟨hq.1, hq.2.1, (hq.2.2.sift fun y hy => Or.inr (N y hy)).mono (by decide) (by decide)⟩⟩
  · obtain ⟨n, o, h1, h2, h3, _, L, rfl, ⟨rfl, N⟩, hq⟩ := rm0_2 l s _ hw tables_1 i0 i1 i2 i3 s.heap s.heap.size (Nat.le_refl _) q p e ha hc hk s m _ below hf ((Spec.applies_iff_loose hf).mp happ).1 ⟨rfl, State.Warmed39.refl s, rfl⟩ trivial
    exact ⟨n, _, h1, h2, h3, hpost _ _ _ _ _ _ ⟨Cond.after_iff.mpr rfl, Cond.after_iff.mpr (eq_i res_at (Term.int_eval (1)) rfl), trivial⟩ ⟨hq.1, hq.2.1, (hq.2.2.sift fun y hy => Or.inr (N y hy)).mono (by decide) (by decide)⟩⟩
  · obtain ⟨n, o, h1, h2, h3, _, L, rfl, ⟨rfl, N⟩, hq⟩ := rm0_3 l s _ hw tables_1 i0 i1 i2 i3 s.heap s.heap.size (Nat.le_refl _) q p e ha hc hk s m _ below hf ((Spec.applies_iff_loose hf).mp happ).1 ⟨rfl, State.Warmed39.refl s, rfl⟩ trivial
    exact ⟨n, _, h1, h2, h3, hpost _ _ _ _ _ _ ⟨Cond.after_iff.mpr rfl, Cond.after_iff.mpr (eq_i res_at (Term.int_eval (1)) rfl), trivial⟩ ⟨hq.1, hq.2.1, (hq.2.2.sift fun y hy => Or.inr (N y hy)).mono (by decide) (by decide)⟩⟩
theorem main_1_1 : Claimed_1_1 := comes_1 fun _ _ _ _ _ _ h hF => ⟨h.1, hF⟩
theorem main_1_2 : Claimed_1_2 := comes_1 fun _ _ _ _ _ _ h hF => ⟨h.2.1, hF⟩
end Jvm.Pilot.@@N@@
namespace Jvm.Pilot.@@N@@
open Jvm Jvm.ClassFile Sem Op Lib Jvm.Free Jvm.Stand Jvm.Pilot.@@N@@.Jvm.D
/-! MADE BY PROGRAM (witnessworld.py) out of the Statement's table words and the real class files: 11 classes; the members and pool entries that the words name. The judged class is class 1, her method 1. -/
namespace start1
open Jvm.ClassFile
def u (s : String) : CpInfo := .utf8 (stringToUtf16 s)
/-- a pool by its gaps: so many unusable entries, then the entry; so many at the end -/
def gap : Nat → List CpInfo → List CpInfo
  | 0, r => r
  | n + 1, r => .unusable :: gap n r
def poolList (es : List (Nat × CpInfo)) (last : Nat) : List CpInfo := es.foldr (fun e r => gap e.1 (e.2 :: r)) (gap last [])
def pool (es : List (Nat × CpInfo)) (last : Nat) : Array CpInfo := ⟨poolList es last⟩
def fileOf (pool : Array CpInfo) (this : Nat) (attrs : Array Attribute := #[]) (ms : Array MethodInfo := #[]) (fl : Nat := 33) (sup : Nat := 0) (ifs : Array Nat := #[]) (fds : Array FieldInfo := #[]) : ClassFile where
  minorVersion := 0
  majorVersion := 65
  constantPool := pool
  accessFlags := fl
  thisClass := this
  superClass := sup
  interfaces := ifs
  fields := fds
  methods := ms
  attributes := attrs
def plain (name : String) (sup : Option ClassId) : Class where
  name := name
  kind := .ordinary
  loader := none
  accessFlags := 33
  super := sup
  interfaces := #[]
  cf := none
  fields := #[]
  methods := #[]
  instanceTypes := #[]
  staticTypes := #[]
  resolved := #[]
  callSites := []
  init := .initialized
  statics := none
  mirror := none

def pool0 : Array CpInfo := pool [(5, u "<init>"), (0, u "()V"), (1, .class_ 10), (1, u "java/lang/Object"), (85, u "clone"), (0, u "()Ljava/lang/Object;")] 26

def k0c0 : Code := { maxStack := 0, maxLocals := 1, code := object_method_1_code, exceptionTable := #[], attributes := #[] }
def k0m0 : Method := { name := "<init>", desc := "()V", sig := { parameters := [], returnType := none }, accessFlags := 1, code := some k0c0 }
def k0m1 : Method := { name := "clone", desc := "()Ljava/lang/Object;", sig := { parameters := [], returnType := some (.object "java/lang/Object") }, accessFlags := 260, code := none }
/-- java/lang/Object -/
def k0 : Class := { plain "java/lang/Object" none with
  accessFlags := 33
  interfaces := #[]
  cf := some (fileOf pool0 8 #[] #[{ accessFlags := 1, nameIndex := 5, descriptorIndex := 6, attributes := #[] }, { accessFlags := 260, nameIndex := 96, descriptorIndex := 97, attributes := #[] }] 33 0 #[] #[])
  fields := #[]
  methods := #[k0m0, k0m1]
  instanceTypes := #[]
  staticTypes := #[]
  resolved := Array.replicate 124 none
  statics := none }

def pool1 : Array CpInfo := pool [(2, .class_ 4), (1, u "java/lang/Object"), (0, u "<init>"), (0, u "()V"), (0, .methodref 8 9), (0, .class_ 10), (0, .nameAndType 11 12), (0, u "com/example/mirrorlog/mirrorlog/core/undo/Bytes"), (0, u "of"), (0, u "([B)Lcom/example/mirrorlog/mirrorlog/core/undo/Bytes;"), (0, .methodref 8 14), (0, .nameAndType 15 16), (0, u "toArray"), (0, u "()[B"), (0, .methodref 8 18), (0, .nameAndType 19 20), (0, u "equals"), (0, u "(Ljava/lang/Object;)Z"), (0, .class_ 22), (0, u "com/example/mirrorlog/mirrorlog/core/undo/BytesOfPinLaw"), (2, u "law"), (0, u "(IIII)Z")] 5

def k1m0 : Method := { name := "<init>", desc := "()V", sig := { parameters := [], returnType := none }, accessFlags := 1, code := none }
def k1c1 : Code := { maxStack := 4, maxLocals := 12, code := code, exceptionTable := #[], attributes := #[] }
def k1m1 : Method := { name := "law", desc := "(IIII)Z", sig := { parameters := [.int, .int, .int, .int], returnType := some .boolean }, accessFlags := 9, code := some k1c1 }
/-- com/example/mirrorlog/mirrorlog/core/undo/BytesOfPinLaw -/
def k1 : Class := { plain "com/example/mirrorlog/mirrorlog/core/undo/BytesOfPinLaw" (some 0) with
  accessFlags := 49
  interfaces := #[]
  cf := some (fileOf pool1 21 #[] #[{ accessFlags := 1, nameIndex := 5, descriptorIndex := 6, attributes := #[] }, { accessFlags := 9, nameIndex := 25, descriptorIndex := 26, attributes := #[] }] 49 2 #[] #[])
  fields := #[]
  methods := #[k1m0, k1m1]
  instanceTypes := #[]
  staticTypes := #[]
  resolved := Array.replicate 32 none
  statics := none }

def pool2 : Array CpInfo := pool [(1, .methodref 2 3), (0, .class_ 4), (0, .nameAndType 5 6), (0, u "java/lang/Object"), (0, u "<init>"), (0, u "()V"), (0, .fieldref 8 9), (0, .class_ 10), (0, .nameAndType 11 12), (0, u "com/example/mirrorlog/mirrorlog/core/undo/Bytes"), (0, u "bytes"), (0, u "[B"), (0, .methodref 14 15), (0, .class_ 12), (0, .nameAndType 16 17), (0, u "clone"), (0, u "()Ljava/lang/Object;"), (0, .methodref 8 19), (0, .nameAndType 5 20), (0, u "([B)V"), (22, .methodref 44 45), (0, .class_ 46), (0, .nameAndType 47 48), (0, u "java/util/Arrays"), (0, u "equals"), (0, u "([B[B)Z"), (10, u "of"), (0, u "([B)Lcom/example/mirrorlog/mirrorlog/core/undo/Bytes;"), (2, u "toArray"), (0, u "()[B"), (0, u "(Ljava/lang/Object;)Z")] 8

def k2c0 : Code := { maxStack := 2, maxLocals := 2, code := prog_44_method_1_code, exceptionTable := #[], attributes := #[] }
def k2m0 : Method := { name := "<init>", desc := "([B)V", sig := { parameters := [(.array .byte)], returnType := none }, accessFlags := 2, code := some k2c0 }
def k2c1 : Code := { maxStack := 3, maxLocals := 1, code := prog_44_method_2_code, exceptionTable := #[], attributes := #[] }
def k2m1 : Method := { name := "of", desc := "([B)Lcom/example/mirrorlog/mirrorlog/core/undo/Bytes;", sig := { parameters := [(.array .byte)], returnType := some (.object "com/example/mirrorlog/mirrorlog/core/undo/Bytes") }, accessFlags := 9, code := some k2c1 }
def k2c2 : Code := { maxStack := 1, maxLocals := 1, code := prog_44_method_4_code, exceptionTable := #[], attributes := #[] }
def k2m2 : Method := { name := "toArray", desc := "()[B", sig := { parameters := [], returnType := some (.array .byte) }, accessFlags := 1, code := some k2c2 }
def k2c3 : Code := { maxStack := 2, maxLocals := 3, code := prog_44_method_6_code, exceptionTable := #[], attributes := #[] }
def k2m3 : Method := { name := "equals", desc := "(Ljava/lang/Object;)Z", sig := { parameters := [(.object "java/lang/Object")], returnType := some .boolean }, accessFlags := 1, code := some k2c3 }
/-- com/example/mirrorlog/mirrorlog/core/undo/Bytes -/
def k2 : Class := { plain "com/example/mirrorlog/mirrorlog/core/undo/Bytes" (some 0) with
  accessFlags := 49
  interfaces := #[]
  cf := some (fileOf pool2 8 #[] #[{ accessFlags := 2, nameIndex := 5, descriptorIndex := 20, attributes := #[] }, { accessFlags := 9, nameIndex := 59, descriptorIndex := 60, attributes := #[] }, { accessFlags := 1, nameIndex := 63, descriptorIndex := 64, attributes := #[] }, { accessFlags := 1, nameIndex := 47, descriptorIndex := 65, attributes := #[] }] 49 2 #[] #[{ accessFlags := 18, nameIndex := 11, descriptorIndex := 12, attributes := #[] }])
  fields := #[{ name := "bytes", type := (.array .byte), accessFlags := 18, slot := 0, constantValue := 0 }]
  methods := #[k2m0, k2m1, k2m2, k2m3]
  instanceTypes := #[(.array .byte)]
  staticTypes := #[]
  resolved := Array.replicate 74 none
  statics := none }

def pool3 : Array CpInfo := pool [(1, .class_ 2), (0, u "java/lang/Cloneable"), (0, .class_ 4), (0, u "java/lang/Object")] 2

/-- java/lang/Cloneable -/
def k3 : Class := { plain "java/lang/Cloneable" (some 0) with
  accessFlags := 1537
  interfaces := #[]
  cf := some (fileOf pool3 1 #[] #[] 1537 3 #[] #[])
  fields := #[]
  methods := #[]
  instanceTypes := #[]
  staticTypes := #[]
  resolved := Array.replicate 7 none
  statics := none }

def pool4 : Array CpInfo := pool [(2, .class_ 4), (1, u "java/lang/Object"), (0, u "<init>"), (0, u "()V"), (7, .class_ 16), (1, u "java/util/Arrays"), (57, .class_ 76), (1, u "java/util/Arrays$NaturalOrder"), (36, .class_ 115), (1, u "java/util/Arrays$LegacyMergeSort"), (1, u "Z"), (128, .class_ 248), (1, u "jdk/internal/util/ArraysSupport"), (0, u "mismatch"), (22, .methodref 246 273), (0, .nameAndType 249 274), (0, u "([B[BI)I"), (23, u "equals"), (76, .class_ 376), (0, u "java/util/Arrays$ArrayList"), (68, u "$assertionsDisabled"), (9, u "([B[B)Z"), (259, u "MIN_ARRAY_SORT_GRAN"), (0, u "I"), (2, u "INSERTIONSORT_THRESHOLD"), (255, .class_ 976), (0, u "java/util/Arrays$ArrayItr")] 52

def k4m0 : Method := { name := "<init>", desc := "()V", sig := { parameters := [], returnType := none }, accessFlags := 2, code := none }
def k4c1 : Code := { maxStack := 3, maxLocals := 3, code := jdk_65_method_89_code, exceptionTable := #[], attributes := #[] }
def k4m1 : Method := { name := "equals", desc := "([B[B)Z", sig := { parameters := [(.array .byte), (.array .byte)], returnType := some .boolean }, accessFlags := 9, code := some k4c1 }
/-- java/util/Arrays -/
def k4 : Class := { plain "java/util/Arrays" (some 0) with
  accessFlags := 49
  interfaces := #[]
  cf := some (fileOf pool4 14 #[.nestMembers #[975, 375, 113, 74]] #[{ accessFlags := 2, nameIndex := 5, descriptorIndex := 6, attributes := #[] }, { accessFlags := 9, nameIndex := 298, descriptorIndex := 455, attributes := #[] }] 49 2 #[] #[{ accessFlags := 26, nameIndex := 715, descriptorIndex := 716, attributes := #[] }, { accessFlags := 26, nameIndex := 719, descriptorIndex := 716, attributes := #[] }, { accessFlags := 4120, nameIndex := 445, descriptorIndex := 117, attributes := #[] }])
  fields := #[{ name := "MIN_ARRAY_SORT_GRAN", type := .int, accessFlags := 26, slot := 0, constantValue := 0 }, { name := "INSERTIONSORT_THRESHOLD", type := .int, accessFlags := 26, slot := 1, constantValue := 0 }, { name := "$assertionsDisabled", type := .boolean, accessFlags := 4120, slot := 2, constantValue := 0 }]
  methods := #[k4m0, k4m1]
  instanceTypes := #[]
  staticTypes := #[.int, .int, .boolean]
  resolved := Array.replicate 1029 none
  statics := none }

def pool5 : Array CpInfo := pool [(9, u "<init>"), (6, .class_ 18), (1, u "java/lang/Object"), (0, u "()V"), (1, .class_ 23), (1, u "jdk/internal/util/ArraysSupport"), (0, u "LOG2_ARRAY_LONG_INDEX_SCALE"), (0, u "I"), (2, u "U"), (0, u "Ljdk/internal/misc/Unsafe;"), (8, u "BIG_ENDIAN"), (0, u "Z"), (8, u "LOG2_BYTE_BIT_SIZE"), (4, u "LOG2_ARRAY_INT_INDEX_SCALE"), (54, u "JLA"), (0, u "Ljdk/internal/access/JavaLangAccess;"), (11, u "LOG2_ARRAY_BOOLEAN_INDEX_SCALE"), (9, u "LOG2_ARRAY_BYTE_INDEX_SCALE"), (5, u "LOG2_ARRAY_CHAR_INDEX_SCALE"), (5, u "LOG2_ARRAY_SHORT_INDEX_SCALE"), (5, u "mismatch"), (12, u "LOG2_ARRAY_FLOAT_INDEX_SCALE"), (24, u "LOG2_ARRAY_DOUBLE_INDEX_SCALE"), (89, u "T_BOOLEAN"), (2, u "T_CHAR"), (1, u "T_FLOAT"), (1, u "T_DOUBLE"), (1, u "T_BYTE"), (1, u "T_SHORT"), (1, u "T_INT"), (1, u "T_LONG"), (1, u "SOFT_MAX_ARRAY_LENGTH"), (41, u "([B[BI)I")] 41

def k5m0 : Method := { name := "<init>", desc := "()V", sig := { parameters := [], returnType := none }, accessFlags := 2, code := none }
def k5c1 : Code := { maxStack := 8, maxLocals := 4, code := jdk_48_method_13_code, exceptionTable := #[], attributes := #[] }
def k5m1 : Method := { name := "mismatch", desc := "([B[BI)I", sig := { parameters := [(.array .byte), (.array .byte), .int], returnType := some .int }, accessFlags := 9, code := some k5c1 }
/-- jdk/internal/util/ArraysSupport -/
def k5 : Class := { plain "jdk/internal/util/ArraysSupport" (some 0) with
  accessFlags := 33
  interfaces := #[]
  cf := some (fileOf pool5 21 #[] #[{ accessFlags := 2, nameIndex := 9, descriptorIndex := 19, attributes := #[] }, { accessFlags := 9, nameIndex := 149, descriptorIndex := 336, attributes := #[] }] 33 16 #[] #[{ accessFlags := 24, nameIndex := 28, descriptorIndex := 29, attributes := #[] }, { accessFlags := 26, nameIndex := 38, descriptorIndex := 39, attributes := #[] }, { accessFlags := 25, nameIndex := 121, descriptorIndex := 25, attributes := #[] }, { accessFlags := 25, nameIndex := 131, descriptorIndex := 25, attributes := #[] }, { accessFlags := 25, nameIndex := 137, descriptorIndex := 25, attributes := #[] }, { accessFlags := 25, nameIndex := 143, descriptorIndex := 25, attributes := #[] }, { accessFlags := 25, nameIndex := 53, descriptorIndex := 25, attributes := #[] }, { accessFlags := 25, nameIndex := 24, descriptorIndex := 25, attributes := #[] }, { accessFlags := 25, nameIndex := 162, descriptorIndex := 25, attributes := #[] }, { accessFlags := 25, nameIndex := 187, descriptorIndex := 25, attributes := #[] }, { accessFlags := 26, nameIndex := 48, descriptorIndex := 25, attributes := #[] }, { accessFlags := 25, nameIndex := 277, descriptorIndex := 25, attributes := #[] }, { accessFlags := 25, nameIndex := 280, descriptorIndex := 25, attributes := #[] }, { accessFlags := 25, nameIndex := 282, descriptorIndex := 25, attributes := #[] }, { accessFlags := 25, nameIndex := 284, descriptorIndex := 25, attributes := #[] }, { accessFlags := 25, nameIndex := 286, descriptorIndex := 25, attributes := #[] }, { accessFlags := 25, nameIndex := 288, descriptorIndex := 25, attributes := #[] }, { accessFlags := 25, nameIndex := 290, descriptorIndex := 25, attributes := #[] }, { accessFlags := 25, nameIndex := 292, descriptorIndex := 25, attributes := #[] }, { accessFlags := 26, nameIndex := 108, descriptorIndex := 109, attributes := #[] }, { accessFlags := 25, nameIndex := 294, descriptorIndex := 25, attributes := #[] }])
  fields := #[{ name := "U", type := (.object "jdk/internal/misc/Unsafe"), accessFlags := 24, slot := 0, constantValue := 0 }, { name := "BIG_ENDIAN", type := .boolean, accessFlags := 26, slot := 1, constantValue := 0 }, { name := "LOG2_ARRAY_BOOLEAN_INDEX_SCALE", type := .int, accessFlags := 25, slot := 2, constantValue := 0 }, { name := "LOG2_ARRAY_BYTE_INDEX_SCALE", type := .int, accessFlags := 25, slot := 3, constantValue := 0 }, { name := "LOG2_ARRAY_CHAR_INDEX_SCALE", type := .int, accessFlags := 25, slot := 4, constantValue := 0 }, { name := "LOG2_ARRAY_SHORT_INDEX_SCALE", type := .int, accessFlags := 25, slot := 5, constantValue := 0 }, { name := "LOG2_ARRAY_INT_INDEX_SCALE", type := .int, accessFlags := 25, slot := 6, constantValue := 0 }, { name := "LOG2_ARRAY_LONG_INDEX_SCALE", type := .int, accessFlags := 25, slot := 7, constantValue := 0 }, { name := "LOG2_ARRAY_FLOAT_INDEX_SCALE", type := .int, accessFlags := 25, slot := 8, constantValue := 0 }, { name := "LOG2_ARRAY_DOUBLE_INDEX_SCALE", type := .int, accessFlags := 25, slot := 9, constantValue := 0 }, { name := "LOG2_BYTE_BIT_SIZE", type := .int, accessFlags := 26, slot := 10, constantValue := 0 }, { name := "T_BOOLEAN", type := .int, accessFlags := 25, slot := 11, constantValue := 0 }, { name := "T_CHAR", type := .int, accessFlags := 25, slot := 12, constantValue := 0 }, { name := "T_FLOAT", type := .int, accessFlags := 25, slot := 13, constantValue := 0 }, { name := "T_DOUBLE", type := .int, accessFlags := 25, slot := 14, constantValue := 0 }, { name := "T_BYTE", type := .int, accessFlags := 25, slot := 15, constantValue := 0 }, { name := "T_SHORT", type := .int, accessFlags := 25, slot := 16, constantValue := 0 }, { name := "T_INT", type := .int, accessFlags := 25, slot := 17, constantValue := 0 }, { name := "T_LONG", type := .int, accessFlags := 25, slot := 18, constantValue := 0 }, { name := "JLA", type := (.object "jdk/internal/access/JavaLangAccess"), accessFlags := 26, slot := 19, constantValue := 0 }, { name := "SOFT_MAX_ARRAY_LENGTH", type := .int, accessFlags := 25, slot := 20, constantValue := 0 }]
  methods := #[k5m0, k5m1]
  instanceTypes := #[]
  staticTypes := #[(.object "jdk/internal/misc/Unsafe"), .boolean, .int, .int, .int, .int, .int, .int, .int, .int, .int, .int, .int, .int, .int, .int, .int, .int, .int, (.object "jdk/internal/access/JavaLangAccess"), .int]
  resolved := Array.replicate 378 none
  statics := none }

def pool6 : Array CpInfo := pool [(1, u "java/io/Serializable"), (0, .class_ 1), (0, u "java/lang/Object"), (0, .class_ 3)] 3

/-- java/io/Serializable -/
def k6 : Class := { plain "java/io/Serializable" (some 0) with
  accessFlags := 1537
  interfaces := #[]
  cf := some (fileOf pool6 2 #[] #[] 1537 4 #[] #[])
  fields := #[]
  methods := #[]
  instanceTypes := #[]
  staticTypes := #[]
  resolved := Array.replicate 8 none
  statics := none }

/-- the primitive byte -/
def k7 : Class := { plain "byte" none with kind := .primitive 'B', accessFlags := 0x411 }
/-- [B -/
def k8 : Class := { plain "[B" (some 0) with kind := .array 7 .byte, interfaces := #[3, 6], accessFlags := 1041 }

/-- the primitive int -/
def k9 : Class := { plain "int" none with kind := .primitive 'I', accessFlags := 0x411 }
/-- [I -/
def k10 : Class := { plain "[I" (some 0) with kind := .array 9 .int, interfaces := #[3, 6], accessFlags := 1041 }

def heap : Heap := #[]
def classes : Array Class := #[k0, k1, k2, k3, k4, k5, k6, k7, k8, k9, k10]
def interned : List (Array UInt16 × Addr) := []
def slotsUsed : Nat := 0
def theMethod : MethodId := ⟨1, 1⟩
def args0 : Array Value := #[.int 2, .int 5, .int 7, .int 9]
def aboutOver (below : List Frame) : State where
  vm := { classes := classes, interned := interned.toArray }
  heap := heap
  slotsUsed := slotsUsed
  threads := #[{ frames := .invoking theMethod args0 :: below }]
def below0 : List Frame := [.native { method := ⟨0, 0⟩, args := #[] }]
def about1 : State := aboutOver below0
def p0 : Program := .bare "" "" ""
def e0 : Env := launch0.env 0 0 0
theorem w_frames : about1.frames = Frame.invoking theMethod args0 :: below0 := rfl
set_option maxRecDepth 65536 in
theorem w_args : argsFit about1.vm theMethod args0 = true := by decide +kernel
set_option maxRecDepth 65536 in
theorem w_heap : heapFits about1 = true := by decide +kernel
set_option maxRecDepth 65536 in
theorem w_runnable : about1.curStatus? = some .runnable := by decide +kernel
set_option maxRecDepth 65536 in
theorem w_alone : about1.alone = true := by decide +kernel
set_option maxRecDepth 65536 in
theorem w_named : about1.methodNamed? x = some theMethod := by decide +kernel
set_option maxRecDepth 65536 in
theorem w_hears : about1.hears theMethod below0 = true := by decide +kernel
set_option maxRecDepth 65536 in
theorem w_ripe : about1.ripe theMethod args0 below0 = true := by decide +kernel
theorem w_running : about1.status = .running := rfl
set_option maxRecDepth 65536 in
theorem w_room : about1.hasRoom e0.platform room_1 = true :=
  launch0.hasRoom_least _ room_1 (by decide +kernel) (by decide +kernel) (by decide +kernel) (by decide +kernel) (by decide +kernel) (by decide +kernel)
theorem allAtoms_all (ts : List Jvm.Cond) (a : Array Jvm.Value) (st : Jvm.State) : (allAtoms ts).before a st = ts.all (fun c => c.before a st) := by
  induction ts with
  | nil => rfl
  | cons c t ih =>
    show (Jvm.Cond.and c (allAtoms t)).before a st = _
    rw [Jvm.Cond.before_and, ih, List.all_cons]
def words1 : List Jvm.Cond := Jvm.Cond.code x code maxLocals ret :: tables_1
/-- a 'code' word, met by the world's own term for the bytes: nothing is compared byte by byte -/
theorem code_word {y : MethodName} {bytes : ByteArray} {mx : Nat} {rt : Option FieldType} {a : Array Value} {s : State} {m : MethodId} {meth : Method} {c : Code} (h1 : s.methodNamed? y = some m) (h2 : s.vm.method? m = some meth) (h3 : meth.code = some c) (h4 : c.code = bytes)
    (h5 : (c.maxLocals == mx && c.exceptionTable.isEmpty && decide (c.maxStack ≤ mostOperands) && decide (meth.sig.returnType = rt) && !meth.locks && decide (parseMethodDescriptor y.desc = some meth.sig)) = true) : (Jvm.Cond.code y bytes mx rt).before a s = true := by
  simp only [Bool.and_eq_true, beq_iff_eq, Bool.not_eq_true', decide_eq_true_eq] at h5
  obtain ⟨⟨⟨⟨⟨g1, g2⟩, g3⟩, g4⟩, g5⟩, g6⟩ := h5
  simp [Cond.before, Cond.holds, Cond.value, h1, h2, h3, h4, g1, g2, g3, g4, g5, g6]
def isCode : Jvm.Cond → Bool
  | .code _ _ _ _ => true
  | _ => false
theorem all_split {L : List Jvm.Cond} {P : Jvm.Cond → Bool} (h1 : L.all (fun c => isCode c || P c) = true) (h2 : ∀ c ∈ L.filter isCode, P c = true) : L.all P = true := by
  refine List.all_eq_true.mpr fun c hc => ?_
  have h := List.all_eq_true.mp h1 c hc
  rcases Bool.eq_false_or_eq_true (isCode c) with hi | hi
  · exact h2 c (List.mem_filter.mpr ⟨hc, hi⟩)
  · simpa [hi] using h
set_option maxRecDepth 65536 in
theorem w_c0 : (Jvm.Cond.code x code maxLocals ret).before args0 about1 = true := code_word (m := ⟨1, 1⟩) (meth := k1m1) (c := k1c1) (by decide +kernel) rfl rfl rfl (by decide +kernel)
set_option maxRecDepth 65536 in
theorem w_c1 : (Jvm.Cond.code ({ cls := "com/example/mirrorlog/mirrorlog/core/undo/Bytes", name := "of", desc := "([B)Lcom/example/mirrorlog/mirrorlog/core/undo/Bytes;" } : Jvm.MethodName) prog_44_method_2_code (1 : Nat) (Option.some (Jvm.ClassFile.FieldType.object "com/example/mirrorlog/mirrorlog/core/undo/Bytes"))).before args0 about1 = true := code_word (m := ⟨2, 1⟩) (meth := k2m1) (c := k2c1) (by decide +kernel) rfl rfl rfl (by decide +kernel)
set_option maxRecDepth 65536 in
theorem w_c2 : (Jvm.Cond.code ({ cls := "com/example/mirrorlog/mirrorlog/core/undo/Bytes", name := "<init>", desc := "([B)V" } : Jvm.MethodName) prog_44_method_1_code (2 : Nat) (Option.none : Option Jvm.ClassFile.FieldType)).before args0 about1 = true := code_word (m := ⟨2, 0⟩) (meth := k2m0) (c := k2c0) (by decide +kernel) rfl rfl rfl (by decide +kernel)
set_option maxRecDepth 65536 in
theorem w_c3 : (Jvm.Cond.code ({ cls := "java/lang/Object", name := "<init>", desc := "()V" } : Jvm.MethodName) object_method_1_code (1 : Nat) (Option.none : Option Jvm.ClassFile.FieldType)).before args0 about1 = true := code_word (m := ⟨0, 0⟩) (meth := k0m0) (c := k0c0) (by decide +kernel) rfl rfl rfl (by decide +kernel)
set_option maxRecDepth 65536 in
theorem w_c4 : (Jvm.Cond.code ({ cls := "com/example/mirrorlog/mirrorlog/core/undo/Bytes", name := "toArray", desc := "()[B" } : Jvm.MethodName) prog_44_method_4_code (1 : Nat) (Option.some (Jvm.ClassFile.FieldType.array Jvm.ClassFile.FieldType.byte))).before args0 about1 = true := code_word (m := ⟨2, 2⟩) (meth := k2m2) (c := k2c2) (by decide +kernel) rfl rfl rfl (by decide +kernel)
set_option maxRecDepth 65536 in
theorem w_c5 : (Jvm.Cond.code ({ cls := "com/example/mirrorlog/mirrorlog/core/undo/Bytes", name := "equals", desc := "(Ljava/lang/Object;)Z" } : Jvm.MethodName) prog_44_method_6_code (3 : Nat) (Option.some Jvm.ClassFile.FieldType.boolean)).before args0 about1 = true := code_word (m := ⟨2, 3⟩) (meth := k2m3) (c := k2c3) (by decide +kernel) rfl rfl rfl (by decide +kernel)
set_option maxRecDepth 65536 in
theorem w_c6 : (Jvm.Cond.code ({ cls := "java/util/Arrays", name := "equals", desc := "([B[B)Z" } : Jvm.MethodName) jdk_65_method_89_code (3 : Nat) (Option.some Jvm.ClassFile.FieldType.boolean)).before args0 about1 = true := code_word (m := ⟨4, 1⟩) (meth := k4m1) (c := k4c1) (by decide +kernel) rfl rfl rfl (by decide +kernel)
set_option maxRecDepth 65536 in
theorem w_c7 : (Jvm.Cond.code ({ cls := "jdk/internal/util/ArraysSupport", name := "mismatch", desc := "([B[BI)I" } : Jvm.MethodName) jdk_48_method_13_code (4 : Nat) (Option.some Jvm.ClassFile.FieldType.int)).before args0 about1 = true := code_word (m := ⟨5, 1⟩) (meth := k5m1) (c := k5c1) (by decide +kernel) rfl rfl rfl (by decide +kernel)
def codes1 : List Jvm.Cond := [Jvm.Cond.code x code maxLocals ret, Jvm.Cond.code ({ cls := "com/example/mirrorlog/mirrorlog/core/undo/Bytes", name := "of", desc := "([B)Lcom/example/mirrorlog/mirrorlog/core/undo/Bytes;" } : Jvm.MethodName) prog_44_method_2_code (1 : Nat) (Option.some (Jvm.ClassFile.FieldType.object "com/example/mirrorlog/mirrorlog/core/undo/Bytes")), Jvm.Cond.code ({ cls := "com/example/mirrorlog/mirrorlog/core/undo/Bytes", name := "<init>", desc := "([B)V" } : Jvm.MethodName) prog_44_method_1_code (2 : Nat) (Option.none : Option Jvm.ClassFile.FieldType), Jvm.Cond.code ({ cls := "java/lang/Object", name := "<init>", desc := "()V" } : Jvm.MethodName) object_method_1_code (1 : Nat) (Option.none : Option Jvm.ClassFile.FieldType), Jvm.Cond.code ({ cls := "com/example/mirrorlog/mirrorlog/core/undo/Bytes", name := "toArray", desc := "()[B" } : Jvm.MethodName) prog_44_method_4_code (1 : Nat) (Option.some (Jvm.ClassFile.FieldType.array Jvm.ClassFile.FieldType.byte)), Jvm.Cond.code ({ cls := "com/example/mirrorlog/mirrorlog/core/undo/Bytes", name := "equals", desc := "(Ljava/lang/Object;)Z" } : Jvm.MethodName) prog_44_method_6_code (3 : Nat) (Option.some Jvm.ClassFile.FieldType.boolean), Jvm.Cond.code ({ cls := "java/util/Arrays", name := "equals", desc := "([B[B)Z" } : Jvm.MethodName) jdk_65_method_89_code (3 : Nat) (Option.some Jvm.ClassFile.FieldType.boolean), Jvm.Cond.code ({ cls := "jdk/internal/util/ArraysSupport", name := "mismatch", desc := "([B[BI)I" } : Jvm.MethodName) jdk_48_method_13_code (4 : Nat) (Option.some Jvm.ClassFile.FieldType.int)]
set_option maxRecDepth 65536 in
theorem codes_eq : words1.filter isCode = codes1 := rfl
theorem w_codes : ∀ c ∈ words1.filter isCode, c.before args0 about1 = true := by
  rw [codes_eq]
  intro c hc
  simp only [codes1, List.mem_cons, List.not_mem_nil, or_false] at hc
  rcases hc with rfl | rfl | rfl | rfl | rfl | rfl | rfl | rfl
  · exact w_c0
  · exact w_c1
  · exact w_c2
  · exact w_c3
  · exact w_c4
  · exact w_c5
  · exact w_c6
  · exact w_c7
set_option maxRecDepth 65536 in
theorem w_t1 : (words1.take 24).all (fun c => isCode c || c.before args0 about1) = true := by decide +kernel
set_option maxRecDepth 65536 in
theorem w_t2 : (words1.drop 24).all (fun c => isCode c || c.before args0 about1) = true := by decide +kernel
theorem w_tables : (allAtoms (Jvm.Cond.code x code maxLocals ret :: tables_1)).before args0 about1 = true := by
  rw [allAtoms_all]
  show words1.all (fun c => c.before args0 about1) = true
  refine all_split ?_ w_codes
  rw [← List.take_append_drop 24 words1, List.all_append, w_t1, w_t2]
  rfl
set_option maxRecDepth 65536 in
theorem w_case : (Jvm.Cond.and given_1 narrow_1).before args0 about1 = true := by decide +kernel
theorem w_applies : (headSpec (Jvm.Cond.code x code maxLocals ret :: tables_1) room_1).applies x e0.platform about1 = true :=
  (Spec.applies_iff w_frames).mpr ⟨w_running, w_runnable, w_alone, w_named, w_hears, w_ripe, w_room, w_tables⟩
theorem atStart : AtStart classFile x code maxLocals ret World_1 tables_1 room_1 Calls_1 rest_1 Pre_1 launch0 p0 e0 about1 theMethod args0 below0 :=
  ⟨lists_1, trivial, launch0.admits_env _ _ _, launch0.least_env, fairChoices_fair.cas, fairChoices_fair.clock, w_frames, w_args, w_heap, w_applies, trivial, trivial, w_case⟩
end start1
theorem witness_1 : WitnessClaimed_1 := ⟨start1.p0, start1.e0, start1.about1, start1.theMethod, start1.args0, start1.below0, start1.atStart⟩
end Jvm.Pilot.@@N@@
