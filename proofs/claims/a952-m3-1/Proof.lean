import JvmDerived
import JvmDerived.Pilot.@@N@@Statement
import JvmDerived.Pilot.@@N@@Code
set_option linter.unusedVariables false
set_option linter.unusedSimpArgs false
namespace Jvm.RoadKit
open Sem ClassFile Op Lib Jvm.Stand Jvm.Free Jvm.LawKit
section New
variable {p : Program} {l : Launch} {e : Env} {R : Room} {s : State} {m : MethodId} {args : Array Value} {below : List Frame} {meth : Method} {c : Code} {T : State} {locs : List Loc} {cells slots : Nat}
theorem retI (X : Stand p l e R s m args below meth c T locs cells slots) (hx : p.tables.exec = Jvm.exec) {pc : Nat} {Ls : Array Slot} {z : Int32} {rest : List Value} (hret : meth.sig.returnType = some .int) (hd : decode c.code pc = .ok (.ireturn, 1)) {fs : List Frame}
    (hl : ∀ (f : JFrame) (acts : List Action), f.method = m → f.locked = none → f.entered = [] → (doReturn e (T.setTop f) acts (some (.int z))).1 = T.setFrames fs) : Steps p.tables e below (T.setTop (mkF m pc Ls (.int z :: rest))) (T.setFrames fs) := by
  have hm' : T.vm.method? m = some meth := X.method'
  have hn : narrow .int (.int z) = .int z := rfl
  show Steps p.tables e below (T.setTop { method := m, pc := pc, locals := Ls, stack := _ :: rest, locked := none }) _
  jvm_step X.here [X.here.top, hx, hd, hm', hret, hn]
  first | (intro acts; rw [hl _ acts rfl rfl rfl]) | rw [hl _ _ rfl rfl rfl]
  exact Steps.refl _
end New
end Jvm.RoadKit
namespace Jvm.Pilot.@@N@@
open Jvm Jvm.ClassFile Sem Op Lib Jvm.Free Jvm.Stand Jvm.LawKit Jvm.RoadKit Bundle Jvm.Pilot.@@N@@.Jvm.D
def own_tp (n : Int32) : Int32 := if (40 : Int32) < n then 0 else 1
def own_ex (n : Int32) : Int32 := own_tp n
theorem own_c1 : ¬ (own_tp (40 : Int32) = (0 : Int32)) := by decide
theorem own_c2 : own_tp (41 : Int32) = (0 : Int32) := by decide
theorem own_c3 : ¬ (own_tp (-2147483648 : Int32) = (0 : Int32)) := by decide
theorem own_c4 : own_tp (2147483647 : Int32) = (0 : Int32) := by decide
theorem d1_0 : decode prog_26_method_6_code 0 = .ok (.aload_n 0, 1) := by decide +kernel
theorem d1_1 : decode prog_26_method_6_code 1 = .ok (.getfield 30, 3) := by decide +kernel
theorem d1_4 : decode prog_26_method_6_code 4 = .ok (.ireturn, 1) := by decide +kernel
theorem pn_com_example_rollbook_rollbook_CompositionRules : plainName "com/example/rollbook/rollbook/CompositionRules" = true := by first | (simp [plainName, overriddenIn]; done) | decide +kernel
theorem ef_own_most (m : MethodId) (x0 : Addr) : entryFrame m #[(.ref x0)] 1 = mkF m 0 #[.val (.ref x0)] [] := by first | (simp [entryFrame, mkF, argsToLocals, Value.category]; done) | rfl
def Qown_most (Z : State) (a1 : Addr) (h0 : Heap) (n0 : Nat) (v : Option Value) (h : Heap) (L : List Loc) : Prop := v = some (.int (40 : Int32)) ∧ Fr n0 L ∧ h = h0
set_option maxRecDepth 65536 in
set_option maxHeartbeats 40000000 in
theorem own_most (l : Launch) (Z : State) (a0 : Array Value) (hw : ∀ d ∈ tables_1, d.before a0 Z = true) (ws : List Jvm.Cond) (a1 : Addr) (h0 : Heap) (n0 : Nat) (Z0 : n0 ≤ h0.size) (F1 : Fld Z h0 a1 "com/example/rollbook/rollbook/CompositionRules" "mostEntitiesCombined" "I" (.int (40 : Int32))) :
    MetFree l (⟨"com/example/rollbook/rollbook/CompositionRules", "mostEntitiesCombined", "()I"⟩ : MethodName) (head1 (Jvm.Cond.code (⟨"com/example/rollbook/rollbook/CompositionRules", "mostEntitiesCombined", "()I"⟩ : MethodName) prog_26_method_6_code 1 (some .int) :: ws) ({ frames := 0, cells := 0, slots := 0, locals := 0 } : Room)) (fun a U => a = #[(.ref a1)] ∧ Z.Warmed39 U.vm ∧ U.heap = h0) (fun _ _ _ _ _ => True) (fun _ U o U' => ∃ v L, o = .returned v ∧ Qown_most Z a1 h0 n0 v U'.heap L ∧ FrameEnd U o U' L ({ frames := 0, cells := 0, slots := 0, locals := 0 } : Room).cells ({ frames := 0, cells := 0, slots := 0, locals := 0 } : Room).slots) := by
  refine MetFree.of_bodySF (plainFor_of_name pn_com_example_rollbook_rollbook_CompositionRules) hisR ?_
  intro p e s m args below meth c s₁ Bd hml0 hP hK
  obtain ⟨rfl, hZ, hh⟩ := hP
  have hx := Bd.exec
  have hby := Bd.bytes
  have hml : c.maxLocals = 1 := hml0
  have hown : s.vm.findClass "com/example/rollbook/rollbook/CompositionRules" = some m.cls := findClass_of_methodNamed Bd.named
  have hnm := (name_of_methodNamed Bd.named Bd.method).1
  have X0 : Stand p l e ({ frames := 0, cells := 0, slots := 0, locals := 0 } : Room) s m #[(.ref a1)] below meth c s₁ [] 0 0 := Stand.of_body Bd
  have e0 : s₁.heap = h0 := by rw [← hh, Bd.state]; rfl
  have N0 := Fr.nil n0
  have pre0 : ∀ t, Steps p.tables e below (s₁.setTop (mkF m 0 #[.val (.ref a1)] [])) t → Steps p.tables e below (s₁.setTop (entryFrame m #[(.ref a1)] 1)) t := fun t k => castTop (ef_own_most m (a1)) k
  obtain ⟨T1, X1, e1, st1⟩ := getF X0 hx hZ hown (host := "") (Or.inl (hw _ (List.mem_of_getElem? (i := 8) rfl))) Via.refl e0 F1 (g := (mkF m 1 #[.val (.ref a1)] [(.ref a1)])) rfl rfl (hb hby d1_1)
  obtain ⟨fs, hr, hrun, hended, hW, hsame⟩ := X1.leave (v := some (.int (40 : Int32))) (fun h => by rw [Bd.returns] at h; cases h)
  refine ⟨_, _, pre0 _ ?_, hrun, hended, _, _, rfl, ?_, ⟨_, rfl⟩, hW, hsame.mono (by decide) (by decide)⟩
  · show Steps p.tables e below (s₁.setTop (mkF m 0 #[.val (.ref a1)] [])) _
    refine XS.aloadN X0.here hx rfl (hb hby d1_0) rfl rfl ?_
    show Steps p.tables e below (s₁.setTop (mkF m 1 #[.val (.ref a1)] [(.ref a1)])) _
    refine st1 _ ?_
    show Steps p.tables e below (T1.setTop (mkF m 4 #[.val (.ref a1)] [(.int (40 : Int32))])) _
    exact retI X1 hx Bd.returns (hb hby d1_4) hr
  · show Qown_most Z a1 h0 n0 _ T1.heap _
    rw [e1]
    exact ⟨rfl, N0, rfl⟩
theorem d2_0 : decode prog_26_method_7_code 0 = .ok (.iload_n 1, 1) := by decide +kernel
theorem d2_1 : decode prog_26_method_7_code 1 = .ok (.aload_n 0, 1) := by decide +kernel
theorem d2_2 : decode prog_26_method_7_code 2 = .ok (.getfield 30, 3) := by decide +kernel
theorem d2_5 : decode prog_26_method_7_code 5 = .ok (.if_icmp .gt 7, 3) := by decide +kernel
theorem d2_12 : decode prog_26_method_7_code 12 = .ok (.iconst 0, 1) := by decide +kernel
theorem d2_13 : decode prog_26_method_7_code 13 = .ok (.ireturn, 1) := by decide +kernel
theorem d2_8 : decode prog_26_method_7_code 8 = .ok (.iconst 1, 1) := by decide +kernel
theorem d2_9 : decode prog_26_method_7_code 9 = .ok (.goto 4, 3) := by decide +kernel
theorem ef_own_takes (m : MethodId) (x0 : Addr) (x1 : Int32) : entryFrame m #[(.ref x0), (.int x1)] 2 = mkF m 0 #[.val (.ref x0), .val (.int x1)] [] := by first | (simp [entryFrame, mkF, argsToLocals, Value.category]; done) | rfl
def Qown_takes (Z : State) (a1 : Addr) (p1 : Int32) (h0 : Heap) (n0 : Nat) (v : Option Value) (h : Heap) (L : List Loc) : Prop := v = some (.int (own_tp p1)) ∧ Fr n0 L ∧ h = h0
set_option maxRecDepth 65536 in
set_option maxHeartbeats 40000000 in
theorem own_takes (l : Launch) (Z : State) (a0 : Array Value) (hw : ∀ d ∈ tables_1, d.before a0 Z = true) (ws : List Jvm.Cond) (a1 : Addr) (p1 : Int32) (h0 : Heap) (n0 : Nat) (Z0 : n0 ≤ h0.size) (F1 : Fld Z h0 a1 "com/example/rollbook/rollbook/CompositionRules" "mostEntitiesCombined" "I" (.int (40 : Int32))) :
    MetFree l (⟨"com/example/rollbook/rollbook/CompositionRules", "takesPreceding", "(I)Z"⟩ : MethodName) (head1 (Jvm.Cond.code (⟨"com/example/rollbook/rollbook/CompositionRules", "takesPreceding", "(I)Z"⟩ : MethodName) prog_26_method_7_code 2 (some .boolean) :: ws) ({ frames := 0, cells := 0, slots := 0, locals := 0 } : Room)) (fun a U => a = #[(.ref a1), (.int p1)] ∧ Z.Warmed39 U.vm ∧ U.heap = h0) (fun _ _ _ _ _ => True) (fun _ U o U' => ∃ v L, o = .returned v ∧ Qown_takes Z a1 p1 h0 n0 v U'.heap L ∧ FrameEnd U o U' L ({ frames := 0, cells := 0, slots := 0, locals := 0 } : Room).cells ({ frames := 0, cells := 0, slots := 0, locals := 0 } : Room).slots) := by
  refine MetFree.of_bodySF (plainFor_of_name pn_com_example_rollbook_rollbook_CompositionRules) hisR ?_
  intro p e s m args below meth c s₁ Bd hml0 hP hK
  obtain ⟨rfl, hZ, hh⟩ := hP
  have hx := Bd.exec
  have hby := Bd.bytes
  have hml : c.maxLocals = 2 := hml0
  have hown : s.vm.findClass "com/example/rollbook/rollbook/CompositionRules" = some m.cls := findClass_of_methodNamed Bd.named
  have hnm := (name_of_methodNamed Bd.named Bd.method).1
  have X0 : Stand p l e ({ frames := 0, cells := 0, slots := 0, locals := 0 } : Room) s m #[(.ref a1), (.int p1)] below meth c s₁ [] 0 0 := Stand.of_body Bd
  have e0 : s₁.heap = h0 := by rw [← hh, Bd.state]; rfl
  have N0 := Fr.nil n0
  have pre0 : ∀ t, Steps p.tables e below (s₁.setTop (mkF m 0 #[.val (.ref a1), .val (.int p1)] [])) t → Steps p.tables e below (s₁.setTop (entryFrame m #[(.ref a1), (.int p1)] 2)) t := fun t k => castTop (ef_own_takes m (a1) (p1)) k
  obtain ⟨T1, X1, e1, st1⟩ := getF X0 hx hZ hown (host := "") (Or.inl (hw _ (List.mem_of_getElem? (i := 8) rfl))) Via.refl e0 F1 (g := (mkF m 2 #[.val (.ref a1), .val (.int p1)] [(.ref a1), (.int p1)])) rfl rfl (hb hby d2_2)
  by_cases hc : (40 : Int32) < p1
  · obtain ⟨fs, hr, hrun, hended, hW, hsame⟩ := X1.leave (v := some (.int (0 : Int32))) (fun h => by rw [Bd.returns] at h; cases h)
    refine ⟨_, _, pre0 _ ?_, hrun, hended, _, _, rfl, ?_, ⟨_, rfl⟩, hW, hsame.mono (by decide) (by decide)⟩
    · show Steps p.tables e below (s₁.setTop (mkF m 0 #[.val (.ref a1), .val (.int p1)] [])) _
      refine XS.iloadN X0.here hx rfl (hb hby d2_0) rfl ?_
      show Steps p.tables e below (s₁.setTop (mkF m 1 #[.val (.ref a1), .val (.int p1)] [(.int p1)])) _
      refine XS.aloadN X0.here hx rfl (hb hby d2_1) rfl rfl ?_
      show Steps p.tables e below (s₁.setTop (mkF m 2 #[.val (.ref a1), .val (.int p1)] [(.ref a1), (.int p1)])) _
      refine st1 _ ?_
      show Steps p.tables e below (T1.setTop (mkF m 5 #[.val (.ref a1), .val (.int p1)] [(.int (40 : Int32)), (.int p1)])) _
      refine XS.icmpYes X1.here hx rfl (pc0 := 5) (pc' := 12) rfl (hb hby d2_5) rfl (tlt (hc : (40 : Int32) < p1)).2.2.1 (by decide) (by decide) ?_
      show Steps p.tables e below (T1.setTop (mkF m 12 #[.val (.ref a1), .val (.int p1)] [])) _
      refine XS.iconst X1.here hx rfl (hb hby d2_12) ?_
      show Steps p.tables e below (T1.setTop (mkF m 13 #[.val (.ref a1), .val (.int p1)] [(.int (0 : Int32))])) _
      exact retN X1 hx (t := .boolean) Bd.returns (by simp) (hb hby d2_13) hr
    · show Qown_takes Z a1 p1 h0 n0 _ T1.heap _
      rw [e1]
      exact ⟨by simp [own_tp, hc], N0, rfl⟩
  · obtain ⟨fs, hr, hrun, hended, hW, hsame⟩ := X1.leave (v := some (.int (1 : Int32))) (fun h => by rw [Bd.returns] at h; cases h)
    refine ⟨_, _, pre0 _ ?_, hrun, hended, _, _, rfl, ?_, ⟨_, rfl⟩, hW, hsame.mono (by decide) (by decide)⟩
    · show Steps p.tables e below (s₁.setTop (mkF m 0 #[.val (.ref a1), .val (.int p1)] [])) _
      refine XS.iloadN X0.here hx rfl (hb hby d2_0) rfl ?_
      show Steps p.tables e below (s₁.setTop (mkF m 1 #[.val (.ref a1), .val (.int p1)] [(.int p1)])) _
      refine XS.aloadN X0.here hx rfl (hb hby d2_1) rfl rfl ?_
      show Steps p.tables e below (s₁.setTop (mkF m 2 #[.val (.ref a1), .val (.int p1)] [(.ref a1), (.int p1)])) _
      refine st1 _ ?_
      show Steps p.tables e below (T1.setTop (mkF m 5 #[.val (.ref a1), .val (.int p1)] [(.int (40 : Int32)), (.int p1)])) _
      refine XS.icmpNo X1.here hx rfl (hb hby d2_5) rfl (flt (hc : ¬ ((40 : Int32) < p1))).2.2.1 ?_
      show Steps p.tables e below (T1.setTop (mkF m 8 #[.val (.ref a1), .val (.int p1)] [])) _
      refine XS.iconst X1.here hx rfl (hb hby d2_8) ?_
      show Steps p.tables e below (T1.setTop (mkF m 9 #[.val (.ref a1), .val (.int p1)] [(.int (1 : Int32))])) _
      refine XS.goto X1.here hx rfl (pc0 := 9) (pc' := 13) rfl (hb hby d2_9) (by decide) (by decide) ?_
      show Steps p.tables e below (T1.setTop (mkF m 13 #[.val (.ref a1), .val (.int p1)] [(.int (1 : Int32))])) _
      exact retN X1 hx (t := .boolean) Bd.returns (by simp) (hb hby d2_13) hr
    · show Qown_takes Z a1 p1 h0 n0 _ T1.heap _
      rw [e1]
      exact ⟨by simp [own_tp, hc], N0, rfl⟩
theorem pd___I : parseMethodDescriptor "()I" = some ⟨[], some .int⟩ := by decide +kernel
theorem pd__I_Z : parseMethodDescriptor "(I)Z" = some ⟨[.int], some .boolean⟩ := by decide +kernel
theorem pn_com_example_rollbook_rollbook_CompositionRulesTakesPrecedingPinLaw : plainName "com/example/rollbook/rollbook/CompositionRulesTakesPrecedingPinLaw" = true := by first | (simp [plainName, overriddenIn]; done) | decide +kernel
theorem ef_own_law (m : MethodId) (x0 : Int32) (x1 : Int32) : entryFrame m #[(.int x0), (.int x1)] maxLocals = mkF m 0 #[.val (.int x0), .val (.int x1), .unset, .unset, .unset, .unset, .unset, .unset] [] := by first | (simp [entryFrame, mkF, argsToLocals, Value.category, maxLocals]; done) | rfl
def Qown_law (Z : State) (p1 : Int32) (p2 : Int32) (a1 : Addr) (h0 : Heap) (n0 : Nat) (v : Option Value) (h : Heap) (L : List Loc) : Prop := v = some (.int (1 : Int32)) ∧ Fr n0 L
set_option maxRecDepth 65536 in
set_option maxHeartbeats 40000000 in
theorem own_law (l : Launch) (Z : State) (a0 : Array Value) (hw : ∀ d ∈ tables_1, d.before a0 Z = true) (ws : List Jvm.Cond) (p1 : Int32) (p2 : Int32) (a1 : Addr) (h0 : Heap) (n0 : Nat) (Z0 : n0 ≤ h0.size) (S1 : Sta Z h0 "com/example/rollbook/rollbook/CompositionRules" "TRANCHE_ABX" "Lcom/example/rollbook/rollbook/CompositionRules;" (.ref a1)) (E1 : Exa Z h0 a1 "com/example/rollbook/rollbook/CompositionRules") (F1 : Fld Z h0 a1 "com/example/rollbook/rollbook/CompositionRules" "mostEntitiesCombined" "I" (.int (40 : Int32))) :
    MetFree l x (head1 (Jvm.Cond.code x code maxLocals ret :: ws) room_1) (fun a U => a = #[(.int p1), (.int p2)] ∧ Z.Warmed39 U.vm ∧ U.heap = h0) (fun _ _ _ _ _ => True) (fun _ U o U' => ∃ v L, o = .returned v ∧ Qown_law Z p1 p2 a1 h0 n0 v U'.heap L ∧ FrameEnd U o U' L room_1.cells room_1.slots) := by
  refine MetFree.of_bodySF (plainFor_of_name pn_com_example_rollbook_rollbook_CompositionRulesTakesPrecedingPinLaw) hisR ?_
  intro p e s m args below meth c s₁ Bd hml0 hP hK
  obtain ⟨rfl, hZ, hh⟩ := hP
  have hx := Bd.exec
  have hby := Bd.bytes
  have hml : c.maxLocals = 8 := hml0
  have hown : s.vm.findClass "com/example/rollbook/rollbook/CompositionRulesTakesPrecedingPinLaw" = some m.cls := findClass_of_methodNamed Bd.named
  have hnm := (name_of_methodNamed Bd.named Bd.method).1
  have X0 : Stand p l e room_1 s m #[(.int p1), (.int p2)] below meth c s₁ [] 0 0 := Stand.of_body Bd
  have e0 : s₁.heap = h0 := by rw [← hh, Bd.state]; rfl
  have N0 := Fr.nil n0
  have pre0 : ∀ t, Steps p.tables e below (s₁.setTop (mkF m 0 #[.val (.int p1), .val (.int p2), .unset, .unset, .unset, .unset, .unset, .unset] [])) t → Steps p.tables e below (s₁.setTop (entryFrame m #[(.int p1), (.int p2)] maxLocals)) t := fun t k => castTop (ef_own_law m (p1) (p2)) k
  obtain ⟨T1, X1, e1, st1⟩ := getS2 X0 hx hZ hown (host := "") (Or.inl (hw _ (List.mem_of_getElem? (i := 0) rfl))) Via.refl e0 S1 (g := (mkF m 0 #[.val (.int p1), .val (.int p2), .unset, .unset, .unset, .unset, .unset, .unset] [])) rfl (hb hby at_0)
  obtain ⟨cq2, kq2, q2a, q2b, q2c⟩ := isOf hZ e1 E1
  obtain ⟨_, _, ⟨T2, L2, k2, n2⟩, -, X2, ⟨Lc2, hQ2, l2, y2, z2⟩, st2⟩ := X1.virtualBack hx (y := (⟨"com/example/rollbook/rollbook/CompositionRules", "mostEntitiesCombined", "()I"⟩ : MethodName)) (z := (⟨"com/example/rollbook/rollbook/CompositionRules", "mostEntitiesCombined", "()I"⟩ : MethodName)) hown (mvT hZ (hw _ (List.mem_of_getElem? (i := 3) rfl))) (mvT hZ (hw _ (List.mem_of_getElem? (i := 4) rfl))) (notFace_of_selects (args := #[]) (mvT hZ (hw _ (List.mem_of_getElem? (i := 6) rfl)))) (mvT hZ (hw _ (List.mem_of_getElem? (i := 6) rfl))) (mvT hZ (hw _ (List.mem_of_getElem? (i := 5) rfl))) (by decide) (backOf (W := 0) (own_most l Z a0 hw [] a1  h0 n0 Z0 F1) hZ (hw _ (List.mem_of_getElem? (i := 7) rfl)) (hw _ (List.mem_of_getElem? (i := 1) rfl)) (by decide) (by decide)) q2a q2c (g := (mkF m 5 #[.val (.int p1), .val (.int p2), .val (.ref a1), .unset, .unset, .unset, .unset, .unset] [(.ref a1)])) rfl (by rw [hml]; rfl) (Steps.refl _) (argsL := []) (rest := []) (lenOf pd___I rfl) rfl (by show 2 * 0 + _ ≤ _; exact Nat.le_of_eq rfl) (hb hby at_5) (fun _ _ => ⟨rfl, e1, (by decide : 0 + 0 ≤ _), (by decide : 0 + 0 ≤ _)⟩)
  dsimp only [Pt.U, Pt.locs, Pt.cells, Pt.slots] at X2 l2 y2 z2 st2 hQ2
  subst l2 y2 z2
  obtain ⟨rfl, Nq2, e2⟩ := hQ2
  have N2 := Fr.app N0 Nq2
  obtain ⟨cq3, kq3, q3a, q3b, q3c⟩ := isOf hZ e2 E1
  obtain ⟨_, _, ⟨T3, L3, k3, n3⟩, -, X3, ⟨Lc3, hQ3, l3, y3, z3⟩, st3⟩ := X2.virtualBack hx (y := (⟨"com/example/rollbook/rollbook/CompositionRules", "takesPreceding", "(I)Z"⟩ : MethodName)) (z := (⟨"com/example/rollbook/rollbook/CompositionRules", "takesPreceding", "(I)Z"⟩ : MethodName)) hown (mvT hZ (hw _ (List.mem_of_getElem? (i := 10) rfl))) (mvT hZ (hw _ (List.mem_of_getElem? (i := 11) rfl))) (notFace_of_selects (args := #[]) (mvT hZ (hw _ (List.mem_of_getElem? (i := 13) rfl)))) (mvT hZ (hw _ (List.mem_of_getElem? (i := 13) rfl))) (mvT hZ (hw _ (List.mem_of_getElem? (i := 12) rfl))) (by decide) (backOf (W := 0) (own_takes l Z a0 hw [] a1 p1  h0 n0 Z0 F1) hZ (hw _ (List.mem_of_getElem? (i := 14) rfl)) (hw _ (List.mem_of_getElem? (i := 1) rfl)) (by decide) (by decide)) q3a q3c (g := (mkF m 21 #[.val (.int p1), .val (.int p2), .val (.ref a1), .val (.int (1 : Int32)), .unset, .unset, .unset, .unset] [(.int p1), (.ref a1)])) rfl (by rw [hml]; rfl) (Steps.refl _) (argsL := [(.int p1)]) (rest := []) (lenOf pd__I_Z rfl) rfl (by show 2 * 0 + _ ≤ _; exact Nat.le_of_eq rfl) (hb hby at_21) (fun _ _ => ⟨rfl, e2, (by decide : 0 + 0 ≤ _), (by decide : 0 + 0 ≤ _)⟩)
  dsimp only [Pt.U, Pt.locs, Pt.cells, Pt.slots] at X3 l3 y3 z3 st3 hQ3
  subst l3 y3 z3
  obtain ⟨rfl, Nq3, e3⟩ := hQ3
  have N3 := Fr.app N2 Nq3
  have sg21 : ∀ target, Steps p.tables e below (T3.setTop (mkF m 35 #[.val (.int p1), .val (.int p2), .val (.ref a1), .val (.int (1 : Int32)), .unset, .unset, .unset, .unset] [(.int (own_ex p1)), (.int (own_tp p1))])) target → Steps p.tables e below (T3.setTop (mkF m 27 #[.val (.int p1), .val (.int p2), .val (.ref a1), .val (.int (1 : Int32)), .unset, .unset, .unset, .unset] [(.int (40 : Int32)), (.int p1), (.int (own_tp p1))])) target := by
    intro target kt
    by_cases hk : (40 : Int32) < p1
    · rw [show own_ex p1 = _ from if_pos hk] at kt
      show Steps p.tables e below (T3.setTop (mkF m 27 #[.val (.int p1), .val (.int p2), .val (.ref a1), .val (.int (1 : Int32)), .unset, .unset, .unset, .unset] [(.int (40 : Int32)), (.int p1), (.int (own_tp p1))])) _
      refine XS.icmpYes X3.here hx rfl (pc0 := 27) (pc' := 34) rfl (hb hby at_27) rfl (tlt (hk : (40 : Int32) < p1)).2.2.1 (by decide) (by decide) ?_
      show Steps p.tables e below (T3.setTop (mkF m 34 #[.val (.int p1), .val (.int p2), .val (.ref a1), .val (.int (1 : Int32)), .unset, .unset, .unset, .unset] [(.int (own_tp p1))])) _
      refine XS.iconst X3.here hx rfl (hb hby at_34) ?_
      show Steps p.tables e below (T3.setTop (mkF m 35 #[.val (.int p1), .val (.int p2), .val (.ref a1), .val (.int (1 : Int32)), .unset, .unset, .unset, .unset] [(.int (0 : Int32)), (.int (own_tp p1))])) _
      exact kt
    · rw [show own_ex p1 = _ from if_neg hk] at kt
      show Steps p.tables e below (T3.setTop (mkF m 27 #[.val (.int p1), .val (.int p2), .val (.ref a1), .val (.int (1 : Int32)), .unset, .unset, .unset, .unset] [(.int (40 : Int32)), (.int p1), (.int (own_tp p1))])) _
      refine XS.icmpNo X3.here hx rfl (hb hby at_27) rfl (flt (hk : ¬ ((40 : Int32) < p1))).2.2.1 ?_
      show Steps p.tables e below (T3.setTop (mkF m 30 #[.val (.int p1), .val (.int p2), .val (.ref a1), .val (.int (1 : Int32)), .unset, .unset, .unset, .unset] [(.int (own_tp p1))])) _
      refine XS.iconst X3.here hx rfl (hb hby at_30) ?_
      show Steps p.tables e below (T3.setTop (mkF m 31 #[.val (.int p1), .val (.int p2), .val (.ref a1), .val (.int (1 : Int32)), .unset, .unset, .unset, .unset] [(.int (1 : Int32)), (.int (own_tp p1))])) _
      refine XS.goto X3.here hx rfl (pc0 := 31) (pc' := 35) rfl (hb hby at_31) (by decide) (by decide) ?_
      show Steps p.tables e below (T3.setTop (mkF m 35 #[.val (.int p1), .val (.int p2), .val (.ref a1), .val (.int (1 : Int32)), .unset, .unset, .unset, .unset] [(.int (1 : Int32)), (.int (own_tp p1))])) _
      exact kt
  obtain ⟨cq4, kq4, q4a, q4b, q4c⟩ := isOf hZ e3 E1
  obtain ⟨_, _, ⟨T4, L4, k4, n4⟩, -, X4, ⟨Lc4, hQ4, l4, y4, z4⟩, st4⟩ := X3.virtualBack hx (y := (⟨"com/example/rollbook/rollbook/CompositionRules", "takesPreceding", "(I)Z"⟩ : MethodName)) (z := (⟨"com/example/rollbook/rollbook/CompositionRules", "takesPreceding", "(I)Z"⟩ : MethodName)) hown (mvT hZ (hw _ (List.mem_of_getElem? (i := 10) rfl))) (mvT hZ (hw _ (List.mem_of_getElem? (i := 11) rfl))) (notFace_of_selects (args := #[]) (mvT hZ (hw _ (List.mem_of_getElem? (i := 13) rfl)))) (mvT hZ (hw _ (List.mem_of_getElem? (i := 13) rfl))) (mvT hZ (hw _ (List.mem_of_getElem? (i := 12) rfl))) (by decide) (backOf (W := 0) (own_takes l Z a0 hw [] a1 p2  h0 n0 Z0 F1) hZ (hw _ (List.mem_of_getElem? (i := 14) rfl)) (hw _ (List.mem_of_getElem? (i := 1) rfl)) (by decide) (by decide)) q4a q4c (g := (mkF m 47 #[.val (.int p1), .val (.int p2), .val (.ref a1), .val (.int (1 : Int32)), .val (.int (1 : Int32)), .unset, .unset, .unset] [(.int p2), (.ref a1)])) rfl (by rw [hml]; rfl) (Steps.refl _) (argsL := [(.int p2)]) (rest := []) (lenOf pd__I_Z rfl) rfl (by show 2 * 0 + _ ≤ _; exact Nat.le_of_eq rfl) (hb hby at_47) (fun _ _ => ⟨rfl, e3, (by decide : 0 + 0 ≤ _), (by decide : 0 + 0 ≤ _)⟩)
  dsimp only [Pt.U, Pt.locs, Pt.cells, Pt.slots] at X4 l4 y4 z4 st4 hQ4
  subst l4 y4 z4
  obtain ⟨rfl, Nq4, e4⟩ := hQ4
  have N4 := Fr.app N3 Nq4
  have sg47 : ∀ target, Steps p.tables e below (T4.setTop (mkF m 61 #[.val (.int p1), .val (.int p2), .val (.ref a1), .val (.int (1 : Int32)), .val (.int (1 : Int32)), .unset, .unset, .unset] [(.int (own_ex p2)), (.int (own_tp p2))])) target → Steps p.tables e below (T4.setTop (mkF m 53 #[.val (.int p1), .val (.int p2), .val (.ref a1), .val (.int (1 : Int32)), .val (.int (1 : Int32)), .unset, .unset, .unset] [(.int (40 : Int32)), (.int p2), (.int (own_tp p2))])) target := by
    intro target kt
    by_cases hk : (40 : Int32) < p2
    · rw [show own_ex p2 = _ from if_pos hk] at kt
      show Steps p.tables e below (T4.setTop (mkF m 53 #[.val (.int p1), .val (.int p2), .val (.ref a1), .val (.int (1 : Int32)), .val (.int (1 : Int32)), .unset, .unset, .unset] [(.int (40 : Int32)), (.int p2), (.int (own_tp p2))])) _
      refine XS.icmpYes X4.here hx rfl (pc0 := 53) (pc' := 60) rfl (hb hby at_53) rfl (tlt (hk : (40 : Int32) < p2)).2.2.1 (by decide) (by decide) ?_
      show Steps p.tables e below (T4.setTop (mkF m 60 #[.val (.int p1), .val (.int p2), .val (.ref a1), .val (.int (1 : Int32)), .val (.int (1 : Int32)), .unset, .unset, .unset] [(.int (own_tp p2))])) _
      refine XS.iconst X4.here hx rfl (hb hby at_60) ?_
      show Steps p.tables e below (T4.setTop (mkF m 61 #[.val (.int p1), .val (.int p2), .val (.ref a1), .val (.int (1 : Int32)), .val (.int (1 : Int32)), .unset, .unset, .unset] [(.int (0 : Int32)), (.int (own_tp p2))])) _
      exact kt
    · rw [show own_ex p2 = _ from if_neg hk] at kt
      show Steps p.tables e below (T4.setTop (mkF m 53 #[.val (.int p1), .val (.int p2), .val (.ref a1), .val (.int (1 : Int32)), .val (.int (1 : Int32)), .unset, .unset, .unset] [(.int (40 : Int32)), (.int p2), (.int (own_tp p2))])) _
      refine XS.icmpNo X4.here hx rfl (hb hby at_53) rfl (flt (hk : ¬ ((40 : Int32) < p2))).2.2.1 ?_
      show Steps p.tables e below (T4.setTop (mkF m 56 #[.val (.int p1), .val (.int p2), .val (.ref a1), .val (.int (1 : Int32)), .val (.int (1 : Int32)), .unset, .unset, .unset] [(.int (own_tp p2))])) _
      refine XS.iconst X4.here hx rfl (hb hby at_56) ?_
      show Steps p.tables e below (T4.setTop (mkF m 57 #[.val (.int p1), .val (.int p2), .val (.ref a1), .val (.int (1 : Int32)), .val (.int (1 : Int32)), .unset, .unset, .unset] [(.int (1 : Int32)), (.int (own_tp p2))])) _
      refine XS.goto X4.here hx rfl (pc0 := 57) (pc' := 61) rfl (hb hby at_57) (by decide) (by decide) ?_
      show Steps p.tables e below (T4.setTop (mkF m 61 #[.val (.int p1), .val (.int p2), .val (.ref a1), .val (.int (1 : Int32)), .val (.int (1 : Int32)), .unset, .unset, .unset] [(.int (1 : Int32)), (.int (own_tp p2))])) _
      exact kt
  obtain ⟨cq5, kq5, q5a, q5b, q5c⟩ := isOf hZ e4 E1
  obtain ⟨_, _, ⟨T5, L5, k5, n5⟩, -, X5, ⟨Lc5, hQ5, l5, y5, z5⟩, st5⟩ := X4.virtualBack hx (y := (⟨"com/example/rollbook/rollbook/CompositionRules", "takesPreceding", "(I)Z"⟩ : MethodName)) (z := (⟨"com/example/rollbook/rollbook/CompositionRules", "takesPreceding", "(I)Z"⟩ : MethodName)) hown (mvT hZ (hw _ (List.mem_of_getElem? (i := 10) rfl))) (mvT hZ (hw _ (List.mem_of_getElem? (i := 11) rfl))) (notFace_of_selects (args := #[]) (mvT hZ (hw _ (List.mem_of_getElem? (i := 13) rfl)))) (mvT hZ (hw _ (List.mem_of_getElem? (i := 13) rfl))) (mvT hZ (hw _ (List.mem_of_getElem? (i := 12) rfl))) (by decide) (backOf (W := 0) (own_takes l Z a0 hw [] a1 (40 : Int32)  h0 n0 Z0 F1) hZ (hw _ (List.mem_of_getElem? (i := 14) rfl)) (hw _ (List.mem_of_getElem? (i := 1) rfl)) (by decide) (by decide)) q5a q5c (g := (mkF m 74 #[.val (.int p1), .val (.int p2), .val (.ref a1), .val (.int (1 : Int32)), .val (.int (1 : Int32)), .val (.int (1 : Int32)), .unset, .unset] [(.int (40 : Int32)), (.ref a1)])) rfl (by rw [hml]; rfl) (Steps.refl _) (argsL := [(.int (40 : Int32))]) (rest := []) (lenOf pd__I_Z rfl) rfl (by show 2 * 0 + _ ≤ _; exact Nat.le_of_eq rfl) (hb hby at_74) (fun _ _ => ⟨rfl, e4, (by decide : 0 + 0 ≤ _), (by decide : 0 + 0 ≤ _)⟩)
  dsimp only [Pt.U, Pt.locs, Pt.cells, Pt.slots] at X5 l5 y5 z5 st5 hQ5
  subst l5 y5 z5
  obtain ⟨rfl, Nq5, e5⟩ := hQ5
  have N5 := Fr.app N4 Nq5
  obtain ⟨cq6, kq6, q6a, q6b, q6c⟩ := isOf hZ e5 E1
  obtain ⟨_, _, ⟨T6, L6, k6, n6⟩, -, X6, ⟨Lc6, hQ6, l6, y6, z6⟩, st6⟩ := X5.virtualBack hx (y := (⟨"com/example/rollbook/rollbook/CompositionRules", "takesPreceding", "(I)Z"⟩ : MethodName)) (z := (⟨"com/example/rollbook/rollbook/CompositionRules", "takesPreceding", "(I)Z"⟩ : MethodName)) hown (mvT hZ (hw _ (List.mem_of_getElem? (i := 10) rfl))) (mvT hZ (hw _ (List.mem_of_getElem? (i := 11) rfl))) (notFace_of_selects (args := #[]) (mvT hZ (hw _ (List.mem_of_getElem? (i := 13) rfl)))) (mvT hZ (hw _ (List.mem_of_getElem? (i := 13) rfl))) (mvT hZ (hw _ (List.mem_of_getElem? (i := 12) rfl))) (by decide) (backOf (W := 0) (own_takes l Z a0 hw [] a1 (41 : Int32)  h0 n0 Z0 F1) hZ (hw _ (List.mem_of_getElem? (i := 14) rfl)) (hw _ (List.mem_of_getElem? (i := 1) rfl)) (by decide) (by decide)) q6a q6c (g := (mkF m 83 #[.val (.int p1), .val (.int p2), .val (.ref a1), .val (.int (1 : Int32)), .val (.int (1 : Int32)), .val (.int (1 : Int32)), .unset, .unset] [(.int (41 : Int32)), (.ref a1)])) rfl (by rw [hml]; rfl) (Steps.refl _) (argsL := [(.int (41 : Int32))]) (rest := []) (lenOf pd__I_Z rfl) rfl (by show 2 * 0 + _ ≤ _; exact Nat.le_of_eq rfl) (hb hby at_83) (fun _ _ => ⟨rfl, e5, (by decide : 0 + 0 ≤ _), (by decide : 0 + 0 ≤ _)⟩)
  dsimp only [Pt.U, Pt.locs, Pt.cells, Pt.slots] at X6 l6 y6 z6 st6 hQ6
  subst l6 y6 z6
  obtain ⟨rfl, Nq6, e6⟩ := hQ6
  have N6 := Fr.app N5 Nq6
  obtain ⟨cq7, kq7, q7a, q7b, q7c⟩ := isOf hZ e6 E1
  obtain ⟨_, _, ⟨T7, L7, k7, n7⟩, -, X7, ⟨Lc7, hQ7, l7, y7, z7⟩, st7⟩ := X6.virtualBack hx (y := (⟨"com/example/rollbook/rollbook/CompositionRules", "takesPreceding", "(I)Z"⟩ : MethodName)) (z := (⟨"com/example/rollbook/rollbook/CompositionRules", "takesPreceding", "(I)Z"⟩ : MethodName)) hown (mvT hZ (hw _ (List.mem_of_getElem? (i := 10) rfl))) (mvT hZ (hw _ (List.mem_of_getElem? (i := 11) rfl))) (notFace_of_selects (args := #[]) (mvT hZ (hw _ (List.mem_of_getElem? (i := 13) rfl)))) (mvT hZ (hw _ (List.mem_of_getElem? (i := 13) rfl))) (mvT hZ (hw _ (List.mem_of_getElem? (i := 12) rfl))) (by decide) (backOf (W := 0) (own_takes l Z a0 hw [] a1 (-2147483648 : Int32)  h0 n0 Z0 F1) hZ (hw _ (List.mem_of_getElem? (i := 14) rfl)) (hw _ (List.mem_of_getElem? (i := 1) rfl)) (by decide) (by decide)) q7a q7c (g := (mkF m 99 #[.val (.int p1), .val (.int p2), .val (.ref a1), .val (.int (1 : Int32)), .val (.int (1 : Int32)), .val (.int (1 : Int32)), .val (.int (1 : Int32)), .unset] [(.int (-2147483648 : Int32)), (.ref a1)])) rfl (by rw [hml]; rfl) (Steps.refl _) (argsL := [(.int (-2147483648 : Int32))]) (rest := []) (lenOf pd__I_Z rfl) rfl (by show 2 * 0 + _ ≤ _; exact Nat.le_of_eq rfl) (hb hby at_99) (fun _ _ => ⟨rfl, e6, (by decide : 0 + 0 ≤ _), (by decide : 0 + 0 ≤ _)⟩)
  dsimp only [Pt.U, Pt.locs, Pt.cells, Pt.slots] at X7 l7 y7 z7 st7 hQ7
  subst l7 y7 z7
  obtain ⟨rfl, Nq7, e7⟩ := hQ7
  have N7 := Fr.app N6 Nq7
  obtain ⟨cq8, kq8, q8a, q8b, q8c⟩ := isOf hZ e7 E1
  obtain ⟨_, _, ⟨T8, L8, k8, n8⟩, -, X8, ⟨Lc8, hQ8, l8, y8, z8⟩, st8⟩ := X7.virtualBack hx (y := (⟨"com/example/rollbook/rollbook/CompositionRules", "takesPreceding", "(I)Z"⟩ : MethodName)) (z := (⟨"com/example/rollbook/rollbook/CompositionRules", "takesPreceding", "(I)Z"⟩ : MethodName)) hown (mvT hZ (hw _ (List.mem_of_getElem? (i := 10) rfl))) (mvT hZ (hw _ (List.mem_of_getElem? (i := 11) rfl))) (notFace_of_selects (args := #[]) (mvT hZ (hw _ (List.mem_of_getElem? (i := 13) rfl)))) (mvT hZ (hw _ (List.mem_of_getElem? (i := 13) rfl))) (mvT hZ (hw _ (List.mem_of_getElem? (i := 12) rfl))) (by decide) (backOf (W := 0) (own_takes l Z a0 hw [] a1 (2147483647 : Int32)  h0 n0 Z0 F1) hZ (hw _ (List.mem_of_getElem? (i := 14) rfl)) (hw _ (List.mem_of_getElem? (i := 1) rfl)) (by decide) (by decide)) q8a q8c (g := (mkF m 108 #[.val (.int p1), .val (.int p2), .val (.ref a1), .val (.int (1 : Int32)), .val (.int (1 : Int32)), .val (.int (1 : Int32)), .val (.int (1 : Int32)), .unset] [(.int (2147483647 : Int32)), (.ref a1)])) rfl (by rw [hml]; rfl) (Steps.refl _) (argsL := [(.int (2147483647 : Int32))]) (rest := []) (lenOf pd__I_Z rfl) rfl (by show 2 * 0 + _ ≤ _; exact Nat.le_of_eq rfl) (hb hby at_108) (fun _ _ => ⟨rfl, e7, (by decide : 0 + 0 ≤ _), (by decide : 0 + 0 ≤ _)⟩)
  dsimp only [Pt.U, Pt.locs, Pt.cells, Pt.slots] at X8 l8 y8 z8 st8 hQ8
  subst l8 y8 z8
  obtain ⟨rfl, Nq8, e8⟩ := hQ8
  have N8 := Fr.app N7 Nq8
  obtain ⟨fs, hr, hrun, hended, hW, hsame⟩ := X8.leave (v := some (.int (1 : Int32))) (fun h => by rw [Bd.returns] at h; cases h)
  refine ⟨_, _, pre0 _ ?_, hrun, hended, _, _, rfl, ?_, ⟨_, rfl⟩, hW, hsame.mono (by decide) (by decide)⟩
  · show Steps p.tables e below (s₁.setTop (mkF m 0 #[.val (.int p1), .val (.int p2), .unset, .unset, .unset, .unset, .unset, .unset] [])) _
    refine st1 _ ?_
    show Steps p.tables e below (T1.setTop (mkF m 3 #[.val (.int p1), .val (.int p2), .unset, .unset, .unset, .unset, .unset, .unset] [(.ref a1)])) _
    refine XS.astoreN X1.here hx rfl (hb hby at_3) rfl rfl (l' := #[.val (.int p1), .val (.int p2), .val (.ref a1), .unset, .unset, .unset, .unset, .unset]) rfl ?_
    show Steps p.tables e below (T1.setTop (mkF m 4 #[.val (.int p1), .val (.int p2), .val (.ref a1), .unset, .unset, .unset, .unset, .unset] [])) _
    refine XS.aloadN X1.here hx rfl (hb hby at_4) rfl rfl ?_
    show Steps p.tables e below (T1.setTop (mkF m 5 #[.val (.int p1), .val (.int p2), .val (.ref a1), .unset, .unset, .unset, .unset, .unset] [(.ref a1)])) _
    refine st2.trans ?_
    show Steps p.tables e below (T2.setTop (mkF m 8 #[.val (.int p1), .val (.int p2), .val (.ref a1), .unset, .unset, .unset, .unset, .unset] [(.int (40 : Int32))])) _
    refine XS.bipush X2.here hx rfl (hb hby at_8) ?_
    show Steps p.tables e below (T2.setTop (mkF m 10 #[.val (.int p1), .val (.int p2), .val (.ref a1), .unset, .unset, .unset, .unset, .unset] [(.int (40 : Int32)), (.int (40 : Int32))])) _
    refine XS.icmpNo X2.here hx rfl (hb hby at_10) rfl (teq (rfl : (40 : Int32) = (40 : Int32))).2 ?_
    show Steps p.tables e below (T2.setTop (mkF m 13 #[.val (.int p1), .val (.int p2), .val (.ref a1), .unset, .unset, .unset, .unset, .unset] [])) _
    refine XS.iconst X2.here hx rfl (hb hby at_13) ?_
    show Steps p.tables e below (T2.setTop (mkF m 14 #[.val (.int p1), .val (.int p2), .val (.ref a1), .unset, .unset, .unset, .unset, .unset] [(.int (1 : Int32))])) _
    refine XS.goto X2.here hx rfl (pc0 := 14) (pc' := 18) rfl (hb hby at_14) (by decide) (by decide) ?_
    show Steps p.tables e below (T2.setTop (mkF m 18 #[.val (.int p1), .val (.int p2), .val (.ref a1), .unset, .unset, .unset, .unset, .unset] [(.int (1 : Int32))])) _
    refine XS.istoreN X2.here hx rfl (hb hby at_18) rfl (l' := #[.val (.int p1), .val (.int p2), .val (.ref a1), .val (.int (1 : Int32)), .unset, .unset, .unset, .unset]) rfl ?_
    show Steps p.tables e below (T2.setTop (mkF m 19 #[.val (.int p1), .val (.int p2), .val (.ref a1), .val (.int (1 : Int32)), .unset, .unset, .unset, .unset] [])) _
    refine XS.aloadN X2.here hx rfl (hb hby at_19) rfl rfl ?_
    show Steps p.tables e below (T2.setTop (mkF m 20 #[.val (.int p1), .val (.int p2), .val (.ref a1), .val (.int (1 : Int32)), .unset, .unset, .unset, .unset] [(.ref a1)])) _
    refine XS.iloadN X2.here hx rfl (hb hby at_20) rfl ?_
    show Steps p.tables e below (T2.setTop (mkF m 21 #[.val (.int p1), .val (.int p2), .val (.ref a1), .val (.int (1 : Int32)), .unset, .unset, .unset, .unset] [(.int p1), (.ref a1)])) _
    refine st3.trans ?_
    show Steps p.tables e below (T3.setTop (mkF m 24 #[.val (.int p1), .val (.int p2), .val (.ref a1), .val (.int (1 : Int32)), .unset, .unset, .unset, .unset] [(.int (own_tp p1))])) _
    refine XS.iloadN X3.here hx rfl (hb hby at_24) rfl ?_
    show Steps p.tables e below (T3.setTop (mkF m 25 #[.val (.int p1), .val (.int p2), .val (.ref a1), .val (.int (1 : Int32)), .unset, .unset, .unset, .unset] [(.int p1), (.int (own_tp p1))])) _
    refine XS.bipush X3.here hx rfl (hb hby at_25) ?_
    show Steps p.tables e below (T3.setTop (mkF m 27 #[.val (.int p1), .val (.int p2), .val (.ref a1), .val (.int (1 : Int32)), .unset, .unset, .unset, .unset] [(.int (40 : Int32)), (.int p1), (.int (own_tp p1))])) _
    refine sg21 _ ?_
    show Steps p.tables e below (T3.setTop (mkF m 35 #[.val (.int p1), .val (.int p2), .val (.ref a1), .val (.int (1 : Int32)), .unset, .unset, .unset, .unset] [(.int (own_ex p1)), (.int (own_tp p1))])) _
    refine XS.icmpNo X3.here hx rfl (hb hby at_35) rfl (teq (rfl : (own_tp p1) = (own_ex p1))).2 ?_
    show Steps p.tables e below (T3.setTop (mkF m 38 #[.val (.int p1), .val (.int p2), .val (.ref a1), .val (.int (1 : Int32)), .unset, .unset, .unset, .unset] [])) _
    refine XS.iconst X3.here hx rfl (hb hby at_38) ?_
    show Steps p.tables e below (T3.setTop (mkF m 39 #[.val (.int p1), .val (.int p2), .val (.ref a1), .val (.int (1 : Int32)), .unset, .unset, .unset, .unset] [(.int (1 : Int32))])) _
    refine XS.goto X3.here hx rfl (pc0 := 39) (pc' := 43) rfl (hb hby at_39) (by decide) (by decide) ?_
    show Steps p.tables e below (T3.setTop (mkF m 43 #[.val (.int p1), .val (.int p2), .val (.ref a1), .val (.int (1 : Int32)), .unset, .unset, .unset, .unset] [(.int (1 : Int32))])) _
    refine XS.istore X3.here hx rfl (hb hby at_43) rfl (l' := #[.val (.int p1), .val (.int p2), .val (.ref a1), .val (.int (1 : Int32)), .val (.int (1 : Int32)), .unset, .unset, .unset]) rfl ?_
    show Steps p.tables e below (T3.setTop (mkF m 45 #[.val (.int p1), .val (.int p2), .val (.ref a1), .val (.int (1 : Int32)), .val (.int (1 : Int32)), .unset, .unset, .unset] [])) _
    refine XS.aloadN X3.here hx rfl (hb hby at_45) rfl rfl ?_
    show Steps p.tables e below (T3.setTop (mkF m 46 #[.val (.int p1), .val (.int p2), .val (.ref a1), .val (.int (1 : Int32)), .val (.int (1 : Int32)), .unset, .unset, .unset] [(.ref a1)])) _
    refine XS.iloadN X3.here hx rfl (hb hby at_46) rfl ?_
    show Steps p.tables e below (T3.setTop (mkF m 47 #[.val (.int p1), .val (.int p2), .val (.ref a1), .val (.int (1 : Int32)), .val (.int (1 : Int32)), .unset, .unset, .unset] [(.int p2), (.ref a1)])) _
    refine st4.trans ?_
    show Steps p.tables e below (T4.setTop (mkF m 50 #[.val (.int p1), .val (.int p2), .val (.ref a1), .val (.int (1 : Int32)), .val (.int (1 : Int32)), .unset, .unset, .unset] [(.int (own_tp p2))])) _
    refine XS.iloadN X4.here hx rfl (hb hby at_50) rfl ?_
    show Steps p.tables e below (T4.setTop (mkF m 51 #[.val (.int p1), .val (.int p2), .val (.ref a1), .val (.int (1 : Int32)), .val (.int (1 : Int32)), .unset, .unset, .unset] [(.int p2), (.int (own_tp p2))])) _
    refine XS.bipush X4.here hx rfl (hb hby at_51) ?_
    show Steps p.tables e below (T4.setTop (mkF m 53 #[.val (.int p1), .val (.int p2), .val (.ref a1), .val (.int (1 : Int32)), .val (.int (1 : Int32)), .unset, .unset, .unset] [(.int (40 : Int32)), (.int p2), (.int (own_tp p2))])) _
    refine sg47 _ ?_
    show Steps p.tables e below (T4.setTop (mkF m 61 #[.val (.int p1), .val (.int p2), .val (.ref a1), .val (.int (1 : Int32)), .val (.int (1 : Int32)), .unset, .unset, .unset] [(.int (own_ex p2)), (.int (own_tp p2))])) _
    refine XS.icmpNo X4.here hx rfl (hb hby at_61) rfl (teq (rfl : (own_tp p2) = (own_ex p2))).2 ?_
    show Steps p.tables e below (T4.setTop (mkF m 64 #[.val (.int p1), .val (.int p2), .val (.ref a1), .val (.int (1 : Int32)), .val (.int (1 : Int32)), .unset, .unset, .unset] [])) _
    refine XS.iconst X4.here hx rfl (hb hby at_64) ?_
    show Steps p.tables e below (T4.setTop (mkF m 65 #[.val (.int p1), .val (.int p2), .val (.ref a1), .val (.int (1 : Int32)), .val (.int (1 : Int32)), .unset, .unset, .unset] [(.int (1 : Int32))])) _
    refine XS.goto X4.here hx rfl (pc0 := 65) (pc' := 69) rfl (hb hby at_65) (by decide) (by decide) ?_
    show Steps p.tables e below (T4.setTop (mkF m 69 #[.val (.int p1), .val (.int p2), .val (.ref a1), .val (.int (1 : Int32)), .val (.int (1 : Int32)), .unset, .unset, .unset] [(.int (1 : Int32))])) _
    refine XS.istore X4.here hx rfl (hb hby at_69) rfl (l' := #[.val (.int p1), .val (.int p2), .val (.ref a1), .val (.int (1 : Int32)), .val (.int (1 : Int32)), .val (.int (1 : Int32)), .unset, .unset]) rfl ?_
    show Steps p.tables e below (T4.setTop (mkF m 71 #[.val (.int p1), .val (.int p2), .val (.ref a1), .val (.int (1 : Int32)), .val (.int (1 : Int32)), .val (.int (1 : Int32)), .unset, .unset] [])) _
    refine XS.aloadN X4.here hx rfl (hb hby at_71) rfl rfl ?_
    show Steps p.tables e below (T4.setTop (mkF m 72 #[.val (.int p1), .val (.int p2), .val (.ref a1), .val (.int (1 : Int32)), .val (.int (1 : Int32)), .val (.int (1 : Int32)), .unset, .unset] [(.ref a1)])) _
    refine XS.bipush X4.here hx rfl (hb hby at_72) ?_
    show Steps p.tables e below (T4.setTop (mkF m 74 #[.val (.int p1), .val (.int p2), .val (.ref a1), .val (.int (1 : Int32)), .val (.int (1 : Int32)), .val (.int (1 : Int32)), .unset, .unset] [(.int (40 : Int32)), (.ref a1)])) _
    refine st5.trans ?_
    show Steps p.tables e below (T5.setTop (mkF m 77 #[.val (.int p1), .val (.int p2), .val (.ref a1), .val (.int (1 : Int32)), .val (.int (1 : Int32)), .val (.int (1 : Int32)), .unset, .unset] [(.int (own_tp (40 : Int32)))])) _
    refine XS.ifNo X5.here hx rfl (hb hby at_77) rfl ((if0 _ _).trans (feq (own_c1 : ¬ ((own_tp (40 : Int32)) = (0 : Int32)))).1) ?_
    show Steps p.tables e below (T5.setTop (mkF m 80 #[.val (.int p1), .val (.int p2), .val (.ref a1), .val (.int (1 : Int32)), .val (.int (1 : Int32)), .val (.int (1 : Int32)), .unset, .unset] [])) _
    refine XS.aloadN X5.here hx rfl (hb hby at_80) rfl rfl ?_
    show Steps p.tables e below (T5.setTop (mkF m 81 #[.val (.int p1), .val (.int p2), .val (.ref a1), .val (.int (1 : Int32)), .val (.int (1 : Int32)), .val (.int (1 : Int32)), .unset, .unset] [(.ref a1)])) _
    refine XS.bipush X5.here hx rfl (hb hby at_81) ?_
    show Steps p.tables e below (T5.setTop (mkF m 83 #[.val (.int p1), .val (.int p2), .val (.ref a1), .val (.int (1 : Int32)), .val (.int (1 : Int32)), .val (.int (1 : Int32)), .unset, .unset] [(.int (41 : Int32)), (.ref a1)])) _
    refine st6.trans ?_
    show Steps p.tables e below (T6.setTop (mkF m 86 #[.val (.int p1), .val (.int p2), .val (.ref a1), .val (.int (1 : Int32)), .val (.int (1 : Int32)), .val (.int (1 : Int32)), .unset, .unset] [(.int (own_tp (41 : Int32)))])) _
    refine XS.ifNo X6.here hx rfl (hb hby at_86) rfl ((if0 _ _).trans (teq (own_c2 : (own_tp (41 : Int32)) = (0 : Int32))).2) ?_
    show Steps p.tables e below (T6.setTop (mkF m 89 #[.val (.int p1), .val (.int p2), .val (.ref a1), .val (.int (1 : Int32)), .val (.int (1 : Int32)), .val (.int (1 : Int32)), .unset, .unset] [])) _
    refine XS.iconst X6.here hx rfl (hb hby at_89) ?_
    show Steps p.tables e below (T6.setTop (mkF m 90 #[.val (.int p1), .val (.int p2), .val (.ref a1), .val (.int (1 : Int32)), .val (.int (1 : Int32)), .val (.int (1 : Int32)), .unset, .unset] [(.int (1 : Int32))])) _
    refine XS.goto X6.here hx rfl (pc0 := 90) (pc' := 94) rfl (hb hby at_90) (by decide) (by decide) ?_
    show Steps p.tables e below (T6.setTop (mkF m 94 #[.val (.int p1), .val (.int p2), .val (.ref a1), .val (.int (1 : Int32)), .val (.int (1 : Int32)), .val (.int (1 : Int32)), .unset, .unset] [(.int (1 : Int32))])) _
    refine XS.istore X6.here hx rfl (hb hby at_94) rfl (l' := #[.val (.int p1), .val (.int p2), .val (.ref a1), .val (.int (1 : Int32)), .val (.int (1 : Int32)), .val (.int (1 : Int32)), .val (.int (1 : Int32)), .unset]) rfl ?_
    show Steps p.tables e below (T6.setTop (mkF m 96 #[.val (.int p1), .val (.int p2), .val (.ref a1), .val (.int (1 : Int32)), .val (.int (1 : Int32)), .val (.int (1 : Int32)), .val (.int (1 : Int32)), .unset] [])) _
    refine XS.aloadN X6.here hx rfl (hb hby at_96) rfl rfl ?_
    show Steps p.tables e below (T6.setTop (mkF m 97 #[.val (.int p1), .val (.int p2), .val (.ref a1), .val (.int (1 : Int32)), .val (.int (1 : Int32)), .val (.int (1 : Int32)), .val (.int (1 : Int32)), .unset] [(.ref a1)])) _
    refine X6.ldcInt hx hown (mvT hZ (hw _ (List.mem_of_getElem? (i := 15) rfl))) (g := (mkF m 97 #[.val (.int p1), .val (.int p2), .val (.ref a1), .val (.int (1 : Int32)), .val (.int (1 : Int32)), .val (.int (1 : Int32)), .val (.int (1 : Int32)), .unset] [(.ref a1)])) rfl (hb hby at_97) _ ?_
    show Steps p.tables e below (T6.setTop (mkF m 99 #[.val (.int p1), .val (.int p2), .val (.ref a1), .val (.int (1 : Int32)), .val (.int (1 : Int32)), .val (.int (1 : Int32)), .val (.int (1 : Int32)), .unset] [(.int (-2147483648 : Int32)), (.ref a1)])) _
    refine st7.trans ?_
    show Steps p.tables e below (T7.setTop (mkF m 102 #[.val (.int p1), .val (.int p2), .val (.ref a1), .val (.int (1 : Int32)), .val (.int (1 : Int32)), .val (.int (1 : Int32)), .val (.int (1 : Int32)), .unset] [(.int (own_tp (-2147483648 : Int32)))])) _
    refine XS.ifNo X7.here hx rfl (hb hby at_102) rfl ((if0 _ _).trans (feq (own_c3 : ¬ ((own_tp (-2147483648 : Int32)) = (0 : Int32)))).1) ?_
    show Steps p.tables e below (T7.setTop (mkF m 105 #[.val (.int p1), .val (.int p2), .val (.ref a1), .val (.int (1 : Int32)), .val (.int (1 : Int32)), .val (.int (1 : Int32)), .val (.int (1 : Int32)), .unset] [])) _
    refine XS.aloadN X7.here hx rfl (hb hby at_105) rfl rfl ?_
    show Steps p.tables e below (T7.setTop (mkF m 106 #[.val (.int p1), .val (.int p2), .val (.ref a1), .val (.int (1 : Int32)), .val (.int (1 : Int32)), .val (.int (1 : Int32)), .val (.int (1 : Int32)), .unset] [(.ref a1)])) _
    refine X7.ldcInt hx hown (mvT hZ (hw _ (List.mem_of_getElem? (i := 16) rfl))) (g := (mkF m 106 #[.val (.int p1), .val (.int p2), .val (.ref a1), .val (.int (1 : Int32)), .val (.int (1 : Int32)), .val (.int (1 : Int32)), .val (.int (1 : Int32)), .unset] [(.ref a1)])) rfl (hb hby at_106) _ ?_
    show Steps p.tables e below (T7.setTop (mkF m 108 #[.val (.int p1), .val (.int p2), .val (.ref a1), .val (.int (1 : Int32)), .val (.int (1 : Int32)), .val (.int (1 : Int32)), .val (.int (1 : Int32)), .unset] [(.int (2147483647 : Int32)), (.ref a1)])) _
    refine st8.trans ?_
    show Steps p.tables e below (T8.setTop (mkF m 111 #[.val (.int p1), .val (.int p2), .val (.ref a1), .val (.int (1 : Int32)), .val (.int (1 : Int32)), .val (.int (1 : Int32)), .val (.int (1 : Int32)), .unset] [(.int (own_tp (2147483647 : Int32)))])) _
    refine XS.ifNo X8.here hx rfl (hb hby at_111) rfl ((if0 _ _).trans (teq (own_c4 : (own_tp (2147483647 : Int32)) = (0 : Int32))).2) ?_
    show Steps p.tables e below (T8.setTop (mkF m 114 #[.val (.int p1), .val (.int p2), .val (.ref a1), .val (.int (1 : Int32)), .val (.int (1 : Int32)), .val (.int (1 : Int32)), .val (.int (1 : Int32)), .unset] [])) _
    refine XS.iconst X8.here hx rfl (hb hby at_114) ?_
    show Steps p.tables e below (T8.setTop (mkF m 115 #[.val (.int p1), .val (.int p2), .val (.ref a1), .val (.int (1 : Int32)), .val (.int (1 : Int32)), .val (.int (1 : Int32)), .val (.int (1 : Int32)), .unset] [(.int (1 : Int32))])) _
    refine XS.goto X8.here hx rfl (pc0 := 115) (pc' := 119) rfl (hb hby at_115) (by decide) (by decide) ?_
    show Steps p.tables e below (T8.setTop (mkF m 119 #[.val (.int p1), .val (.int p2), .val (.ref a1), .val (.int (1 : Int32)), .val (.int (1 : Int32)), .val (.int (1 : Int32)), .val (.int (1 : Int32)), .unset] [(.int (1 : Int32))])) _
    refine XS.istore X8.here hx rfl (hb hby at_119) rfl (l' := #[.val (.int p1), .val (.int p2), .val (.ref a1), .val (.int (1 : Int32)), .val (.int (1 : Int32)), .val (.int (1 : Int32)), .val (.int (1 : Int32)), .val (.int (1 : Int32))]) rfl ?_
    show Steps p.tables e below (T8.setTop (mkF m 121 #[.val (.int p1), .val (.int p2), .val (.ref a1), .val (.int (1 : Int32)), .val (.int (1 : Int32)), .val (.int (1 : Int32)), .val (.int (1 : Int32)), .val (.int (1 : Int32))] [])) _
    refine XS.iloadN X8.here hx rfl (hb hby at_121) rfl ?_
    show Steps p.tables e below (T8.setTop (mkF m 122 #[.val (.int p1), .val (.int p2), .val (.ref a1), .val (.int (1 : Int32)), .val (.int (1 : Int32)), .val (.int (1 : Int32)), .val (.int (1 : Int32)), .val (.int (1 : Int32))] [(.int (1 : Int32))])) _
    refine XS.ifNo X8.here hx rfl (hb hby at_122) rfl ((if0 _ _).trans (feq (by decide : ¬ ((1 : Int32) = (0 : Int32)))).1) ?_
    show Steps p.tables e below (T8.setTop (mkF m 125 #[.val (.int p1), .val (.int p2), .val (.ref a1), .val (.int (1 : Int32)), .val (.int (1 : Int32)), .val (.int (1 : Int32)), .val (.int (1 : Int32)), .val (.int (1 : Int32))] [])) _
    refine XS.iload X8.here hx rfl (hb hby at_125) rfl ?_
    show Steps p.tables e below (T8.setTop (mkF m 127 #[.val (.int p1), .val (.int p2), .val (.ref a1), .val (.int (1 : Int32)), .val (.int (1 : Int32)), .val (.int (1 : Int32)), .val (.int (1 : Int32)), .val (.int (1 : Int32))] [(.int (1 : Int32))])) _
    refine XS.ifNo X8.here hx rfl (hb hby at_127) rfl ((if0 _ _).trans (feq (by decide : ¬ ((1 : Int32) = (0 : Int32)))).1) ?_
    show Steps p.tables e below (T8.setTop (mkF m 130 #[.val (.int p1), .val (.int p2), .val (.ref a1), .val (.int (1 : Int32)), .val (.int (1 : Int32)), .val (.int (1 : Int32)), .val (.int (1 : Int32)), .val (.int (1 : Int32))] [])) _
    refine XS.iload X8.here hx rfl (hb hby at_130) rfl ?_
    show Steps p.tables e below (T8.setTop (mkF m 132 #[.val (.int p1), .val (.int p2), .val (.ref a1), .val (.int (1 : Int32)), .val (.int (1 : Int32)), .val (.int (1 : Int32)), .val (.int (1 : Int32)), .val (.int (1 : Int32))] [(.int (1 : Int32))])) _
    refine XS.ifNo X8.here hx rfl (hb hby at_132) rfl ((if0 _ _).trans (feq (by decide : ¬ ((1 : Int32) = (0 : Int32)))).1) ?_
    show Steps p.tables e below (T8.setTop (mkF m 135 #[.val (.int p1), .val (.int p2), .val (.ref a1), .val (.int (1 : Int32)), .val (.int (1 : Int32)), .val (.int (1 : Int32)), .val (.int (1 : Int32)), .val (.int (1 : Int32))] [])) _
    refine XS.iload X8.here hx rfl (hb hby at_135) rfl ?_
    show Steps p.tables e below (T8.setTop (mkF m 137 #[.val (.int p1), .val (.int p2), .val (.ref a1), .val (.int (1 : Int32)), .val (.int (1 : Int32)), .val (.int (1 : Int32)), .val (.int (1 : Int32)), .val (.int (1 : Int32))] [(.int (1 : Int32))])) _
    refine XS.ifNo X8.here hx rfl (hb hby at_137) rfl ((if0 _ _).trans (feq (by decide : ¬ ((1 : Int32) = (0 : Int32)))).1) ?_
    show Steps p.tables e below (T8.setTop (mkF m 140 #[.val (.int p1), .val (.int p2), .val (.ref a1), .val (.int (1 : Int32)), .val (.int (1 : Int32)), .val (.int (1 : Int32)), .val (.int (1 : Int32)), .val (.int (1 : Int32))] [])) _
    refine XS.iload X8.here hx rfl (hb hby at_140) rfl ?_
    show Steps p.tables e below (T8.setTop (mkF m 142 #[.val (.int p1), .val (.int p2), .val (.ref a1), .val (.int (1 : Int32)), .val (.int (1 : Int32)), .val (.int (1 : Int32)), .val (.int (1 : Int32)), .val (.int (1 : Int32))] [(.int (1 : Int32))])) _
    refine XS.ifNo X8.here hx rfl (hb hby at_142) rfl ((if0 _ _).trans (feq (by decide : ¬ ((1 : Int32) = (0 : Int32)))).1) ?_
    show Steps p.tables e below (T8.setTop (mkF m 145 #[.val (.int p1), .val (.int p2), .val (.ref a1), .val (.int (1 : Int32)), .val (.int (1 : Int32)), .val (.int (1 : Int32)), .val (.int (1 : Int32)), .val (.int (1 : Int32))] [])) _
    refine XS.iconst X8.here hx rfl (hb hby at_145) ?_
    show Steps p.tables e below (T8.setTop (mkF m 146 #[.val (.int p1), .val (.int p2), .val (.ref a1), .val (.int (1 : Int32)), .val (.int (1 : Int32)), .val (.int (1 : Int32)), .val (.int (1 : Int32)), .val (.int (1 : Int32))] [(.int (1 : Int32))])) _
    refine XS.goto X8.here hx rfl (pc0 := 146) (pc' := 150) rfl (hb hby at_146) (by decide) (by decide) ?_
    show Steps p.tables e below (T8.setTop (mkF m 150 #[.val (.int p1), .val (.int p2), .val (.ref a1), .val (.int (1 : Int32)), .val (.int (1 : Int32)), .val (.int (1 : Int32)), .val (.int (1 : Int32)), .val (.int (1 : Int32))] [(.int (1 : Int32))])) _
    exact retN X8 hx (t := .boolean) Bd.returns (by simp) (hb hby at_150) hr
  · show Qown_law Z p1 p2 a1 h0 n0 _ T8.heap _
    rw [e8]
    exact ⟨rfl, N8⟩
set_option maxRecDepth 65536 in
set_option maxHeartbeats 40000000 in
theorem comes_1 {Post : Tables → Env → Array Value → State → Outcome → State → Prop} (hpost : ∀ tb e args s v u, (limb_1_1.after args s (.returned v) u = true ∧ limb_1_2.after args s (.returned v) u = true ∧ True) → FrameEnd s (.returned v) u (Jvm.fieldLocs frame_1_writes args s ++ Jvm.arrayLocs frame_1_arrays args s ++ Jvm.staticLocs frame_1_statics s) 0 0 → Post tb e args s (.returned v) u) :
    ArmFor flags0 classFile x code maxLocals ret World_1 tables_1 room_1 Calls_1 rest_1 Pre_1 Post := by
  intro l hfl _ _ p e ha hc hk s m args below hf hA hF happ hP
  obtain ⟨hcalls, hrest, hpre⟩ := hP
  obtain ⟨-, -, -, hnamed, -, -, -, hat⟩ := (Spec.applies_iff hf).mp happ
  obtain ⟨hg, hn⟩ := and_e (Cond.before_iff.mp (show (Jvm.Cond.and given_1 narrow_1).before args s = true from hpre))
  obtain ⟨g1, g2⟩ := and_e hg
  obtain ⟨g3, g4⟩ := and_e g2
  obtain ⟨w0, w1, rfl⟩ : ∃ w0 w1 : Value, args = #[w0, w1] := by
    have hs : args.size = 2 := by simpa [Cond.value, given_1] using g1
    obtain ⟨L⟩ := args
    match L, hs with
    | [w0, w1], _ => exact ⟨w0, w1, rfl⟩
  have hw := fun d (hd : d ∈ tables_1) => atoms_spec (ws := Jvm.Cond.code x code maxLocals ret :: tables_1) hat d (List.mem_cons_of_mem _ hd)
  have hfit : Fit s := fun {y c} hc i hi => by
    obtain ⟨ha, rfl⟩ := Array.getElem?_eq_some_iff.mp hc
    have q := List.all_eq_true.mp ((Array.all_eq_true_iff_forall_mem.mp hF) _ (Array.getElem_mem ha)) i (List.mem_range.mpr hi)
    simpa [Array.getElem?_eq_getElem hi] using q
  obtain ⟨i0, ei0⟩ := is_v g3
  obtain rfl : w0 = (.int i0) := Option.some.inj ei0
  obtain ⟨i1, ei1⟩ := is_v g4
  obtain rfl : w1 = (.int i1) := Option.some.inj ei1
  obtain ⟨hn1, hn2⟩ := and_e hn
  obtain ⟨a, ea⟩ := exa_v hn1
  have E1 : Exa s s.heap a "com/example/rollbook/rollbook/CompositionRules" := Exa.start ea hn1
  have S1 : Sta s s.heap "com/example/rollbook/rollbook/CompositionRules" "TRANCHE_ABX" "Lcom/example/rollbook/rollbook/CompositionRules;" (.ref a) := Sta.start ea (Or.inr ⟨(hw _ (List.mem_of_getElem? (i := 1) rfl)), (hw _ (List.mem_of_getElem? (i := 2) rfl))⟩)
  obtain ⟨vx, vy, ex, ey, hk1, hk2⟩ := cmp_v (Or.inl hn2)
  obtain rfl : vy = .int (40 : Int32) := (Option.some.inj ey).symm
  obtain ⟨z, rfl⟩ := hk2
  have ez : z = (40 : Int32) := gotT (Cond.eq_ints ex rfl) hn2
  subst ez
  have F1 : Fld s s.heap a "com/example/rollbook/rollbook/CompositionRules" "mostEntitiesCombined" "I" (.int (40 : Int32)) := Fld.start ((fld_at ea).symm.trans ex)
  obtain ⟨n, o, h1, h2, h3, _, L, rfl, ⟨rfl, N⟩, hq⟩ := own_law l s _ hw tables_1 i0 i1 a s.heap s.heap.size (Nat.le_refl _) S1 E1 F1 p e ha hc hk s m _ below hf ((Spec.applies_iff_loose hf).mp happ).1 ⟨rfl, State.Warmed39.refl s, rfl⟩ trivial
  refine ⟨n, _, h1, h2, h3, hpost _ _ _ _ _ _ ⟨Cond.after_iff.mpr rfl, Cond.after_iff.mpr (eq_i res_at (Term.int_eval (1)) rfl), trivial⟩ ⟨hq.1, hq.2.1, (hq.2.2.sift fun y hy => Or.inr (N y hy)).mono (by decide) (by decide)⟩⟩
theorem main_1_1 : Claimed_1_1 := comes_1 fun _ _ _ _ _ _ h hF => ⟨h.1, hF⟩
theorem main_1_2 : Claimed_1_2 := comes_1 fun _ _ _ _ _ _ h hF => ⟨h.2.1, hF⟩
end Jvm.Pilot.@@N@@
namespace Jvm.Pilot.@@N@@
open Jvm Jvm.ClassFile Sem Op Lib Jvm.Free Jvm.Stand Jvm.Pilot.@@N@@.Jvm.D
/-! MADE BY PROGRAM (witnessworld.py) out of the Statement's table words and the real class files: 13 classes; the members and pool entries that the words name. The judged class is class 1, her method 1. -/
namespace start1
open Jvm.ClassFile
def u (s : String) : CpInfo := .utf8 (stringToUtf16 s)
/-- a pool by its gaps: so many unusable entries, then the entry; so many at the end -/
def gap : Nat → List CpInfo → List CpInfo
  | 0, r => r
  | n + 1, r => .unusable :: gap n r
def poolList (es : List (Nat × CpInfo)) (last : Nat) : List CpInfo := es.foldr (fun e r => gap e.1 (e.2 :: r)) (gap last [])
def pool (es : List (Nat × CpInfo)) (last : Nat) : Array CpInfo := ⟨poolList es last⟩
def fileOf (pool : Array CpInfo) (this : Nat) (attrs : Array Attribute := #[]) (ms : Array MethodInfo := #[]) (fl : Nat := 33) (sup : Nat := 0) (ifs : Array Nat := #[]) (fds : Array FieldInfo := #[]) : ClassFile where
  minorVersion := 0
  majorVersion := 65
  constantPool := pool
  accessFlags := fl
  thisClass := this
  superClass := sup
  interfaces := ifs
  fields := fds
  methods := ms
  attributes := attrs
def plain (name : String) (sup : Option ClassId) : Class where
  name := name
  kind := .ordinary
  loader := none
  accessFlags := 33
  super := sup
  interfaces := #[]
  cf := none
  fields := #[]
  methods := #[]
  instanceTypes := #[]
  staticTypes := #[]
  resolved := #[]
  callSites := []
  init := .initialized
  statics := none
  mirror := none

def pool0 : Array CpInfo := pool [(5, u "<init>"), (0, u "()V"), (1, .class_ 10), (1, u "java/lang/Object")] 113

def k0m0 : Method := { name := "<init>", desc := "()V", sig := { parameters := [], returnType := none }, accessFlags := 1, code := none }
/-- java/lang/Object -/
def k0 : Class := { plain "java/lang/Object" none with
  accessFlags := 33
  interfaces := #[]
  cf := some (fileOf pool0 8 #[] #[{ accessFlags := 1, nameIndex := 5, descriptorIndex := 6, attributes := #[] }] 33 0 #[] #[])
  fields := #[]
  methods := #[k0m0]
  instanceTypes := #[]
  staticTypes := #[]
  resolved := Array.replicate 124 none
  statics := none }

def pool1 : Array CpInfo := pool [(2, .class_ 4), (1, u "java/lang/Object"), (0, u "<init>"), (0, u "()V"), (0, .fieldref 8 9), (0, .class_ 10), (0, .nameAndType 11 12), (0, u "com/example/rollbook/rollbook/CompositionRules"), (0, u "TRANCHE_ABX"), (0, u "Lcom/example/rollbook/rollbook/CompositionRules;"), (0, .methodref 8 14), (0, .nameAndType 15 16), (0, u "mostEntitiesCombined"), (0, u "()I"), (0, .methodref 8 18), (0, .nameAndType 19 20), (0, u "takesPreceding"), (0, u "(I)Z"), (2, .integer 2147483648), (0, .integer 2147483647), (0, .class_ 26), (0, u "com/example/rollbook/rollbook/CompositionRulesTakesPrecedingPinLaw"), (2, u "law"), (0, u "(II)Z")] 3

def k1m0 : Method := { name := "<init>", desc := "()V", sig := { parameters := [], returnType := none }, accessFlags := 2, code := none }
def k1c1 : Code := { maxStack := 3, maxLocals := 8, code := code, exceptionTable := #[], attributes := #[] }
def k1m1 : Method := { name := "law", desc := "(II)Z", sig := { parameters := [.int, .int], returnType := some .boolean }, accessFlags := 9, code := some k1c1 }
/-- com/example/rollbook/rollbook/CompositionRulesTakesPrecedingPinLaw -/
def k1 : Class := { plain "com/example/rollbook/rollbook/CompositionRulesTakesPrecedingPinLaw" (some 0) with
  accessFlags := 49
  interfaces := #[]
  cf := some (fileOf pool1 25 #[] #[{ accessFlags := 2, nameIndex := 5, descriptorIndex := 6, attributes := #[] }, { accessFlags := 9, nameIndex := 29, descriptorIndex := 30, attributes := #[] }] 49 2 #[] #[])
  fields := #[]
  methods := #[k1m0, k1m1]
  instanceTypes := #[]
  staticTypes := #[]
  resolved := Array.replicate 34 none
  statics := none }

def pool2 : Array CpInfo := pool [(1, .class_ 2), (0, u "java/lang/constant/Constable"), (0, .class_ 4), (0, u "java/lang/Object")] 6

/-- java/lang/constant/Constable -/
def k2 : Class := { plain "java/lang/constant/Constable" (some 0) with
  accessFlags := 1537
  interfaces := #[]
  cf := some (fileOf pool2 1 #[] #[] 1537 3 #[] #[])
  fields := #[]
  methods := #[]
  instanceTypes := #[]
  staticTypes := #[]
  resolved := Array.replicate 11 none
  statics := none }

def pool3 : Array CpInfo := pool [(1, .class_ 2), (0, u "java/lang/Comparable"), (0, .class_ 4), (0, u "java/lang/Object")] 7

/-- java/lang/Comparable -/
def k3 : Class := { plain "java/lang/Comparable" (some 0) with
  accessFlags := 1537
  interfaces := #[]
  cf := some (fileOf pool3 1 #[] #[] 1537 3 #[] #[])
  fields := #[]
  methods := #[]
  instanceTypes := #[]
  staticTypes := #[]
  resolved := Array.replicate 12 none
  statics := none }

def pool4 : Array CpInfo := pool [(1, .class_ 2), (0, u "java/io/Serializable"), (0, .class_ 4), (0, u "java/lang/Object")] 2

/-- java/io/Serializable -/
def k4 : Class := { plain "java/io/Serializable" (some 0) with
  accessFlags := 1537
  interfaces := #[]
  cf := some (fileOf pool4 1 #[] #[] 1537 3 #[] #[])
  fields := #[]
  methods := #[]
  instanceTypes := #[]
  staticTypes := #[]
  resolved := Array.replicate 7 none
  statics := none }

def pool5 : Array CpInfo := pool [(2, .class_ 4), (1, u "java/lang/Enum"), (0, u "name"), (0, u "Ljava/lang/String;"), (2, u "ordinal"), (0, u "I"), (1, .class_ 14), (1, u "java/lang/Object"), (4, u "hash"), (86, .class_ 108), (1, u "java/lang/Enum$EnumDesc"), (2, .class_ 112), (0, u "java/lang/constant/Constable"), (0, .class_ 114), (0, u "java/lang/Comparable"), (0, .class_ 116), (0, u "java/io/Serializable")] 87

/-- java/lang/Enum -/
def k5 : Class := { plain "java/lang/Enum" (some 0) with
  accessFlags := 1057
  interfaces := #[2, 3, 4]
  cf := some (fileOf pool5 2 #[.nestMembers #[106]] #[] 1057 12 #[111, 113, 115] #[{ accessFlags := 18, nameIndex := 5, descriptorIndex := 6, attributes := #[] }, { accessFlags := 18, nameIndex := 9, descriptorIndex := 10, attributes := #[] }, { accessFlags := 2, nameIndex := 19, descriptorIndex := 10, attributes := #[] }])
  fields := #[{ name := "name", type := (.object "java/lang/String"), accessFlags := 18, slot := 0, constantValue := 0 }, { name := "ordinal", type := .int, accessFlags := 18, slot := 1, constantValue := 0 }, { name := "hash", type := .int, accessFlags := 2, slot := 2, constantValue := 0 }]
  methods := #[]
  instanceTypes := #[(.object "java/lang/String"), .int, .int]
  staticTypes := #[]
  resolved := Array.replicate 204 none
  statics := none }

def pool6 : Array CpInfo := pool [(1, .class_ 2), (0, u "com/example/rollbook/rollbook/IndexFamily$Rules"), (0, .class_ 4), (0, u "java/lang/Object"), (5, .class_ 11), (0, u "com/example/rollbook/rollbook/IndexFamily")] 2

/-- com/example/rollbook/rollbook/IndexFamily$Rules -/
def k6 : Class := { plain "com/example/rollbook/rollbook/IndexFamily$Rules" (some 0) with
  accessFlags := 1537
  interfaces := #[]
  cf := some (fileOf pool6 1 #[.nestHost 10] #[] 1537 3 #[] #[])
  fields := #[]
  methods := #[]
  instanceTypes := #[]
  staticTypes := #[]
  resolved := Array.replicate 14 none
  statics := none }

def pool7 : Array CpInfo := pool [(1, .class_ 2), (0, u "com/example/rollbook/rollbook/CompositionRules"), (2, u "TRANCHE_ABX"), (0, u "Lcom/example/rollbook/rollbook/CompositionRules;"), (2, u "$VALUES"), (0, u "[Lcom/example/rollbook/rollbook/CompositionRules;"), (6, .class_ 19), (1, u "java/lang/Enum"), (8, u "family"), (0, u "Lcom/example/rollbook/rollbook/IndexFamily;"), (0, .fieldref 1 31), (0, .nameAndType 32 33), (0, u "mostEntitiesCombined"), (0, u "I"), (2, u "subIndexes"), (0, u "Ljava/util/List;"), (25, .class_ 64), (0, u "com/example/rollbook/rollbook/CompositionRules$SubIndex"), (21, .class_ 87), (0, u "com/example/rollbook/rollbook/CompositionRules$SpecifiedTranche"), (24, .class_ 113), (0, u "com/example/rollbook/rollbook/IndexFamily$Rules"), (11, u "()I"), (0, u "takesPreceding"), (0, u "(I)Z")] 19

def k7c0 : Code := { maxStack := 1, maxLocals := 1, code := prog_26_method_6_code, exceptionTable := #[], attributes := #[] }
def k7m0 : Method := { name := "mostEntitiesCombined", desc := "()I", sig := { parameters := [], returnType := some .int }, accessFlags := 0, code := some k7c0 }
def k7c1 : Code := { maxStack := 2, maxLocals := 2, code := prog_26_method_7_code, exceptionTable := #[], attributes := #[] }
def k7m1 : Method := { name := "takesPreceding", desc := "(I)Z", sig := { parameters := [.int], returnType := some .boolean }, accessFlags := 0, code := some k7c1 }
/-- com/example/rollbook/rollbook/CompositionRules -/
def k7 : Class := { plain "com/example/rollbook/rollbook/CompositionRules" (some 5) with
  accessFlags := 16432
  interfaces := #[6]
  cf := some (fileOf pool7 1 #[.nestMembers #[63, 86]] #[{ accessFlags := 0, nameIndex := 32, descriptorIndex := 125, attributes := #[] }, { accessFlags := 0, nameIndex := 126, descriptorIndex := 127, attributes := #[] }] 16432 17 #[112] #[{ accessFlags := 16409, nameIndex := 5, descriptorIndex := 6, attributes := #[] }, { accessFlags := 18, nameIndex := 28, descriptorIndex := 29, attributes := #[] }, { accessFlags := 18, nameIndex := 32, descriptorIndex := 33, attributes := #[] }, { accessFlags := 18, nameIndex := 36, descriptorIndex := 37, attributes := #[] }, { accessFlags := 4122, nameIndex := 9, descriptorIndex := 10, attributes := #[] }])
  fields := #[{ name := "TRANCHE_ABX", type := (.object "com/example/rollbook/rollbook/CompositionRules"), accessFlags := 16409, slot := 0, constantValue := 0 }, { name := "family", type := (.object "com/example/rollbook/rollbook/IndexFamily"), accessFlags := 18, slot := 3, constantValue := 0 }, { name := "mostEntitiesCombined", type := .int, accessFlags := 18, slot := 4, constantValue := 0 }, { name := "subIndexes", type := (.object "java/util/List"), accessFlags := 18, slot := 5, constantValue := 0 }, { name := "$VALUES", type := (.array (.object "com/example/rollbook/rollbook/CompositionRules")), accessFlags := 4122, slot := 1, constantValue := 0 }]
  methods := #[k7m0, k7m1]
  instanceTypes := #[(.object "java/lang/String"), .int, .int, (.object "com/example/rollbook/rollbook/IndexFamily"), .int, (.object "java/util/List")]
  staticTypes := #[(.object "com/example/rollbook/rollbook/CompositionRules"), (.array (.object "com/example/rollbook/rollbook/CompositionRules"))]
  resolved := Array.replicate 147 none
  statics := some 0 }

def pool8 : Array CpInfo := pool [(1, u "java/lang/Cloneable"), (0, .class_ 1), (0, u "java/lang/Object"), (0, .class_ 3)] 3

/-- java/lang/Cloneable -/
def k8 : Class := { plain "java/lang/Cloneable" (some 0) with
  accessFlags := 1537
  interfaces := #[]
  cf := some (fileOf pool8 2 #[] #[] 1537 4 #[] #[])
  fields := #[]
  methods := #[]
  instanceTypes := #[]
  staticTypes := #[]
  resolved := Array.replicate 8 none
  statics := none }

/-- the primitive byte -/
def k9 : Class := { plain "byte" none with kind := .primitive 'B', accessFlags := 0x411 }
/-- [B -/
def k10 : Class := { plain "[B" (some 0) with kind := .array 9 .byte, interfaces := #[8, 4], accessFlags := 1041 }

/-- the primitive int -/
def k11 : Class := { plain "int" none with kind := .primitive 'I', accessFlags := 0x411 }
/-- [I -/
def k12 : Class := { plain "[I" (some 0) with kind := .array 11 .int, interfaces := #[8, 4], accessFlags := 1041 }

def heap : Heap := #[{ cls := 7, slots := #[.ref 1, .null], vm := .statics 7 },
  { cls := 7, slots := #[.null, .int 0, .int 0, .null, .int 40, .null], vm := .none }]
def classes : Array Class := #[k0, k1, k2, k3, k4, k5, k6, k7, k8, k9, k10, k11, k12]
def interned : List (Array UInt16 × Addr) := []
def slotsUsed : Nat := 8
def theMethod : MethodId := ⟨1, 1⟩
def args0 : Array Value := #[.int 5, .int 41]
def aboutOver (below : List Frame) : State where
  vm := { classes := classes, interned := interned.toArray }
  heap := heap
  slotsUsed := slotsUsed
  threads := #[{ frames := .invoking theMethod args0 :: below }]
def below0 : List Frame := [.native { method := ⟨0, 0⟩, args := #[] }]
def about1 : State := aboutOver below0
def p0 : Program := .bare "" "" ""
def e0 : Env := launch0.env 0 0 0
theorem w_frames : about1.frames = Frame.invoking theMethod args0 :: below0 := rfl
set_option maxRecDepth 65536 in
theorem w_args : argsFit about1.vm theMethod args0 = true := by decide +kernel
set_option maxRecDepth 65536 in
theorem w_heap : heapFits about1 = true := by decide +kernel
set_option maxRecDepth 65536 in
theorem w_runnable : about1.curStatus? = some .runnable := by decide +kernel
set_option maxRecDepth 65536 in
theorem w_alone : about1.alone = true := by decide +kernel
set_option maxRecDepth 65536 in
theorem w_named : about1.methodNamed? x = some theMethod := by decide +kernel
set_option maxRecDepth 65536 in
theorem w_hears : about1.hears theMethod below0 = true := by decide +kernel
set_option maxRecDepth 65536 in
theorem w_ripe : about1.ripe theMethod args0 below0 = true := by decide +kernel
theorem w_running : about1.status = .running := rfl
set_option maxRecDepth 65536 in
theorem w_room : about1.hasRoom e0.platform room_1 = true :=
  launch0.hasRoom_least _ room_1 (by decide +kernel) (by decide +kernel) (by decide +kernel) (by decide +kernel) (by decide +kernel) (by decide +kernel)
theorem allAtoms_all (ts : List Jvm.Cond) (a : Array Jvm.Value) (st : Jvm.State) : (allAtoms ts).before a st = ts.all (fun c => c.before a st) := by
  induction ts with
  | nil => rfl
  | cons c t ih =>
    show (Jvm.Cond.and c (allAtoms t)).before a st = _
    rw [Jvm.Cond.before_and, ih, List.all_cons]
def words1 : List Jvm.Cond := Jvm.Cond.code x code maxLocals ret :: tables_1
/-- a 'code' word, met by the world's own term for the bytes: nothing is compared byte by byte -/
theorem code_word {y : MethodName} {bytes : ByteArray} {mx : Nat} {rt : Option FieldType} {a : Array Value} {s : State} {m : MethodId} {meth : Method} {c : Code} (h1 : s.methodNamed? y = some m) (h2 : s.vm.method? m = some meth) (h3 : meth.code = some c) (h4 : c.code = bytes)
    (h5 : (c.maxLocals == mx && c.exceptionTable.isEmpty && decide (c.maxStack ≤ mostOperands) && decide (meth.sig.returnType = rt) && !meth.locks && decide (parseMethodDescriptor y.desc = some meth.sig)) = true) : (Jvm.Cond.code y bytes mx rt).before a s = true := by
  simp only [Bool.and_eq_true, beq_iff_eq, Bool.not_eq_true', decide_eq_true_eq] at h5
  obtain ⟨⟨⟨⟨⟨g1, g2⟩, g3⟩, g4⟩, g5⟩, g6⟩ := h5
  simp [Cond.before, Cond.holds, Cond.value, h1, h2, h3, h4, g1, g2, g3, g4, g5, g6]
def isCode : Jvm.Cond → Bool
  | .code _ _ _ _ => true
  | _ => false
theorem all_split {L : List Jvm.Cond} {P : Jvm.Cond → Bool} (h1 : L.all (fun c => isCode c || P c) = true) (h2 : ∀ c ∈ L.filter isCode, P c = true) : L.all P = true := by
  refine List.all_eq_true.mpr fun c hc => ?_
  have h := List.all_eq_true.mp h1 c hc
  rcases Bool.eq_false_or_eq_true (isCode c) with hi | hi
  · exact h2 c (List.mem_filter.mpr ⟨hc, hi⟩)
  · simpa [hi] using h
set_option maxRecDepth 65536 in
theorem w_c0 : (Jvm.Cond.code x code maxLocals ret).before args0 about1 = true := code_word (m := ⟨1, 1⟩) (meth := k1m1) (c := k1c1) (by decide +kernel) rfl rfl rfl (by decide +kernel)
set_option maxRecDepth 65536 in
theorem w_c1 : (Jvm.Cond.code ({ cls := "com/example/rollbook/rollbook/CompositionRules", name := "mostEntitiesCombined", desc := "()I" } : Jvm.MethodName) prog_26_method_6_code (1 : Nat) (Option.some Jvm.ClassFile.FieldType.int)).before args0 about1 = true := code_word (m := ⟨7, 0⟩) (meth := k7m0) (c := k7c0) (by decide +kernel) rfl rfl rfl (by decide +kernel)
set_option maxRecDepth 65536 in
theorem w_c2 : (Jvm.Cond.code ({ cls := "com/example/rollbook/rollbook/CompositionRules", name := "takesPreceding", desc := "(I)Z" } : Jvm.MethodName) prog_26_method_7_code (2 : Nat) (Option.some Jvm.ClassFile.FieldType.boolean)).before args0 about1 = true := code_word (m := ⟨7, 1⟩) (meth := k7m1) (c := k7c1) (by decide +kernel) rfl rfl rfl (by decide +kernel)
def codes1 : List Jvm.Cond := [Jvm.Cond.code x code maxLocals ret, Jvm.Cond.code ({ cls := "com/example/rollbook/rollbook/CompositionRules", name := "mostEntitiesCombined", desc := "()I" } : Jvm.MethodName) prog_26_method_6_code (1 : Nat) (Option.some Jvm.ClassFile.FieldType.int), Jvm.Cond.code ({ cls := "com/example/rollbook/rollbook/CompositionRules", name := "takesPreceding", desc := "(I)Z" } : Jvm.MethodName) prog_26_method_7_code (2 : Nat) (Option.some Jvm.ClassFile.FieldType.boolean)]
set_option maxRecDepth 65536 in
theorem codes_eq : words1.filter isCode = codes1 := rfl
theorem w_codes : ∀ c ∈ words1.filter isCode, c.before args0 about1 = true := by
  rw [codes_eq]
  intro c hc
  simp only [codes1, List.mem_cons, List.not_mem_nil, or_false] at hc
  rcases hc with rfl | rfl | rfl
  · exact w_c0
  · exact w_c1
  · exact w_c2
set_option maxRecDepth 65536 in
theorem w_t1 : words1.all (fun c => isCode c || c.before args0 about1) = true := by decide +kernel
theorem w_tables : (allAtoms (Jvm.Cond.code x code maxLocals ret :: tables_1)).before args0 about1 = true := by
  rw [allAtoms_all]
  show words1.all (fun c => c.before args0 about1) = true
  refine all_split ?_ w_codes
  rw [w_t1]
set_option maxRecDepth 65536 in
theorem w_case : (Jvm.Cond.and given_1 narrow_1).before args0 about1 = true := by decide +kernel
theorem w_applies : (headSpec (Jvm.Cond.code x code maxLocals ret :: tables_1) room_1).applies x e0.platform about1 = true :=
  (Spec.applies_iff w_frames).mpr ⟨w_running, w_runnable, w_alone, w_named, w_hears, w_ripe, w_room, w_tables⟩
theorem atStart : AtStart classFile x code maxLocals ret World_1 tables_1 room_1 Calls_1 rest_1 Pre_1 launch0 p0 e0 about1 theMethod args0 below0 :=
  ⟨lists_1, trivial, launch0.admits_env _ _ _, launch0.least_env, fairChoices_fair.cas, fairChoices_fair.clock, w_frames, w_args, w_heap, w_applies, trivial, trivial, w_case⟩
end start1
theorem witness_1 : WitnessClaimed_1 := ⟨start1.p0, start1.e0, start1.about1, start1.theMethod, start1.args0, start1.below0, start1.atStart⟩
end Jvm.Pilot.@@N@@
