import JvmDerived
import JvmDerived.Pilot.@@N@@Statement
import JvmDerived.Pilot.@@N@@Code
set_option linter.unusedVariables false
set_option linter.unusedSimpArgs false
namespace Jvm.RoadKit
open Sem ClassFile Op Lib Jvm.Stand Jvm.Free Jvm.LawKit
section New
variable {p : Program} {l : Launch} {e : Env} {R : Room} {s : State} {m : MethodId} {args : Array Value} {below : List Frame} {meth : Method} {c : Code} {T : State} {locs : List Loc} {cells slots : Nat}
theorem retI (X : Stand p l e R s m args below meth c T locs cells slots) (hx : p.tables.exec = Jvm.exec) {pc : Nat} {Ls : Array Slot} {z : Int32} {rest : List Value} (hret : meth.sig.returnType = some .int) (hd : decode c.code pc = .ok (.ireturn, 1)) {fs : List Frame}
    (hl : ∀ (f : JFrame) (acts : List Action), f.method = m → f.locked = none → f.entered = [] → (doReturn e (T.setTop f) acts (some (.int z))).1 = T.setFrames fs) : Steps p.tables e below (T.setTop (mkF m pc Ls (.int z :: rest))) (T.setFrames fs) := by
  have hm' : T.vm.method? m = some meth := X.method'
  have hn : narrow .int (.int z) = .int z := rfl
  show Steps p.tables e below (T.setTop { method := m, pc := pc, locals := Ls, stack := _ :: rest, locked := none }) _
  jvm_step X.here [X.here.top, hx, hd, hm', hret, hn]
  first | (intro acts; rw [hl _ acts rfl rfl rfl]) | rw [hl _ _ rfl rfl rfl]
  exact Steps.refl _
end New
end Jvm.RoadKit
namespace Jvm.Pilot.@@N@@
open Jvm Jvm.ClassFile Sem Op Lib Jvm.Free Jvm.Stand Jvm.LawKit Jvm.RoadKit Bundle Jvm.Pilot.@@N@@.Jvm.D
theorem own_nz {z : Int32} (h : z = (0 : Int32) ∨ z = (1 : Int32)) : narrow .boolean (.int z) = .int z := by rcases h with rfl | rfl <;> rfl
theorem own_fz {z : Int32} (h : z = (0 : Int32) ∨ z = (1 : Int32)) : fits .boolean (.int z) = true := by rcases h with rfl | rfl <;> rfl
def own_acc (om le n : Int32) : Int32 := if om = (0 : Int32) then (if n = le then 1 else 0) else (if n < le then 0 else 1)
def own_om (f : Int32) : Int32 := if (f &&& (1 : Int32)) = (0 : Int32) then 0 else 1
theorem own_om01 (f : Int32) : own_om f = (0 : Int32) ∨ own_om f = (1 : Int32) := by unfold own_om; split <;> simp
def own_pr (le ct f : Int32) : Int32 := if (f &&& (2 : Int32)) = (0 : Int32) then ct else (le + ((f >>> ((2 : Int32) &&& 31)) % (3 : Int32)))
theorem own_sub (a b : Int32) : (a.toInt64 - b.toInt64).toInt = a.toInt - b.toInt := by
  have q := c_lsub a.toInt64 b.toInt64
  rw [c_i2l, c_i2l] at q
  have r := rng64 (a.toInt64 - b.toInt64)
  have r1 := rng32 a
  have r2 := rng32 b
  omega
theorem own_lt (a b : Int32) : (a.toInt64 - b.toInt64) < (0 : Int64) ↔ a < b := by
  rw [Int64.lt_iff_toInt_lt, own_sub, Int32.lt_iff_toInt_lt]
  have t0 : (0 : Int64).toInt = 0 := rfl
  omega
theorem own_eq (a b : Int32) : (a.toInt64 - b.toInt64) = (0 : Int64) ↔ a = b := by
  rw [← Int64.toInt_inj, own_sub, ← Int32.toInt_inj]
  have t0 : (0 : Int64).toInt = 0 := rfl
  omega
theorem own_self (om le : Int32) : ¬ (own_acc om le le = (0 : Int32)) := by
  unfold own_acc
  split
  · simp
  · rw [if_neg (by simp [Int32.lt_iff_toInt_lt])]; decide
def own_exp (om le n : Int32) : Int32 := own_acc om le n
theorem own_four (om le n : Int32) : (om = (0 : Int32) ∧ n = le ∧ own_exp om le n = 1) ∨ (om = (0 : Int32) ∧ ¬ n = le ∧ own_exp om le n = 0) ∨ (¬ om = (0 : Int32) ∧ n < le ∧ own_exp om le n = 0) ∨ (¬ om = (0 : Int32) ∧ ¬ n < le ∧ own_exp om le n = 1) := by
  unfold own_exp own_acc
  by_cases h1 : om = (0 : Int32)
  · by_cases h2 : n = le <;> simp [h1, h2]
  · by_cases h2 : n < le <;> simp [h1, h2]
theorem d2_0 : decode jdk_30_method_1_code 0 = .ok (.aload_n 0, 1) := by decide +kernel
theorem d2_1 : decode jdk_30_method_1_code 1 = .ok (.invokespecial 1, 3) := by decide +kernel
theorem d2_4 : decode jdk_30_method_1_code 4 = .ok (.return_, 1) := by decide +kernel
theorem pn_java_lang_Record : plainName "java/lang/Record" = true := by first | (simp [plainName, overriddenIn]; done) | decide +kernel
theorem ef_own_rec (m : MethodId) (x0 : Addr) : entryFrame m #[(.ref x0)] 1 = mkF m 0 #[.val (.ref x0)] [] := by first | (simp [entryFrame, mkF, argsToLocals, Value.category]; done) | rfl
def Qown_rec (Z : State) (a1 : Addr) (h0 : Heap) (n0 : Nat) (v : Option Value) (h : Heap) (L : List Loc) : Prop := v = none ∧ Fr n0 L ∧ h = h0
set_option maxRecDepth 65536 in
set_option maxHeartbeats 40000000 in
theorem own_rec (l : Launch) (Z : State) (a0 : Array Value) (hw : ∀ d ∈ tables_1, d.before a0 Z = true) (ws : List Jvm.Cond) (a1 : Addr) (h0 : Heap) (n0 : Nat) (Z0 : n0 ≤ h0.size) :
    MetFree l (⟨"java/lang/Record", "<init>", "()V"⟩ : MethodName) (head1 (Jvm.Cond.code (⟨"java/lang/Record", "<init>", "()V"⟩ : MethodName) jdk_30_method_1_code 1 none :: ws) ({ frames := 1, cells := 0, slots := 0, locals := 12 } : Room)) (fun a U => a = #[(.ref a1)] ∧ Z.Warmed39 U.vm ∧ U.heap = h0) (fun _ _ _ _ _ => True) (fun _ U o U' => ∃ v L, o = .returned v ∧ Qown_rec Z a1 h0 n0 v U'.heap L ∧ FrameEnd U o U' L ({ frames := 1, cells := 0, slots := 0, locals := 12 } : Room).cells ({ frames := 1, cells := 0, slots := 0, locals := 12 } : Room).slots) := by
  refine MetFree.of_bodySF (plainFor_of_name pn_java_lang_Record) hisR ?_
  intro p e s m args below meth c s₁ Bd hml0 hP hK
  obtain ⟨rfl, hZ, hh⟩ := hP
  have hx := Bd.exec
  have hby := Bd.bytes
  have hml : c.maxLocals = 1 := hml0
  have hown : s.vm.findClass "java/lang/Record" = some m.cls := findClass_of_methodNamed Bd.named
  have hnm := (name_of_methodNamed Bd.named Bd.method).1
  have X0 : Stand p l e ({ frames := 1, cells := 0, slots := 0, locals := 12 } : Room) s m #[(.ref a1)] below meth c s₁ [] 0 0 := Stand.of_body Bd
  have e0 : s₁.heap = h0 := by rw [← hh, Bd.state]; rfl
  have N0 := Fr.nil n0
  have pre0 : ∀ t, Steps p.tables e below (s₁.setTop (mkF m 0 #[.val (.ref a1)] [])) t → Steps p.tables e below (s₁.setTop (entryFrame m #[(.ref a1)] 1)) t := fun t k => castTop (ef_own_rec m (a1)) k
  obtain ⟨T1, X1, e1, st1⟩ := initO X0 hx hZ hown (hw _ (List.mem_of_getElem? (i := 11) rfl)) (hw _ (List.mem_of_getElem? (i := 12) rfl)) (hw _ (List.mem_of_getElem? (i := 13) rfl)) e0 (g := (mkF m 1 #[.val (.ref a1)] [(.ref a1)])) rfl (by rw [hml]; rfl) rfl (hb hby d2_1) (by decide) (W := 0) (by show 2 * 0 + _ ≤ _; exact Nat.le_of_eq rfl) (by decide)
  obtain ⟨fs, hr, hrun, hended, hW, hsame⟩ := X1.leave (v := none) (fun _ => rfl)
  refine ⟨_, _, pre0 _ ?_, hrun, hended, _, _, rfl, ?_, ⟨_, rfl⟩, hW, hsame.mono (by decide) (by decide)⟩
  · show Steps p.tables e below (s₁.setTop (mkF m 0 #[.val (.ref a1)] [])) _
    refine XS.aloadN X0.here hx rfl (hb hby d2_0) rfl rfl ?_
    show Steps p.tables e below (s₁.setTop (mkF m 1 #[.val (.ref a1)] [(.ref a1)])) _
    refine st1 _ ?_
    show Steps p.tables e below (T1.setTop (mkF m 4 #[.val (.ref a1)] [])) _
    exact X1.returnOut hx Bd.returns (hb hby d2_4) hr
  · show Qown_rec Z a1 h0 n0 _ T1.heap _
    rw [e1]
    exact ⟨rfl, N0, rfl⟩
theorem d1_0 : decode prog_56_method_1_code 0 = .ok (.aload_n 0, 1) := by decide +kernel
theorem d1_1 : decode prog_56_method_1_code 1 = .ok (.invokespecial 1, 3) := by decide +kernel
theorem pd___V : parseMethodDescriptor "()V" = some ⟨[], none⟩ := by decide +kernel
theorem d1_4 : decode prog_56_method_1_code 4 = .ok (.aload_n 0, 1) := by decide +kernel
theorem d1_5 : decode prog_56_method_1_code 5 = .ok (.iload_n 1, 1) := by decide +kernel
theorem d1_6 : decode prog_56_method_1_code 6 = .ok (.putfield 7, 3) := by decide +kernel
theorem d1_9 : decode prog_56_method_1_code 9 = .ok (.aload_n 0, 1) := by decide +kernel
theorem d1_10 : decode prog_56_method_1_code 10 = .ok (.iload_n 2, 1) := by decide +kernel
theorem d1_11 : decode prog_56_method_1_code 11 = .ok (.putfield 13, 3) := by decide +kernel
theorem d1_14 : decode prog_56_method_1_code 14 = .ok (.return_, 1) := by decide +kernel
theorem pn_com_example_rubrika_rubrika_ProfileTable_Count : plainName "com/example/rubrika/rubrika/ProfileTable$Count" = true := by first | (simp [plainName, overriddenIn]; done) | decide +kernel
theorem ef_own_init (m : MethodId) (x0 : Addr) (x1 : Int32) (x2 : Int32) : entryFrame m #[(.ref x0), (.int x1), (.int x2)] 3 = mkF m 0 #[.val (.ref x0), .val (.int x1), .val (.int x2)] [] := by first | (simp [entryFrame, mkF, argsToLocals, Value.category]; done) | rfl
def Qown_init (Z : State) (a1 : Addr) (p1 : Int32) (p2 : Int32) (h0 : Heap) (n0 : Nat) (v : Option Value) (h : Heap) (L : List Loc) : Prop := v = none ∧ Fr n0 L ∧ Keep h0 h [a1] ∧ Fld Z h a1 "com/example/rubrika/rubrika/ProfileTable$Count" "least" "I" (.int p1) ∧ Fld Z h a1 "com/example/rubrika/rubrika/ProfileTable$Count" "orMore" "Z" (.int p2)
set_option maxRecDepth 65536 in
set_option maxHeartbeats 40000000 in
theorem own_init (l : Launch) (Z : State) (a0 : Array Value) (hw : ∀ d ∈ tables_1, d.before a0 Z = true) (ws : List Jvm.Cond) (a1 : Addr) (p1 : Int32) (p2 : Int32) (h0 : Heap) (n0 : Nat) (Z0 : n0 ≤ h0.size) (F1 : Fld Z h0 a1 "com/example/rubrika/rubrika/ProfileTable$Count" "least" "I" (.int (0 : Int32))) (F2 : Fld Z h0 a1 "com/example/rubrika/rubrika/ProfileTable$Count" "orMore" "Z" (.int (0 : Int32))) (E1 : Exa Z h0 a1 "com/example/rubrika/rubrika/ProfileTable$Count") (g_a1 : n0 ≤ a1) (hz : p2 = (0 : Int32) ∨ p2 = (1 : Int32)) :
    MetFree l (⟨"com/example/rubrika/rubrika/ProfileTable$Count", "<init>", "(IZ)V"⟩ : MethodName) (head1 (Jvm.Cond.code (⟨"com/example/rubrika/rubrika/ProfileTable$Count", "<init>", "(IZ)V"⟩ : MethodName) prog_56_method_1_code 3 none :: ws) ({ frames := 2, cells := 0, slots := 0, locals := 24 } : Room)) (fun a U => a = #[(.ref a1), (.int p1), (.int p2)] ∧ Z.Warmed39 U.vm ∧ U.heap = h0) (fun _ _ _ _ _ => True) (fun _ U o U' => ∃ v L, o = .returned v ∧ Qown_init Z a1 p1 p2 h0 n0 v U'.heap L ∧ FrameEnd U o U' L ({ frames := 2, cells := 0, slots := 0, locals := 24 } : Room).cells ({ frames := 2, cells := 0, slots := 0, locals := 24 } : Room).slots) := by
  refine MetFree.of_bodySF (plainFor_of_name pn_com_example_rubrika_rubrika_ProfileTable_Count) hisR ?_
  intro p e s m args below meth c s₁ Bd hml0 hP hK
  obtain ⟨rfl, hZ, hh⟩ := hP
  have hx := Bd.exec
  have hby := Bd.bytes
  have hml : c.maxLocals = 3 := hml0
  have hown : s.vm.findClass "com/example/rubrika/rubrika/ProfileTable$Count" = some m.cls := findClass_of_methodNamed Bd.named
  have hnm := (name_of_methodNamed Bd.named Bd.method).1
  have X0 : Stand p l e ({ frames := 2, cells := 0, slots := 0, locals := 24 } : Room) s m #[(.ref a1), (.int p1), (.int p2)] below meth c s₁ [] 0 0 := Stand.of_body Bd
  have e0 : s₁.heap = h0 := by rw [← hh, Bd.state]; rfl
  have N0 := Fr.nil n0
  have pre0 : ∀ t, Steps p.tables e below (s₁.setTop (mkF m 0 #[.val (.ref a1), .val (.int p1), .val (.int p2)] [])) t → Steps p.tables e below (s₁.setTop (entryFrame m #[(.ref a1), (.int p1), (.int p2)] 3)) t := fun t k => castTop (ef_own_init m (a1) (p1) (p2)) k
  obtain ⟨_, _, ⟨T1, L1, k1, n1⟩, -, X1, ⟨Lc1, hQ1, l1, y1, z1⟩, st1⟩ := X0.specialBack hx (y := (⟨"java/lang/Record", "<init>", "()V"⟩ : MethodName)) rfl hown (mvT hZ (hw _ (List.mem_of_getElem? (i := 6) rfl))) (mvT hZ (hw _ (List.mem_of_getElem? (i := 7) rfl))) (mvT hZ (hw _ (List.mem_of_getElem? (i := 10) rfl))) (by decide) (backOf (W := 0) (own_rec l Z a0 hw [] a1  h0 n0 Z0 ) hZ (hw _ (List.mem_of_getElem? (i := 10) rfl)) (hw _ (List.mem_of_getElem? (i := 9) rfl)) (by decide) (by decide)) (g := (mkF m 1 #[.val (.ref a1), .val (.int p1), .val (.int p2)] [(.ref a1)])) rfl (by rw [hml]; rfl) (Steps.refl _) (a := a1) (argsL := []) (rest := []) (lenOf pd___V rfl) rfl (by show 2 * 0 + _ ≤ _; exact Nat.le_of_eq rfl) (hb hby d1_1) (fun _ _ => ⟨rfl, e0, (by decide : 0 + 0 ≤ _), (by decide : 0 + 0 ≤ _)⟩)
  dsimp only [Pt.U, Pt.locs, Pt.cells, Pt.slots] at X1 l1 y1 z1 st1 hQ1
  subst l1 y1 z1
  obtain ⟨rfl, Nq1, e1⟩ := hQ1
  have N1 := Fr.app N0 Nq1
  obtain ⟨T2, h2, X2, e2, W2, st2⟩ := putF X1 hx hZ hown (host := "") (Or.inl (hw _ (List.mem_of_getElem? (i := 14) rfl))) Via.refl e1 F1 E1 (Or.inr ⟨(hw _ (List.mem_of_getElem? (i := 15) rfl)), rfl, hnm⟩) (hw _ (List.mem_of_getElem? (i := 1) rfl)) (ty := .int) (by decide) rfl rfl (g := (mkF m 6 #[.val (.ref a1), .val (.int p1), .val (.int p2)] [(.int p1), (.ref a1)])) rfl rfl (hb hby d1_6)
  have Fw2 := F1.same W2
  have K2 : Keep h0 h2 [a1] := (Keep.refl h0 [a1]).wr W2 (Or.inl (List.mem_of_getElem? (i := 0) rfl))
  have N2 := Fr.snoc X2 N1 g_a1
  have Z2 : n0 ≤ h2.size := Nat.le_trans Z0 (Keep.of_wr W2).1
  have fc4 := (F2.other W2 (Or.inr (slot_ne (Or.inr (hw _ (List.mem_of_getElem? (i := 17) rfl))) (Or.inr (hw _ (List.mem_of_getElem? (i := 15) rfl))) (by decide) (t := .boolean) (t' := .int) (by decide) (by decide))))
  have fc5 := (E1.wr W2)
  obtain ⟨T3, h3, X3, e3, W3, st3⟩ := putFN X2 hx hZ hown (hw _ (List.mem_of_getElem? (i := 16) rfl)) Via.refl e2 fc4 fc5 (Or.inr ⟨(hw _ (List.mem_of_getElem? (i := 17) rfl)), rfl, hnm⟩) (hw _ (List.mem_of_getElem? (i := 1) rfl)) (ty := .boolean) (v' := (.int p2)) (by decide) (own_nz hz) (own_fz hz) (g := (mkF m 11 #[.val (.ref a1), .val (.int p1), .val (.int p2)] [(.int p2), (.ref a1)])) rfl rfl (hb hby d1_11)
  have Fw3 := fc4.same W3
  have K3 : Keep h0 h3 [a1] := K2.wr W3 (Or.inl (List.mem_of_getElem? (i := 0) rfl))
  have N3 := Fr.snoc X3 N2 g_a1
  have Z3 : n0 ≤ h3.size := Nat.le_trans Z2 (Keep.of_wr W3).1
  have fc6 := (Fw2.other W3 (Or.inr (slot_ne (Or.inr (hw _ (List.mem_of_getElem? (i := 15) rfl))) (Or.inr (hw _ (List.mem_of_getElem? (i := 17) rfl))) (by decide) (t := .int) (t' := .boolean) (by decide) (by decide))))
  obtain ⟨fs, hr, hrun, hended, hW, hsame⟩ := X3.leave (v := none) (fun _ => rfl)
  refine ⟨_, _, pre0 _ ?_, hrun, hended, _, _, rfl, ?_, ⟨_, rfl⟩, hW, hsame.mono (by decide) (by decide)⟩
  · show Steps p.tables e below (s₁.setTop (mkF m 0 #[.val (.ref a1), .val (.int p1), .val (.int p2)] [])) _
    refine XS.aloadN X0.here hx rfl (hb hby d1_0) rfl rfl ?_
    show Steps p.tables e below (s₁.setTop (mkF m 1 #[.val (.ref a1), .val (.int p1), .val (.int p2)] [(.ref a1)])) _
    refine st1.trans ?_
    show Steps p.tables e below (T1.setTop (mkF m 4 #[.val (.ref a1), .val (.int p1), .val (.int p2)] [])) _
    refine XS.aloadN X1.here hx rfl (hb hby d1_4) rfl rfl ?_
    show Steps p.tables e below (T1.setTop (mkF m 5 #[.val (.ref a1), .val (.int p1), .val (.int p2)] [(.ref a1)])) _
    refine XS.iloadN X1.here hx rfl (hb hby d1_5) rfl ?_
    show Steps p.tables e below (T1.setTop (mkF m 6 #[.val (.ref a1), .val (.int p1), .val (.int p2)] [(.int p1), (.ref a1)])) _
    refine st2 _ ?_
    show Steps p.tables e below (T2.setTop (mkF m 9 #[.val (.ref a1), .val (.int p1), .val (.int p2)] [])) _
    refine XS.aloadN X2.here hx rfl (hb hby d1_9) rfl rfl ?_
    show Steps p.tables e below (T2.setTop (mkF m 10 #[.val (.ref a1), .val (.int p1), .val (.int p2)] [(.ref a1)])) _
    refine XS.iloadN X2.here hx rfl (hb hby d1_10) rfl ?_
    show Steps p.tables e below (T2.setTop (mkF m 11 #[.val (.ref a1), .val (.int p1), .val (.int p2)] [(.int p2), (.ref a1)])) _
    refine st3 _ ?_
    show Steps p.tables e below (T3.setTop (mkF m 14 #[.val (.ref a1), .val (.int p1), .val (.int p2)] [])) _
    exact X3.returnOut hx Bd.returns (hb hby d1_14) hr
  · show Qown_init Z a1 p1 p2 h0 n0 _ T3.heap _
    rw [e3]
    exact ⟨rfl, N3, K3, fc6, Fw3⟩
theorem d4_0 : decode prog_56_method_2_code 0 = .ok (.aload_n 0, 1) := by decide +kernel
theorem d4_1 : decode prog_56_method_2_code 1 = .ok (.getfield 13, 3) := by decide +kernel
theorem d4_4 : decode prog_56_method_2_code 4 = .ok (.ifCond .eq 19, 3) := by decide +kernel
theorem d4_23 : decode prog_56_method_2_code 23 = .ok (.iload_n 1, 1) := by decide +kernel
theorem d4_24 : decode prog_56_method_2_code 24 = .ok (.aload_n 0, 1) := by decide +kernel
theorem d4_25 : decode prog_56_method_2_code 25 = .ok (.getfield 7, 3) := by decide +kernel
theorem d4_28 : decode prog_56_method_2_code 28 = .ok (.if_icmp .ne 7, 3) := by decide +kernel
theorem d4_31 : decode prog_56_method_2_code 31 = .ok (.iconst 1, 1) := by decide +kernel
theorem d4_32 : decode prog_56_method_2_code 32 = .ok (.goto 4, 3) := by decide +kernel
theorem d4_36 : decode prog_56_method_2_code 36 = .ok (.ireturn, 1) := by decide +kernel
theorem d4_35 : decode prog_56_method_2_code 35 = .ok (.iconst 0, 1) := by decide +kernel
theorem d4_7 : decode prog_56_method_2_code 7 = .ok (.iload_n 1, 1) := by decide +kernel
theorem d4_8 : decode prog_56_method_2_code 8 = .ok (.aload_n 0, 1) := by decide +kernel
theorem d4_9 : decode prog_56_method_2_code 9 = .ok (.getfield 7, 3) := by decide +kernel
theorem d4_12 : decode prog_56_method_2_code 12 = .ok (.if_icmp .lt 7, 3) := by decide +kernel
theorem d4_19 : decode prog_56_method_2_code 19 = .ok (.iconst 0, 1) := by decide +kernel
theorem d4_20 : decode prog_56_method_2_code 20 = .ok (.goto 16, 3) := by decide +kernel
theorem d4_15 : decode prog_56_method_2_code 15 = .ok (.iconst 1, 1) := by decide +kernel
theorem d4_16 : decode prog_56_method_2_code 16 = .ok (.goto 20, 3) := by decide +kernel
theorem ef_own_accepts (m : MethodId) (x0 : Addr) (x1 : Int32) : entryFrame m #[(.ref x0), (.int x1)] 2 = mkF m 0 #[.val (.ref x0), .val (.int x1)] [] := by first | (simp [entryFrame, mkF, argsToLocals, Value.category]; done) | rfl
def Qown_accepts (Z : State) (a1 : Addr) (p1 : Int32) (om : Int32) (le : Int32) (h0 : Heap) (n0 : Nat) (v : Option Value) (h : Heap) (L : List Loc) : Prop := v = some (.int (own_acc om le p1)) ∧ Fr n0 L ∧ h = h0
set_option maxRecDepth 65536 in
set_option maxHeartbeats 40000000 in
theorem own_accepts (l : Launch) (Z : State) (a0 : Array Value) (hw : ∀ d ∈ tables_1, d.before a0 Z = true) (ws : List Jvm.Cond) (a1 : Addr) (p1 : Int32) (om : Int32) (le : Int32) (h0 : Heap) (n0 : Nat) (Z0 : n0 ≤ h0.size) (F1 : Fld Z h0 a1 "com/example/rubrika/rubrika/ProfileTable$Count" "least" "I" (.int le)) (F2 : Fld Z h0 a1 "com/example/rubrika/rubrika/ProfileTable$Count" "orMore" "Z" (.int om)) :
    MetFree l (⟨"com/example/rubrika/rubrika/ProfileTable$Count", "accepts", "(I)Z"⟩ : MethodName) (head1 (Jvm.Cond.code (⟨"com/example/rubrika/rubrika/ProfileTable$Count", "accepts", "(I)Z"⟩ : MethodName) prog_56_method_2_code 2 (some .boolean) :: ws) ({ frames := 0, cells := 0, slots := 0, locals := 0 } : Room)) (fun a U => a = #[(.ref a1), (.int p1)] ∧ Z.Warmed39 U.vm ∧ U.heap = h0) (fun _ _ _ _ _ => True) (fun _ U o U' => ∃ v L, o = .returned v ∧ Qown_accepts Z a1 p1 om le h0 n0 v U'.heap L ∧ FrameEnd U o U' L ({ frames := 0, cells := 0, slots := 0, locals := 0 } : Room).cells ({ frames := 0, cells := 0, slots := 0, locals := 0 } : Room).slots) := by
  refine MetFree.of_bodySF (plainFor_of_name pn_com_example_rubrika_rubrika_ProfileTable_Count) hisR ?_
  intro p e s m args below meth c s₁ Bd hml0 hP hK
  obtain ⟨rfl, hZ, hh⟩ := hP
  have hx := Bd.exec
  have hby := Bd.bytes
  have hml : c.maxLocals = 2 := hml0
  have hown : s.vm.findClass "com/example/rubrika/rubrika/ProfileTable$Count" = some m.cls := findClass_of_methodNamed Bd.named
  have hnm := (name_of_methodNamed Bd.named Bd.method).1
  have X0 : Stand p l e ({ frames := 0, cells := 0, slots := 0, locals := 0 } : Room) s m #[(.ref a1), (.int p1)] below meth c s₁ [] 0 0 := Stand.of_body Bd
  have e0 : s₁.heap = h0 := by rw [← hh, Bd.state]; rfl
  have N0 := Fr.nil n0
  have pre0 : ∀ t, Steps p.tables e below (s₁.setTop (mkF m 0 #[.val (.ref a1), .val (.int p1)] [])) t → Steps p.tables e below (s₁.setTop (entryFrame m #[(.ref a1), (.int p1)] 2)) t := fun t k => castTop (ef_own_accepts m (a1) (p1)) k
  obtain ⟨T1, X1, e1, st1⟩ := getF X0 hx hZ hown (host := "") (Or.inl (hw _ (List.mem_of_getElem? (i := 16) rfl))) Via.refl e0 F2 (g := (mkF m 1 #[.val (.ref a1), .val (.int p1)] [(.ref a1)])) rfl rfl (hb hby d4_1)
  by_cases hom : om = (0 : Int32)
  · obtain ⟨T2, X2, e2, st2⟩ := getF X1 hx hZ hown (host := "") (Or.inl (hw _ (List.mem_of_getElem? (i := 14) rfl))) Via.refl e1 F1 (g := (mkF m 25 #[.val (.ref a1), .val (.int p1)] [(.ref a1), (.int p1)])) rfl rfl (hb hby d4_25)
    by_cases h1 : p1 = le
    · obtain ⟨fs, hr, hrun, hended, hW, hsame⟩ := X2.leave (v := some (.int (1 : Int32))) (fun h => by rw [Bd.returns] at h; cases h)
      refine ⟨_, _, pre0 _ ?_, hrun, hended, _, _, rfl, ?_, ⟨_, rfl⟩, hW, hsame.mono (by decide) (by decide)⟩
      · show Steps p.tables e below (s₁.setTop (mkF m 0 #[.val (.ref a1), .val (.int p1)] [])) _
        refine XS.aloadN X0.here hx rfl (hb hby d4_0) rfl rfl ?_
        show Steps p.tables e below (s₁.setTop (mkF m 1 #[.val (.ref a1), .val (.int p1)] [(.ref a1)])) _
        refine st1 _ ?_
        show Steps p.tables e below (T1.setTop (mkF m 4 #[.val (.ref a1), .val (.int p1)] [(.int om)])) _
        refine XS.ifYes X1.here hx rfl (pc0 := 4) (pc' := 23) rfl (hb hby d4_4) rfl ((if0 _ _).trans (teq (hom : om = (0 : Int32))).1) (by decide) (by decide) ?_
        show Steps p.tables e below (T1.setTop (mkF m 23 #[.val (.ref a1), .val (.int p1)] [])) _
        refine XS.iloadN X1.here hx rfl (hb hby d4_23) rfl ?_
        show Steps p.tables e below (T1.setTop (mkF m 24 #[.val (.ref a1), .val (.int p1)] [(.int p1)])) _
        refine XS.aloadN X1.here hx rfl (hb hby d4_24) rfl rfl ?_
        show Steps p.tables e below (T1.setTop (mkF m 25 #[.val (.ref a1), .val (.int p1)] [(.ref a1), (.int p1)])) _
        refine st2 _ ?_
        show Steps p.tables e below (T2.setTop (mkF m 28 #[.val (.ref a1), .val (.int p1)] [(.int le), (.int p1)])) _
        refine XS.icmpNo X2.here hx rfl (hb hby d4_28) rfl (teq (h1 : p1 = le)).2 ?_
        show Steps p.tables e below (T2.setTop (mkF m 31 #[.val (.ref a1), .val (.int p1)] [])) _
        refine XS.iconst X2.here hx rfl (hb hby d4_31) ?_
        show Steps p.tables e below (T2.setTop (mkF m 32 #[.val (.ref a1), .val (.int p1)] [(.int (1 : Int32))])) _
        refine XS.goto X2.here hx rfl (pc0 := 32) (pc' := 36) rfl (hb hby d4_32) (by decide) (by decide) ?_
        show Steps p.tables e below (T2.setTop (mkF m 36 #[.val (.ref a1), .val (.int p1)] [(.int (1 : Int32))])) _
        exact retN X2 hx (t := .boolean) Bd.returns (by simp) (hb hby d4_36) hr
      · show Qown_accepts Z a1 p1 om le h0 n0 _ T2.heap _
        rw [e2]
        exact ⟨by simp [own_acc, hom, h1], N0, rfl⟩
    · obtain ⟨fs, hr, hrun, hended, hW, hsame⟩ := X2.leave (v := some (.int (0 : Int32))) (fun h => by rw [Bd.returns] at h; cases h)
      refine ⟨_, _, pre0 _ ?_, hrun, hended, _, _, rfl, ?_, ⟨_, rfl⟩, hW, hsame.mono (by decide) (by decide)⟩
      · show Steps p.tables e below (s₁.setTop (mkF m 0 #[.val (.ref a1), .val (.int p1)] [])) _
        refine XS.aloadN X0.here hx rfl (hb hby d4_0) rfl rfl ?_
        show Steps p.tables e below (s₁.setTop (mkF m 1 #[.val (.ref a1), .val (.int p1)] [(.ref a1)])) _
        refine st1 _ ?_
        show Steps p.tables e below (T1.setTop (mkF m 4 #[.val (.ref a1), .val (.int p1)] [(.int om)])) _
        refine XS.ifYes X1.here hx rfl (pc0 := 4) (pc' := 23) rfl (hb hby d4_4) rfl ((if0 _ _).trans (teq (hom : om = (0 : Int32))).1) (by decide) (by decide) ?_
        show Steps p.tables e below (T1.setTop (mkF m 23 #[.val (.ref a1), .val (.int p1)] [])) _
        refine XS.iloadN X1.here hx rfl (hb hby d4_23) rfl ?_
        show Steps p.tables e below (T1.setTop (mkF m 24 #[.val (.ref a1), .val (.int p1)] [(.int p1)])) _
        refine XS.aloadN X1.here hx rfl (hb hby d4_24) rfl rfl ?_
        show Steps p.tables e below (T1.setTop (mkF m 25 #[.val (.ref a1), .val (.int p1)] [(.ref a1), (.int p1)])) _
        refine st2 _ ?_
        show Steps p.tables e below (T2.setTop (mkF m 28 #[.val (.ref a1), .val (.int p1)] [(.int le), (.int p1)])) _
        refine XS.icmpYes X2.here hx rfl (pc0 := 28) (pc' := 35) rfl (hb hby d4_28) rfl (feq (h1 : ¬ (p1 = le))).2 (by decide) (by decide) ?_
        show Steps p.tables e below (T2.setTop (mkF m 35 #[.val (.ref a1), .val (.int p1)] [])) _
        refine XS.iconst X2.here hx rfl (hb hby d4_35) ?_
        show Steps p.tables e below (T2.setTop (mkF m 36 #[.val (.ref a1), .val (.int p1)] [(.int (0 : Int32))])) _
        exact retN X2 hx (t := .boolean) Bd.returns (by simp) (hb hby d4_36) hr
      · show Qown_accepts Z a1 p1 om le h0 n0 _ T2.heap _
        rw [e2]
        exact ⟨by simp [own_acc, hom, h1], N0, rfl⟩
  · obtain ⟨T3, X3, e3, st3⟩ := getF X1 hx hZ hown (host := "") (Or.inl (hw _ (List.mem_of_getElem? (i := 14) rfl))) Via.refl e1 F1 (g := (mkF m 9 #[.val (.ref a1), .val (.int p1)] [(.ref a1), (.int p1)])) rfl rfl (hb hby d4_9)
    by_cases h1 : p1 < le
    · obtain ⟨fs, hr, hrun, hended, hW, hsame⟩ := X3.leave (v := some (.int (0 : Int32))) (fun h => by rw [Bd.returns] at h; cases h)
      refine ⟨_, _, pre0 _ ?_, hrun, hended, _, _, rfl, ?_, ⟨_, rfl⟩, hW, hsame.mono (by decide) (by decide)⟩
      · show Steps p.tables e below (s₁.setTop (mkF m 0 #[.val (.ref a1), .val (.int p1)] [])) _
        refine XS.aloadN X0.here hx rfl (hb hby d4_0) rfl rfl ?_
        show Steps p.tables e below (s₁.setTop (mkF m 1 #[.val (.ref a1), .val (.int p1)] [(.ref a1)])) _
        refine st1 _ ?_
        show Steps p.tables e below (T1.setTop (mkF m 4 #[.val (.ref a1), .val (.int p1)] [(.int om)])) _
        refine XS.ifNo X1.here hx rfl (hb hby d4_4) rfl ((if0 _ _).trans (feq (hom : ¬ (om = (0 : Int32)))).1) ?_
        show Steps p.tables e below (T1.setTop (mkF m 7 #[.val (.ref a1), .val (.int p1)] [])) _
        refine XS.iloadN X1.here hx rfl (hb hby d4_7) rfl ?_
        show Steps p.tables e below (T1.setTop (mkF m 8 #[.val (.ref a1), .val (.int p1)] [(.int p1)])) _
        refine XS.aloadN X1.here hx rfl (hb hby d4_8) rfl rfl ?_
        show Steps p.tables e below (T1.setTop (mkF m 9 #[.val (.ref a1), .val (.int p1)] [(.ref a1), (.int p1)])) _
        refine st3 _ ?_
        show Steps p.tables e below (T3.setTop (mkF m 12 #[.val (.ref a1), .val (.int p1)] [(.int le), (.int p1)])) _
        refine XS.icmpYes X3.here hx rfl (pc0 := 12) (pc' := 19) rfl (hb hby d4_12) rfl (tlt (h1 : p1 < le)).1 (by decide) (by decide) ?_
        show Steps p.tables e below (T3.setTop (mkF m 19 #[.val (.ref a1), .val (.int p1)] [])) _
        refine XS.iconst X3.here hx rfl (hb hby d4_19) ?_
        show Steps p.tables e below (T3.setTop (mkF m 20 #[.val (.ref a1), .val (.int p1)] [(.int (0 : Int32))])) _
        refine XS.goto X3.here hx rfl (pc0 := 20) (pc' := 36) rfl (hb hby d4_20) (by decide) (by decide) ?_
        show Steps p.tables e below (T3.setTop (mkF m 36 #[.val (.ref a1), .val (.int p1)] [(.int (0 : Int32))])) _
        exact retN X3 hx (t := .boolean) Bd.returns (by simp) (hb hby d4_36) hr
      · show Qown_accepts Z a1 p1 om le h0 n0 _ T3.heap _
        rw [e3]
        exact ⟨by simp [own_acc, hom, h1], N0, rfl⟩
    · obtain ⟨fs, hr, hrun, hended, hW, hsame⟩ := X3.leave (v := some (.int (1 : Int32))) (fun h => by rw [Bd.returns] at h; cases h)
      refine ⟨_, _, pre0 _ ?_, hrun, hended, _, _, rfl, ?_, ⟨_, rfl⟩, hW, hsame.mono (by decide) (by decide)⟩
      · show Steps p.tables e below (s₁.setTop (mkF m 0 #[.val (.ref a1), .val (.int p1)] [])) _
        refine XS.aloadN X0.here hx rfl (hb hby d4_0) rfl rfl ?_
        show Steps p.tables e below (s₁.setTop (mkF m 1 #[.val (.ref a1), .val (.int p1)] [(.ref a1)])) _
        refine st1 _ ?_
        show Steps p.tables e below (T1.setTop (mkF m 4 #[.val (.ref a1), .val (.int p1)] [(.int om)])) _
        refine XS.ifNo X1.here hx rfl (hb hby d4_4) rfl ((if0 _ _).trans (feq (hom : ¬ (om = (0 : Int32)))).1) ?_
        show Steps p.tables e below (T1.setTop (mkF m 7 #[.val (.ref a1), .val (.int p1)] [])) _
        refine XS.iloadN X1.here hx rfl (hb hby d4_7) rfl ?_
        show Steps p.tables e below (T1.setTop (mkF m 8 #[.val (.ref a1), .val (.int p1)] [(.int p1)])) _
        refine XS.aloadN X1.here hx rfl (hb hby d4_8) rfl rfl ?_
        show Steps p.tables e below (T1.setTop (mkF m 9 #[.val (.ref a1), .val (.int p1)] [(.ref a1), (.int p1)])) _
        refine st3 _ ?_
        show Steps p.tables e below (T3.setTop (mkF m 12 #[.val (.ref a1), .val (.int p1)] [(.int le), (.int p1)])) _
        refine XS.icmpNo X3.here hx rfl (hb hby d4_12) rfl (flt (h1 : ¬ (p1 < le))).1 ?_
        show Steps p.tables e below (T3.setTop (mkF m 15 #[.val (.ref a1), .val (.int p1)] [])) _
        refine XS.iconst X3.here hx rfl (hb hby d4_15) ?_
        show Steps p.tables e below (T3.setTop (mkF m 16 #[.val (.ref a1), .val (.int p1)] [(.int (1 : Int32))])) _
        refine XS.goto X3.here hx rfl (pc0 := 16) (pc' := 36) rfl (hb hby d4_16) (by decide) (by decide) ?_
        show Steps p.tables e below (T3.setTop (mkF m 36 #[.val (.ref a1), .val (.int p1)] [(.int (1 : Int32))])) _
        exact retN X3 hx (t := .boolean) Bd.returns (by simp) (hb hby d4_36) hr
      · show Qown_accepts Z a1 p1 om le h0 n0 _ T3.heap _
        rw [e3]
        exact ⟨by simp [own_acc, hom, h1], N0, rfl⟩
theorem pd__IZ_V : parseMethodDescriptor "(IZ)V" = some ⟨[.int, .boolean], none⟩ := by decide +kernel
theorem pd__I_Z : parseMethodDescriptor "(I)Z" = some ⟨[.int], some .boolean⟩ := by decide +kernel
theorem pn_com_example_rubrika_rubrika_CountAcceptsPinLaw : plainName "com/example/rubrika/rubrika/CountAcceptsPinLaw" = true := by first | (simp [plainName, overriddenIn]; done) | decide +kernel
theorem ef_own_law (m : MethodId) (x0 : Int32) (x1 : Int32) (x2 : Int32) : entryFrame m #[(.int x0), (.int x1), (.int x2)] maxLocals = mkF m 0 #[.val (.int x0), .val (.int x1), .val (.int x2), .unset, .unset, .unset, .unset, .unset, .unset, .unset] [] := by first | (simp [entryFrame, mkF, argsToLocals, Value.category, maxLocals]; done) | rfl
def Qown_law (Z : State) (p1 : Int32) (p2 : Int32) (p3 : Int32) (h0 : Heap) (n0 : Nat) (v : Option Value) (h : Heap) (L : List Loc) : Prop := v = some (.int (1 : Int32)) ∧ Fr n0 L
set_option maxRecDepth 65536 in
set_option maxHeartbeats 40000000 in
theorem own_law (l : Launch) (Z : State) (a0 : Array Value) (hw : ∀ d ∈ tables_1, d.before a0 Z = true) (ws : List Jvm.Cond) (p1 : Int32) (p2 : Int32) (p3 : Int32) (h0 : Heap) (n0 : Nat) (Z0 : n0 ≤ h0.size) :
    MetFree l x (head1 (Jvm.Cond.code x code maxLocals ret :: ws) room_1) (fun a U => a = #[(.int p1), (.int p2), (.int p3)] ∧ Z.Warmed39 U.vm ∧ U.heap = h0) (fun _ _ _ _ _ => True) (fun _ U o U' => ∃ v L, o = .returned v ∧ Qown_law Z p1 p2 p3 h0 n0 v U'.heap L ∧ FrameEnd U o U' L room_1.cells room_1.slots) := by
  refine MetFree.of_bodySF (plainFor_of_name pn_com_example_rubrika_rubrika_CountAcceptsPinLaw) hisR ?_
  intro p e s m args below meth c s₁ Bd hml0 hP hK
  obtain ⟨rfl, hZ, hh⟩ := hP
  have hx := Bd.exec
  have hby := Bd.bytes
  have hml : c.maxLocals = 10 := hml0
  have hown : s.vm.findClass "com/example/rubrika/rubrika/CountAcceptsPinLaw" = some m.cls := findClass_of_methodNamed Bd.named
  have hnm := (name_of_methodNamed Bd.named Bd.method).1
  have X0 : Stand p l e room_1 s m #[(.int p1), (.int p2), (.int p3)] below meth c s₁ [] 0 0 := Stand.of_body Bd
  have e0 : s₁.heap = h0 := by rw [← hh, Bd.state]; rfl
  have N0 := Fr.nil n0
  have pre0 : ∀ t, Steps p.tables e below (s₁.setTop (mkF m 0 #[.val (.int p1), .val (.int p2), .val (.int p3), .unset, .unset, .unset, .unset, .unset, .unset, .unset] [])) t → Steps p.tables e below (s₁.setTop (entryFrame m #[(.int p1), (.int p2), (.int p3)] maxLocals)) t := fun t k => castTop (ef_own_law m (p1) (p2) (p3)) k
  have sg1 : ∀ target, Steps p.tables e below (s₁.setTop (mkF m 11 #[.val (.int p1), .val (.int p2), .val (.int p3), .unset, .unset, .unset, .unset, .unset, .unset, .unset] [(.int (own_om p3))])) target → Steps p.tables e below (s₁.setTop (mkF m 3 #[.val (.int p1), .val (.int p2), .val (.int p3), .unset, .unset, .unset, .unset, .unset, .unset, .unset] [(.int (p3 &&& (1 : Int32)))])) target := by
    intro target kt
    by_cases hk : (p3 &&& (1 : Int32)) = (0 : Int32)
    · rw [show own_om p3 = _ from if_pos hk] at kt
      show Steps p.tables e below (s₁.setTop (mkF m 3 #[.val (.int p1), .val (.int p2), .val (.int p3), .unset, .unset, .unset, .unset, .unset, .unset, .unset] [(.int (p3 &&& (1 : Int32)))])) _
      refine XS.ifYes X0.here hx rfl (pc0 := 3) (pc' := 10) rfl (hb hby at_3) rfl ((if0 _ _).trans (teq (hk : (p3 &&& (1 : Int32)) = (0 : Int32))).1) (by decide) (by decide) ?_
      show Steps p.tables e below (s₁.setTop (mkF m 10 #[.val (.int p1), .val (.int p2), .val (.int p3), .unset, .unset, .unset, .unset, .unset, .unset, .unset] [])) _
      refine XS.iconst X0.here hx rfl (hb hby at_10) ?_
      show Steps p.tables e below (s₁.setTop (mkF m 11 #[.val (.int p1), .val (.int p2), .val (.int p3), .unset, .unset, .unset, .unset, .unset, .unset, .unset] [(.int (0 : Int32))])) _
      exact kt
    · rw [show own_om p3 = _ from if_neg hk] at kt
      show Steps p.tables e below (s₁.setTop (mkF m 3 #[.val (.int p1), .val (.int p2), .val (.int p3), .unset, .unset, .unset, .unset, .unset, .unset, .unset] [(.int (p3 &&& (1 : Int32)))])) _
      refine XS.ifNo X0.here hx rfl (hb hby at_3) rfl ((if0 _ _).trans (feq (hk : ¬ ((p3 &&& (1 : Int32)) = (0 : Int32)))).1) ?_
      show Steps p.tables e below (s₁.setTop (mkF m 6 #[.val (.int p1), .val (.int p2), .val (.int p3), .unset, .unset, .unset, .unset, .unset, .unset, .unset] [])) _
      refine XS.iconst X0.here hx rfl (hb hby at_6) ?_
      show Steps p.tables e below (s₁.setTop (mkF m 7 #[.val (.int p1), .val (.int p2), .val (.int p3), .unset, .unset, .unset, .unset, .unset, .unset, .unset] [(.int (1 : Int32))])) _
      refine XS.goto X0.here hx rfl (pc0 := 7) (pc' := 11) rfl (hb hby at_7) (by decide) (by decide) ?_
      show Steps p.tables e below (s₁.setTop (mkF m 11 #[.val (.int p1), .val (.int p2), .val (.int p3), .unset, .unset, .unset, .unset, .unset, .unset, .unset] [(.int (1 : Int32))])) _
      exact kt
  have sg2 : ∀ target, Steps p.tables e below (s₁.setTop (mkF m 29 #[.val (.int p1), .val (.int p2), .val (.int p3), .val (.int (own_om p3)), .unset, .unset, .unset, .unset, .unset, .unset] [(.int (own_pr p1 p2 p3))])) target → Steps p.tables e below (s₁.setTop (mkF m 15 #[.val (.int p1), .val (.int p2), .val (.int p3), .val (.int (own_om p3)), .unset, .unset, .unset, .unset, .unset, .unset] [(.int (p3 &&& (2 : Int32)))])) target := by
    intro target kt
    by_cases hk : (p3 &&& (2 : Int32)) = (0 : Int32)
    · rw [show own_pr p1 p2 p3 = _ from if_pos hk] at kt
      show Steps p.tables e below (s₁.setTop (mkF m 15 #[.val (.int p1), .val (.int p2), .val (.int p3), .val (.int (own_om p3)), .unset, .unset, .unset, .unset, .unset, .unset] [(.int (p3 &&& (2 : Int32)))])) _
      refine XS.ifYes X0.here hx rfl (pc0 := 15) (pc' := 28) rfl (hb hby at_15) rfl ((if0 _ _).trans (teq (hk : (p3 &&& (2 : Int32)) = (0 : Int32))).1) (by decide) (by decide) ?_
      show Steps p.tables e below (s₁.setTop (mkF m 28 #[.val (.int p1), .val (.int p2), .val (.int p3), .val (.int (own_om p3)), .unset, .unset, .unset, .unset, .unset, .unset] [])) _
      refine XS.iloadN X0.here hx rfl (hb hby at_28) rfl ?_
      show Steps p.tables e below (s₁.setTop (mkF m 29 #[.val (.int p1), .val (.int p2), .val (.int p3), .val (.int (own_om p3)), .unset, .unset, .unset, .unset, .unset, .unset] [(.int p2)])) _
      exact kt
    · rw [show own_pr p1 p2 p3 = _ from if_neg hk] at kt
      show Steps p.tables e below (s₁.setTop (mkF m 15 #[.val (.int p1), .val (.int p2), .val (.int p3), .val (.int (own_om p3)), .unset, .unset, .unset, .unset, .unset, .unset] [(.int (p3 &&& (2 : Int32)))])) _
      refine XS.ifNo X0.here hx rfl (hb hby at_15) rfl ((if0 _ _).trans (feq (hk : ¬ ((p3 &&& (2 : Int32)) = (0 : Int32)))).1) ?_
      show Steps p.tables e below (s₁.setTop (mkF m 18 #[.val (.int p1), .val (.int p2), .val (.int p3), .val (.int (own_om p3)), .unset, .unset, .unset, .unset, .unset, .unset] [])) _
      refine XS.iloadN X0.here hx rfl (hb hby at_18) rfl ?_
      show Steps p.tables e below (s₁.setTop (mkF m 19 #[.val (.int p1), .val (.int p2), .val (.int p3), .val (.int (own_om p3)), .unset, .unset, .unset, .unset, .unset, .unset] [(.int p1)])) _
      refine XS.iloadN X0.here hx rfl (hb hby at_19) rfl ?_
      show Steps p.tables e below (s₁.setTop (mkF m 20 #[.val (.int p1), .val (.int p2), .val (.int p3), .val (.int (own_om p3)), .unset, .unset, .unset, .unset, .unset, .unset] [(.int p3), (.int p1)])) _
      refine XS.iconst X0.here hx rfl (hb hby at_20) ?_
      show Steps p.tables e below (s₁.setTop (mkF m 21 #[.val (.int p1), .val (.int p2), .val (.int p3), .val (.int (own_om p3)), .unset, .unset, .unset, .unset, .unset, .unset] [(.int (2 : Int32)), (.int p3), (.int p1)])) _
      refine XS.ishr X0.here hx rfl (hb hby at_21) rfl ?_
      show Steps p.tables e below (s₁.setTop (mkF m 22 #[.val (.int p1), .val (.int p2), .val (.int p3), .val (.int (own_om p3)), .unset, .unset, .unset, .unset, .unset, .unset] [(.int (p3 >>> ((2 : Int32) &&& 31))), (.int p1)])) _
      refine XS.iconst X0.here hx rfl (hb hby at_22) ?_
      show Steps p.tables e below (s₁.setTop (mkF m 23 #[.val (.int p1), .val (.int p2), .val (.int p3), .val (.int (own_om p3)), .unset, .unset, .unset, .unset, .unset, .unset] [(.int (3 : Int32)), (.int (p3 >>> ((2 : Int32) &&& 31))), (.int p1)])) _
      refine iremM X0 hx rfl (hb hby at_23) rfl (by decide) ?_
      show Steps p.tables e below (s₁.setTop (mkF m 24 #[.val (.int p1), .val (.int p2), .val (.int p3), .val (.int (own_om p3)), .unset, .unset, .unset, .unset, .unset, .unset] [(.int ((p3 >>> ((2 : Int32) &&& 31)) % (3 : Int32))), (.int p1)])) _
      refine XS.iadd X0.here hx rfl (hb hby at_24) rfl ?_
      show Steps p.tables e below (s₁.setTop (mkF m 25 #[.val (.int p1), .val (.int p2), .val (.int p3), .val (.int (own_om p3)), .unset, .unset, .unset, .unset, .unset, .unset] [(.int (p1 + ((p3 >>> ((2 : Int32) &&& 31)) % (3 : Int32))))])) _
      refine XS.goto X0.here hx rfl (pc0 := 25) (pc' := 29) rfl (hb hby at_25) (by decide) (by decide) ?_
      show Steps p.tables e below (s₁.setTop (mkF m 29 #[.val (.int p1), .val (.int p2), .val (.int p3), .val (.int (own_om p3)), .unset, .unset, .unset, .unset, .unset, .unset] [(.int (p1 + ((p3 >>> ((2 : Int32) &&& 31)) % (3 : Int32))))])) _
      exact kt
  obtain ⟨T1, h1, X1, e1, E1, A1, D1, -, st1⟩ := newO X0 hx hZ hown (hw _ (List.mem_of_getElem? (i := 0) rfl)) (hw _ (List.mem_of_getElem? (i := 1) rfl)) (hw _ (List.mem_of_getElem? (i := 2) rfl)) e0 (g := (mkF m 31 #[.val (.int p1), .val (.int p2), .val (.int p3), .val (.int (own_om p3)), .val (.int (own_pr p1 p2 p3)), .unset, .unset, .unset, .unset, .unset] [])) rfl (hb hby at_31) (by decide) (by decide)
  obtain ⟨b1, g1⟩ : ∃ z, z = h0.size := ⟨_, rfl⟩
  rw [← g1] at A1 D1 st1
  have g_b1 : n0 ≤ b1 := Nat.le_trans Z0 (Nat.le_of_eq g1.symm)
  have sz_b1 : h0.size ≤ b1 := Nat.le_trans (Keep.refl h0 []).1 (Nat.le_of_eq g1.symm)
  have Z1 : n0 ≤ h1.size := Nat.le_trans Z0 E1.1
  have K1 : Keep h0 h1 [] := (Keep.refl h0 []).ext E1
  have F_least_b1 : Fld Z h1 b1 "com/example/rubrika/rubrika/ProfileTable$Count" "least" "I" (.int (0 : Int32)) := D1 (Or.inr (hw _ (List.mem_of_getElem? (i := 15) rfl))) (ty := .int) (by decide)
  have F_orMore_b1 : Fld Z h1 b1 "com/example/rubrika/rubrika/ProfileTable$Count" "orMore" "Z" (.int (0 : Int32)) := D1 (Or.inr (hw _ (List.mem_of_getElem? (i := 17) rfl))) (ty := .boolean) (by decide)
  obtain ⟨_, _, ⟨T2, L2, k2, n2⟩, -, X2, ⟨Lc2, hQ2, l2, y2, z2⟩, st2⟩ := X1.specialBack hx (y := (⟨"com/example/rubrika/rubrika/ProfileTable$Count", "<init>", "(IZ)V"⟩ : MethodName)) rfl hown (mvT hZ (hw _ (List.mem_of_getElem? (i := 3) rfl))) (mvT hZ (hw _ (List.mem_of_getElem? (i := 4) rfl))) (mvT hZ (hw _ (List.mem_of_getElem? (i := 5) rfl))) (by decide) (backOf (W := 1) (own_init l Z a0 hw [] b1 p1 (own_om p3)  h1 n0 Z1 F_least_b1 F_orMore_b1 A1 g_b1 (own_om01 p3)) hZ (hw _ (List.mem_of_getElem? (i := 5) rfl)) (hw _ (List.mem_of_getElem? (i := 2) rfl)) (by decide) (by decide)) (g := (mkF m 37 #[.val (.int p1), .val (.int p2), .val (.int p3), .val (.int (own_om p3)), .val (.int (own_pr p1 p2 p3)), .unset, .unset, .unset, .unset, .unset] [(.int (own_om p3)), (.int p1), (.ref b1), (.ref b1)])) rfl (by rw [hml]; rfl) (Steps.refl _) (a := b1) (argsL := [(.int p1), (.int (own_om p3))]) (rest := [(.ref b1)]) (lenOf pd__IZ_V rfl) rfl (by show 2 * 0 + _ ≤ _; exact Nat.le_of_eq rfl) (hb hby at_37) (fun _ _ => ⟨rfl, e1, (by decide : 1 + 0 ≤ _), (by decide : 2 + 0 ≤ _)⟩)
  dsimp only [Pt.U, Pt.locs, Pt.cells, Pt.slots] at X2 l2 y2 z2 st2 hQ2
  subst l2 y2 z2
  obtain ⟨rfl, Nq2, Kq2, Fl1, Fo1⟩ := hQ2
  have Z2 : n0 ≤ T2.heap.size := Nat.le_trans Z1 Kq2.1
  have K2 : Keep h0 T2.heap [] := K1.trans Kq2 (allS (Or.inr sz_b1) all0)
  have N2 := Fr.app N0 Nq2
  have fc4 := (A1.keep Kq2)
  obtain ⟨cq3, kq3, q3a, q3b, q3c⟩ := isOf hZ rfl fc4
  obtain ⟨_, _, ⟨T3, L3, k3, n3⟩, -, X3, ⟨Lc3, hQ3, l3, y3, z3⟩, st3⟩ := X2.virtualBack hx (y := (⟨"com/example/rubrika/rubrika/ProfileTable$Count", "accepts", "(I)Z"⟩ : MethodName)) (z := (⟨"com/example/rubrika/rubrika/ProfileTable$Count", "accepts", "(I)Z"⟩ : MethodName)) hown (mvT hZ (hw _ (List.mem_of_getElem? (i := 18) rfl))) (mvT hZ (hw _ (List.mem_of_getElem? (i := 19) rfl))) (notFace_of_selects (args := #[]) (mvT hZ (hw _ (List.mem_of_getElem? (i := 21) rfl)))) (mvT hZ (hw _ (List.mem_of_getElem? (i := 21) rfl))) (mvT hZ (hw _ (List.mem_of_getElem? (i := 20) rfl))) (by decide) (backOf (W := 0) (own_accepts l Z a0 hw [] b1 (own_pr p1 p2 p3) (own_om p3) p1 T2.heap n0 Z2 Fl1 Fo1) hZ (hw _ (List.mem_of_getElem? (i := 22) rfl)) (hw _ (List.mem_of_getElem? (i := 2) rfl)) (by decide) (by decide)) q3a q3c (g := (mkF m 46 #[.val (.int p1), .val (.int p2), .val (.int p3), .val (.int (own_om p3)), .val (.int (own_pr p1 p2 p3)), .val (.ref b1), .unset, .unset, .unset, .unset] [(.int (own_pr p1 p2 p3)), (.ref b1)])) rfl (by rw [hml]; rfl) (Steps.refl _) (argsL := [(.int (own_pr p1 p2 p3))]) (rest := []) (lenOf pd__I_Z rfl) rfl (by show 2 * 0 + _ ≤ _; exact Nat.le_of_eq rfl) (hb hby at_46) (fun _ _ => ⟨rfl, rfl, (by decide : 1 + 0 ≤ _), (by decide : 2 + 0 ≤ _)⟩)
  dsimp only [Pt.U, Pt.locs, Pt.cells, Pt.slots] at X3 l3 y3 z3 st3 hQ3
  subst l3 y3 z3
  obtain ⟨rfl, Nq3, e3⟩ := hQ3
  have N3 := Fr.app N2 Nq3
  have sg3 : ∀ target, Steps p.tables e below (T3.setTop (mkF m 90 #[.val (.int p1), .val (.int p2), .val (.int p3), .val (.int (own_om p3)), .val (.int (own_pr p1 p2 p3)), .val (.ref b1), .val (.int (own_acc (own_om p3) p1 (own_pr p1 p2 p3))), .val (.long (((own_pr p1 p2 p3).toInt64) - (p1.toInt64))), .second, .unset] [(.int (own_exp (own_om p3) p1 (own_pr p1 p2 p3)))])) target → Steps p.tables e below (T3.setTop (mkF m 60 #[.val (.int p1), .val (.int p2), .val (.int p3), .val (.int (own_om p3)), .val (.int (own_pr p1 p2 p3)), .val (.ref b1), .val (.int (own_acc (own_om p3) p1 (own_pr p1 p2 p3))), .val (.long (((own_pr p1 p2 p3).toInt64) - (p1.toInt64))), .second, .unset] [(.int (own_om p3))])) target := by
    intro target kt
    rcases own_four (own_om p3) p1 (own_pr p1 p2 p3) with ⟨hk, hq, hr⟩ | ⟨hk, hq, hr⟩ | ⟨hk, hq, hr⟩ | ⟨hk, hq, hr⟩
    · rw [hr] at kt
      show Steps p.tables e below (T3.setTop (mkF m 60 #[.val (.int p1), .val (.int p2), .val (.int p3), .val (.int (own_om p3)), .val (.int (own_pr p1 p2 p3)), .val (.ref b1), .val (.int (own_acc (own_om p3) p1 (own_pr p1 p2 p3))), .val (.long (((own_pr p1 p2 p3).toInt64) - (p1.toInt64))), .second, .unset] [(.int (own_om p3))])) _
      refine XS.ifYes X3.here hx rfl (pc0 := 60) (pc' := 78) rfl (hb hby at_60) rfl ((if0 _ _).trans (teq (hk : (own_om p3) = (0 : Int32))).1) (by decide) (by decide) ?_
      show Steps p.tables e below (T3.setTop (mkF m 78 #[.val (.int p1), .val (.int p2), .val (.int p3), .val (.int (own_om p3)), .val (.int (own_pr p1 p2 p3)), .val (.ref b1), .val (.int (own_acc (own_om p3) p1 (own_pr p1 p2 p3))), .val (.long (((own_pr p1 p2 p3).toInt64) - (p1.toInt64))), .second, .unset] [])) _
      refine XS.lload X3.here hx rfl (hb hby at_78) rfl ?_
      show Steps p.tables e below (T3.setTop (mkF m 80 #[.val (.int p1), .val (.int p2), .val (.int p3), .val (.int (own_om p3)), .val (.int (own_pr p1 p2 p3)), .val (.ref b1), .val (.int (own_acc (own_om p3) p1 (own_pr p1 p2 p3))), .val (.long (((own_pr p1 p2 p3).toInt64) - (p1.toInt64))), .second, .unset] [(.long (((own_pr p1 p2 p3).toInt64) - (p1.toInt64)))])) _
      refine XS.lconst X3.here hx rfl (hb hby at_80) ?_
      show Steps p.tables e below (T3.setTop (mkF m 81 #[.val (.int p1), .val (.int p2), .val (.int p3), .val (.int (own_om p3)), .val (.int (own_pr p1 p2 p3)), .val (.ref b1), .val (.int (own_acc (own_om p3) p1 (own_pr p1 p2 p3))), .val (.long (((own_pr p1 p2 p3).toInt64) - (p1.toInt64))), .second, .unset] [(.long (0 : Int64)), (.long (((own_pr p1 p2 p3).toInt64) - (p1.toInt64)))])) _
      refine XS.lcmp X3.here hx rfl (hb hby at_81) rfl ?_
      show Steps p.tables e below (T3.setTop (mkF m 82 #[.val (.int p1), .val (.int p2), .val (.int p3), .val (.int (own_om p3)), .val (.int (own_pr p1 p2 p3)), .val (.ref b1), .val (.int (own_acc (own_om p3) p1 (own_pr p1 p2 p3))), .val (.long (((own_pr p1 p2 p3).toInt64) - (p1.toInt64))), .second, .unset] [(.int (lcmpW (((own_pr p1 p2 p3).toInt64) - (p1.toInt64)) (0 : Int64)))])) _
      refine XS.ifNo X3.here hx rfl (hb hby at_82) rfl ((if0 _ _).trans (teq ((lw_eq _ _).mpr ((own_eq _ _).mpr hq) : (lcmpW (((own_pr p1 p2 p3).toInt64) - (p1.toInt64)) (0 : Int64)) = (0 : Int32))).2) ?_
      show Steps p.tables e below (T3.setTop (mkF m 85 #[.val (.int p1), .val (.int p2), .val (.int p3), .val (.int (own_om p3)), .val (.int (own_pr p1 p2 p3)), .val (.ref b1), .val (.int (own_acc (own_om p3) p1 (own_pr p1 p2 p3))), .val (.long (((own_pr p1 p2 p3).toInt64) - (p1.toInt64))), .second, .unset] [])) _
      refine XS.iconst X3.here hx rfl (hb hby at_85) ?_
      show Steps p.tables e below (T3.setTop (mkF m 86 #[.val (.int p1), .val (.int p2), .val (.int p3), .val (.int (own_om p3)), .val (.int (own_pr p1 p2 p3)), .val (.ref b1), .val (.int (own_acc (own_om p3) p1 (own_pr p1 p2 p3))), .val (.long (((own_pr p1 p2 p3).toInt64) - (p1.toInt64))), .second, .unset] [(.int (1 : Int32))])) _
      refine XS.goto X3.here hx rfl (pc0 := 86) (pc' := 90) rfl (hb hby at_86) (by decide) (by decide) ?_
      show Steps p.tables e below (T3.setTop (mkF m 90 #[.val (.int p1), .val (.int p2), .val (.int p3), .val (.int (own_om p3)), .val (.int (own_pr p1 p2 p3)), .val (.ref b1), .val (.int (own_acc (own_om p3) p1 (own_pr p1 p2 p3))), .val (.long (((own_pr p1 p2 p3).toInt64) - (p1.toInt64))), .second, .unset] [(.int (1 : Int32))])) _
      exact kt
    · rw [hr] at kt
      show Steps p.tables e below (T3.setTop (mkF m 60 #[.val (.int p1), .val (.int p2), .val (.int p3), .val (.int (own_om p3)), .val (.int (own_pr p1 p2 p3)), .val (.ref b1), .val (.int (own_acc (own_om p3) p1 (own_pr p1 p2 p3))), .val (.long (((own_pr p1 p2 p3).toInt64) - (p1.toInt64))), .second, .unset] [(.int (own_om p3))])) _
      refine XS.ifYes X3.here hx rfl (pc0 := 60) (pc' := 78) rfl (hb hby at_60) rfl ((if0 _ _).trans (teq (hk : (own_om p3) = (0 : Int32))).1) (by decide) (by decide) ?_
      show Steps p.tables e below (T3.setTop (mkF m 78 #[.val (.int p1), .val (.int p2), .val (.int p3), .val (.int (own_om p3)), .val (.int (own_pr p1 p2 p3)), .val (.ref b1), .val (.int (own_acc (own_om p3) p1 (own_pr p1 p2 p3))), .val (.long (((own_pr p1 p2 p3).toInt64) - (p1.toInt64))), .second, .unset] [])) _
      refine XS.lload X3.here hx rfl (hb hby at_78) rfl ?_
      show Steps p.tables e below (T3.setTop (mkF m 80 #[.val (.int p1), .val (.int p2), .val (.int p3), .val (.int (own_om p3)), .val (.int (own_pr p1 p2 p3)), .val (.ref b1), .val (.int (own_acc (own_om p3) p1 (own_pr p1 p2 p3))), .val (.long (((own_pr p1 p2 p3).toInt64) - (p1.toInt64))), .second, .unset] [(.long (((own_pr p1 p2 p3).toInt64) - (p1.toInt64)))])) _
      refine XS.lconst X3.here hx rfl (hb hby at_80) ?_
      show Steps p.tables e below (T3.setTop (mkF m 81 #[.val (.int p1), .val (.int p2), .val (.int p3), .val (.int (own_om p3)), .val (.int (own_pr p1 p2 p3)), .val (.ref b1), .val (.int (own_acc (own_om p3) p1 (own_pr p1 p2 p3))), .val (.long (((own_pr p1 p2 p3).toInt64) - (p1.toInt64))), .second, .unset] [(.long (0 : Int64)), (.long (((own_pr p1 p2 p3).toInt64) - (p1.toInt64)))])) _
      refine XS.lcmp X3.here hx rfl (hb hby at_81) rfl ?_
      show Steps p.tables e below (T3.setTop (mkF m 82 #[.val (.int p1), .val (.int p2), .val (.int p3), .val (.int (own_om p3)), .val (.int (own_pr p1 p2 p3)), .val (.ref b1), .val (.int (own_acc (own_om p3) p1 (own_pr p1 p2 p3))), .val (.long (((own_pr p1 p2 p3).toInt64) - (p1.toInt64))), .second, .unset] [(.int (lcmpW (((own_pr p1 p2 p3).toInt64) - (p1.toInt64)) (0 : Int64)))])) _
      refine XS.ifYes X3.here hx rfl (pc0 := 82) (pc' := 89) rfl (hb hby at_82) rfl ((if0 _ _).trans (feq (fun q => (fun z => hq ((own_eq _ _).mp z)) ((lw_eq _ _).mp q) : ¬ ((lcmpW (((own_pr p1 p2 p3).toInt64) - (p1.toInt64)) (0 : Int64)) = (0 : Int32)))).2) (by decide) (by decide) ?_
      show Steps p.tables e below (T3.setTop (mkF m 89 #[.val (.int p1), .val (.int p2), .val (.int p3), .val (.int (own_om p3)), .val (.int (own_pr p1 p2 p3)), .val (.ref b1), .val (.int (own_acc (own_om p3) p1 (own_pr p1 p2 p3))), .val (.long (((own_pr p1 p2 p3).toInt64) - (p1.toInt64))), .second, .unset] [])) _
      refine XS.iconst X3.here hx rfl (hb hby at_89) ?_
      show Steps p.tables e below (T3.setTop (mkF m 90 #[.val (.int p1), .val (.int p2), .val (.int p3), .val (.int (own_om p3)), .val (.int (own_pr p1 p2 p3)), .val (.ref b1), .val (.int (own_acc (own_om p3) p1 (own_pr p1 p2 p3))), .val (.long (((own_pr p1 p2 p3).toInt64) - (p1.toInt64))), .second, .unset] [(.int (0 : Int32))])) _
      exact kt
    · rw [hr] at kt
      show Steps p.tables e below (T3.setTop (mkF m 60 #[.val (.int p1), .val (.int p2), .val (.int p3), .val (.int (own_om p3)), .val (.int (own_pr p1 p2 p3)), .val (.ref b1), .val (.int (own_acc (own_om p3) p1 (own_pr p1 p2 p3))), .val (.long (((own_pr p1 p2 p3).toInt64) - (p1.toInt64))), .second, .unset] [(.int (own_om p3))])) _
      refine XS.ifNo X3.here hx rfl (hb hby at_60) rfl ((if0 _ _).trans (feq (hk : ¬ ((own_om p3) = (0 : Int32)))).1) ?_
      show Steps p.tables e below (T3.setTop (mkF m 63 #[.val (.int p1), .val (.int p2), .val (.int p3), .val (.int (own_om p3)), .val (.int (own_pr p1 p2 p3)), .val (.ref b1), .val (.int (own_acc (own_om p3) p1 (own_pr p1 p2 p3))), .val (.long (((own_pr p1 p2 p3).toInt64) - (p1.toInt64))), .second, .unset] [])) _
      refine XS.lload X3.here hx rfl (hb hby at_63) rfl ?_
      show Steps p.tables e below (T3.setTop (mkF m 65 #[.val (.int p1), .val (.int p2), .val (.int p3), .val (.int (own_om p3)), .val (.int (own_pr p1 p2 p3)), .val (.ref b1), .val (.int (own_acc (own_om p3) p1 (own_pr p1 p2 p3))), .val (.long (((own_pr p1 p2 p3).toInt64) - (p1.toInt64))), .second, .unset] [(.long (((own_pr p1 p2 p3).toInt64) - (p1.toInt64)))])) _
      refine XS.lconst X3.here hx rfl (hb hby at_65) ?_
      show Steps p.tables e below (T3.setTop (mkF m 66 #[.val (.int p1), .val (.int p2), .val (.int p3), .val (.int (own_om p3)), .val (.int (own_pr p1 p2 p3)), .val (.ref b1), .val (.int (own_acc (own_om p3) p1 (own_pr p1 p2 p3))), .val (.long (((own_pr p1 p2 p3).toInt64) - (p1.toInt64))), .second, .unset] [(.long (0 : Int64)), (.long (((own_pr p1 p2 p3).toInt64) - (p1.toInt64)))])) _
      refine XS.lcmp X3.here hx rfl (hb hby at_66) rfl ?_
      show Steps p.tables e below (T3.setTop (mkF m 67 #[.val (.int p1), .val (.int p2), .val (.int p3), .val (.int (own_om p3)), .val (.int (own_pr p1 p2 p3)), .val (.ref b1), .val (.int (own_acc (own_om p3) p1 (own_pr p1 p2 p3))), .val (.long (((own_pr p1 p2 p3).toInt64) - (p1.toInt64))), .second, .unset] [(.int (lcmpW (((own_pr p1 p2 p3).toInt64) - (p1.toInt64)) (0 : Int64)))])) _
      refine XS.ifYes X3.here hx rfl (pc0 := 67) (pc' := 74) rfl (hb hby at_67) rfl ((if0 _ _).trans (tlt ((lw_lt _ _).mpr ((own_lt _ _).mpr hq) : (lcmpW (((own_pr p1 p2 p3).toInt64) - (p1.toInt64)) (0 : Int64)) < (0 : Int32))).1) (by decide) (by decide) ?_
      show Steps p.tables e below (T3.setTop (mkF m 74 #[.val (.int p1), .val (.int p2), .val (.int p3), .val (.int (own_om p3)), .val (.int (own_pr p1 p2 p3)), .val (.ref b1), .val (.int (own_acc (own_om p3) p1 (own_pr p1 p2 p3))), .val (.long (((own_pr p1 p2 p3).toInt64) - (p1.toInt64))), .second, .unset] [])) _
      refine XS.iconst X3.here hx rfl (hb hby at_74) ?_
      show Steps p.tables e below (T3.setTop (mkF m 75 #[.val (.int p1), .val (.int p2), .val (.int p3), .val (.int (own_om p3)), .val (.int (own_pr p1 p2 p3)), .val (.ref b1), .val (.int (own_acc (own_om p3) p1 (own_pr p1 p2 p3))), .val (.long (((own_pr p1 p2 p3).toInt64) - (p1.toInt64))), .second, .unset] [(.int (0 : Int32))])) _
      refine XS.goto X3.here hx rfl (pc0 := 75) (pc' := 90) rfl (hb hby at_75) (by decide) (by decide) ?_
      show Steps p.tables e below (T3.setTop (mkF m 90 #[.val (.int p1), .val (.int p2), .val (.int p3), .val (.int (own_om p3)), .val (.int (own_pr p1 p2 p3)), .val (.ref b1), .val (.int (own_acc (own_om p3) p1 (own_pr p1 p2 p3))), .val (.long (((own_pr p1 p2 p3).toInt64) - (p1.toInt64))), .second, .unset] [(.int (0 : Int32))])) _
      exact kt
    · rw [hr] at kt
      show Steps p.tables e below (T3.setTop (mkF m 60 #[.val (.int p1), .val (.int p2), .val (.int p3), .val (.int (own_om p3)), .val (.int (own_pr p1 p2 p3)), .val (.ref b1), .val (.int (own_acc (own_om p3) p1 (own_pr p1 p2 p3))), .val (.long (((own_pr p1 p2 p3).toInt64) - (p1.toInt64))), .second, .unset] [(.int (own_om p3))])) _
      refine XS.ifNo X3.here hx rfl (hb hby at_60) rfl ((if0 _ _).trans (feq (hk : ¬ ((own_om p3) = (0 : Int32)))).1) ?_
      show Steps p.tables e below (T3.setTop (mkF m 63 #[.val (.int p1), .val (.int p2), .val (.int p3), .val (.int (own_om p3)), .val (.int (own_pr p1 p2 p3)), .val (.ref b1), .val (.int (own_acc (own_om p3) p1 (own_pr p1 p2 p3))), .val (.long (((own_pr p1 p2 p3).toInt64) - (p1.toInt64))), .second, .unset] [])) _
      refine XS.lload X3.here hx rfl (hb hby at_63) rfl ?_
      show Steps p.tables e below (T3.setTop (mkF m 65 #[.val (.int p1), .val (.int p2), .val (.int p3), .val (.int (own_om p3)), .val (.int (own_pr p1 p2 p3)), .val (.ref b1), .val (.int (own_acc (own_om p3) p1 (own_pr p1 p2 p3))), .val (.long (((own_pr p1 p2 p3).toInt64) - (p1.toInt64))), .second, .unset] [(.long (((own_pr p1 p2 p3).toInt64) - (p1.toInt64)))])) _
      refine XS.lconst X3.here hx rfl (hb hby at_65) ?_
      show Steps p.tables e below (T3.setTop (mkF m 66 #[.val (.int p1), .val (.int p2), .val (.int p3), .val (.int (own_om p3)), .val (.int (own_pr p1 p2 p3)), .val (.ref b1), .val (.int (own_acc (own_om p3) p1 (own_pr p1 p2 p3))), .val (.long (((own_pr p1 p2 p3).toInt64) - (p1.toInt64))), .second, .unset] [(.long (0 : Int64)), (.long (((own_pr p1 p2 p3).toInt64) - (p1.toInt64)))])) _
      refine XS.lcmp X3.here hx rfl (hb hby at_66) rfl ?_
      show Steps p.tables e below (T3.setTop (mkF m 67 #[.val (.int p1), .val (.int p2), .val (.int p3), .val (.int (own_om p3)), .val (.int (own_pr p1 p2 p3)), .val (.ref b1), .val (.int (own_acc (own_om p3) p1 (own_pr p1 p2 p3))), .val (.long (((own_pr p1 p2 p3).toInt64) - (p1.toInt64))), .second, .unset] [(.int (lcmpW (((own_pr p1 p2 p3).toInt64) - (p1.toInt64)) (0 : Int64)))])) _
      refine XS.ifNo X3.here hx rfl (hb hby at_67) rfl ((if0 _ _).trans (flt (fun q => (fun z => hq ((own_lt _ _).mp z)) ((lw_lt _ _).mp q) : ¬ ((lcmpW (((own_pr p1 p2 p3).toInt64) - (p1.toInt64)) (0 : Int64)) < (0 : Int32)))).1) ?_
      show Steps p.tables e below (T3.setTop (mkF m 70 #[.val (.int p1), .val (.int p2), .val (.int p3), .val (.int (own_om p3)), .val (.int (own_pr p1 p2 p3)), .val (.ref b1), .val (.int (own_acc (own_om p3) p1 (own_pr p1 p2 p3))), .val (.long (((own_pr p1 p2 p3).toInt64) - (p1.toInt64))), .second, .unset] [])) _
      refine XS.iconst X3.here hx rfl (hb hby at_70) ?_
      show Steps p.tables e below (T3.setTop (mkF m 71 #[.val (.int p1), .val (.int p2), .val (.int p3), .val (.int (own_om p3)), .val (.int (own_pr p1 p2 p3)), .val (.ref b1), .val (.int (own_acc (own_om p3) p1 (own_pr p1 p2 p3))), .val (.long (((own_pr p1 p2 p3).toInt64) - (p1.toInt64))), .second, .unset] [(.int (1 : Int32))])) _
      refine XS.goto X3.here hx rfl (pc0 := 71) (pc' := 90) rfl (hb hby at_71) (by decide) (by decide) ?_
      show Steps p.tables e below (T3.setTop (mkF m 90 #[.val (.int p1), .val (.int p2), .val (.int p3), .val (.int (own_om p3)), .val (.int (own_pr p1 p2 p3)), .val (.ref b1), .val (.int (own_acc (own_om p3) p1 (own_pr p1 p2 p3))), .val (.long (((own_pr p1 p2 p3).toInt64) - (p1.toInt64))), .second, .unset] [(.int (1 : Int32))])) _
      exact kt
  obtain ⟨cq5, kq5, q5a, q5b, q5c⟩ := isOf hZ e3 fc4
  obtain ⟨_, _, ⟨T5, L5, k5, n5⟩, -, X5, ⟨Lc5, hQ5, l5, y5, z5⟩, st5⟩ := X3.virtualBack hx (y := (⟨"com/example/rubrika/rubrika/ProfileTable$Count", "accepts", "(I)Z"⟩ : MethodName)) (z := (⟨"com/example/rubrika/rubrika/ProfileTable$Count", "accepts", "(I)Z"⟩ : MethodName)) hown (mvT hZ (hw _ (List.mem_of_getElem? (i := 18) rfl))) (mvT hZ (hw _ (List.mem_of_getElem? (i := 19) rfl))) (notFace_of_selects (args := #[]) (mvT hZ (hw _ (List.mem_of_getElem? (i := 21) rfl)))) (mvT hZ (hw _ (List.mem_of_getElem? (i := 21) rfl))) (mvT hZ (hw _ (List.mem_of_getElem? (i := 20) rfl))) (by decide) (backOf (W := 0) (own_accepts l Z a0 hw [] b1 p1 (own_om p3) p1 T2.heap n0 Z2 Fl1 Fo1) hZ (hw _ (List.mem_of_getElem? (i := 22) rfl)) (hw _ (List.mem_of_getElem? (i := 2) rfl)) (by decide) (by decide)) q5a q5c (g := (mkF m 102 #[.val (.int p1), .val (.int p2), .val (.int p3), .val (.int (own_om p3)), .val (.int (own_pr p1 p2 p3)), .val (.ref b1), .val (.int (own_acc (own_om p3) p1 (own_pr p1 p2 p3))), .val (.long (((own_pr p1 p2 p3).toInt64) - (p1.toInt64))), .second, .val (.int (own_exp (own_om p3) p1 (own_pr p1 p2 p3)))] [(.int p1), (.ref b1)])) rfl (by rw [hml]; rfl) (Steps.refl _) (argsL := [(.int p1)]) (rest := []) (lenOf pd__I_Z rfl) rfl (by show 2 * 0 + _ ≤ _; exact Nat.le_of_eq rfl) (hb hby at_102) (fun _ _ => ⟨rfl, e3, (by decide : 1 + 0 ≤ _), (by decide : 2 + 0 ≤ _)⟩)
  dsimp only [Pt.U, Pt.locs, Pt.cells, Pt.slots] at X5 l5 y5 z5 st5 hQ5
  subst l5 y5 z5
  obtain ⟨rfl, Nq5, e5⟩ := hQ5
  have N5 := Fr.app N3 Nq5
  obtain ⟨fs, hr, hrun, hended, hW, hsame⟩ := X5.leave (v := some (.int (1 : Int32))) (fun h => by rw [Bd.returns] at h; cases h)
  refine ⟨_, _, pre0 _ ?_, hrun, hended, _, _, rfl, ?_, ⟨_, rfl⟩, hW, hsame.mono (by decide) (by decide)⟩
  · show Steps p.tables e below (s₁.setTop (mkF m 0 #[.val (.int p1), .val (.int p2), .val (.int p3), .unset, .unset, .unset, .unset, .unset, .unset, .unset] [])) _
    refine XS.iloadN X0.here hx rfl (hb hby at_0) rfl ?_
    show Steps p.tables e below (s₁.setTop (mkF m 1 #[.val (.int p1), .val (.int p2), .val (.int p3), .unset, .unset, .unset, .unset, .unset, .unset, .unset] [(.int p3)])) _
    refine XS.iconst X0.here hx rfl (hb hby at_1) ?_
    show Steps p.tables e below (s₁.setTop (mkF m 2 #[.val (.int p1), .val (.int p2), .val (.int p3), .unset, .unset, .unset, .unset, .unset, .unset, .unset] [(.int (1 : Int32)), (.int p3)])) _
    refine XS.iand X0.here hx rfl (hb hby at_2) rfl ?_
    show Steps p.tables e below (s₁.setTop (mkF m 3 #[.val (.int p1), .val (.int p2), .val (.int p3), .unset, .unset, .unset, .unset, .unset, .unset, .unset] [(.int (p3 &&& (1 : Int32)))])) _
    refine sg1 _ ?_
    show Steps p.tables e below (s₁.setTop (mkF m 11 #[.val (.int p1), .val (.int p2), .val (.int p3), .unset, .unset, .unset, .unset, .unset, .unset, .unset] [(.int (own_om p3))])) _
    refine XS.istoreN X0.here hx rfl (hb hby at_11) rfl (l' := #[.val (.int p1), .val (.int p2), .val (.int p3), .val (.int (own_om p3)), .unset, .unset, .unset, .unset, .unset, .unset]) rfl ?_
    show Steps p.tables e below (s₁.setTop (mkF m 12 #[.val (.int p1), .val (.int p2), .val (.int p3), .val (.int (own_om p3)), .unset, .unset, .unset, .unset, .unset, .unset] [])) _
    refine XS.iloadN X0.here hx rfl (hb hby at_12) rfl ?_
    show Steps p.tables e below (s₁.setTop (mkF m 13 #[.val (.int p1), .val (.int p2), .val (.int p3), .val (.int (own_om p3)), .unset, .unset, .unset, .unset, .unset, .unset] [(.int p3)])) _
    refine XS.iconst X0.here hx rfl (hb hby at_13) ?_
    show Steps p.tables e below (s₁.setTop (mkF m 14 #[.val (.int p1), .val (.int p2), .val (.int p3), .val (.int (own_om p3)), .unset, .unset, .unset, .unset, .unset, .unset] [(.int (2 : Int32)), (.int p3)])) _
    refine XS.iand X0.here hx rfl (hb hby at_14) rfl ?_
    show Steps p.tables e below (s₁.setTop (mkF m 15 #[.val (.int p1), .val (.int p2), .val (.int p3), .val (.int (own_om p3)), .unset, .unset, .unset, .unset, .unset, .unset] [(.int (p3 &&& (2 : Int32)))])) _
    refine sg2 _ ?_
    show Steps p.tables e below (s₁.setTop (mkF m 29 #[.val (.int p1), .val (.int p2), .val (.int p3), .val (.int (own_om p3)), .unset, .unset, .unset, .unset, .unset, .unset] [(.int (own_pr p1 p2 p3))])) _
    refine XS.istore X0.here hx rfl (hb hby at_29) rfl (l' := #[.val (.int p1), .val (.int p2), .val (.int p3), .val (.int (own_om p3)), .val (.int (own_pr p1 p2 p3)), .unset, .unset, .unset, .unset, .unset]) rfl ?_
    show Steps p.tables e below (s₁.setTop (mkF m 31 #[.val (.int p1), .val (.int p2), .val (.int p3), .val (.int (own_om p3)), .val (.int (own_pr p1 p2 p3)), .unset, .unset, .unset, .unset, .unset] [])) _
    refine st1 _ ?_
    show Steps p.tables e below (T1.setTop (mkF m 34 #[.val (.int p1), .val (.int p2), .val (.int p3), .val (.int (own_om p3)), .val (.int (own_pr p1 p2 p3)), .unset, .unset, .unset, .unset, .unset] [(.ref b1)])) _
    refine XS.dup X1.here hx rfl (hb hby at_34) rfl rfl ?_
    show Steps p.tables e below (T1.setTop (mkF m 35 #[.val (.int p1), .val (.int p2), .val (.int p3), .val (.int (own_om p3)), .val (.int (own_pr p1 p2 p3)), .unset, .unset, .unset, .unset, .unset] [(.ref b1), (.ref b1)])) _
    refine XS.iloadN X1.here hx rfl (hb hby at_35) rfl ?_
    show Steps p.tables e below (T1.setTop (mkF m 36 #[.val (.int p1), .val (.int p2), .val (.int p3), .val (.int (own_om p3)), .val (.int (own_pr p1 p2 p3)), .unset, .unset, .unset, .unset, .unset] [(.int p1), (.ref b1), (.ref b1)])) _
    refine XS.iloadN X1.here hx rfl (hb hby at_36) rfl ?_
    show Steps p.tables e below (T1.setTop (mkF m 37 #[.val (.int p1), .val (.int p2), .val (.int p3), .val (.int (own_om p3)), .val (.int (own_pr p1 p2 p3)), .unset, .unset, .unset, .unset, .unset] [(.int (own_om p3)), (.int p1), (.ref b1), (.ref b1)])) _
    refine st2.trans ?_
    show Steps p.tables e below (T2.setTop (mkF m 40 #[.val (.int p1), .val (.int p2), .val (.int p3), .val (.int (own_om p3)), .val (.int (own_pr p1 p2 p3)), .unset, .unset, .unset, .unset, .unset] [(.ref b1)])) _
    refine XS.astore X2.here hx rfl (hb hby at_40) rfl rfl (l' := #[.val (.int p1), .val (.int p2), .val (.int p3), .val (.int (own_om p3)), .val (.int (own_pr p1 p2 p3)), .val (.ref b1), .unset, .unset, .unset, .unset]) rfl ?_
    show Steps p.tables e below (T2.setTop (mkF m 42 #[.val (.int p1), .val (.int p2), .val (.int p3), .val (.int (own_om p3)), .val (.int (own_pr p1 p2 p3)), .val (.ref b1), .unset, .unset, .unset, .unset] [])) _
    refine XS.aload X2.here hx rfl (hb hby at_42) rfl rfl ?_
    show Steps p.tables e below (T2.setTop (mkF m 44 #[.val (.int p1), .val (.int p2), .val (.int p3), .val (.int (own_om p3)), .val (.int (own_pr p1 p2 p3)), .val (.ref b1), .unset, .unset, .unset, .unset] [(.ref b1)])) _
    refine XS.iload X2.here hx rfl (hb hby at_44) rfl ?_
    show Steps p.tables e below (T2.setTop (mkF m 46 #[.val (.int p1), .val (.int p2), .val (.int p3), .val (.int (own_om p3)), .val (.int (own_pr p1 p2 p3)), .val (.ref b1), .unset, .unset, .unset, .unset] [(.int (own_pr p1 p2 p3)), (.ref b1)])) _
    refine st3.trans ?_
    show Steps p.tables e below (T3.setTop (mkF m 49 #[.val (.int p1), .val (.int p2), .val (.int p3), .val (.int (own_om p3)), .val (.int (own_pr p1 p2 p3)), .val (.ref b1), .unset, .unset, .unset, .unset] [(.int (own_acc (own_om p3) p1 (own_pr p1 p2 p3)))])) _
    refine XS.istore X3.here hx rfl (hb hby at_49) rfl (l' := #[.val (.int p1), .val (.int p2), .val (.int p3), .val (.int (own_om p3)), .val (.int (own_pr p1 p2 p3)), .val (.ref b1), .val (.int (own_acc (own_om p3) p1 (own_pr p1 p2 p3))), .unset, .unset, .unset]) rfl ?_
    show Steps p.tables e below (T3.setTop (mkF m 51 #[.val (.int p1), .val (.int p2), .val (.int p3), .val (.int (own_om p3)), .val (.int (own_pr p1 p2 p3)), .val (.ref b1), .val (.int (own_acc (own_om p3) p1 (own_pr p1 p2 p3))), .unset, .unset, .unset] [])) _
    refine XS.iload X3.here hx rfl (hb hby at_51) rfl ?_
    show Steps p.tables e below (T3.setTop (mkF m 53 #[.val (.int p1), .val (.int p2), .val (.int p3), .val (.int (own_om p3)), .val (.int (own_pr p1 p2 p3)), .val (.ref b1), .val (.int (own_acc (own_om p3) p1 (own_pr p1 p2 p3))), .unset, .unset, .unset] [(.int (own_pr p1 p2 p3))])) _
    refine XS.i2l X3.here hx rfl (hb hby at_53) rfl ?_
    show Steps p.tables e below (T3.setTop (mkF m 54 #[.val (.int p1), .val (.int p2), .val (.int p3), .val (.int (own_om p3)), .val (.int (own_pr p1 p2 p3)), .val (.ref b1), .val (.int (own_acc (own_om p3) p1 (own_pr p1 p2 p3))), .unset, .unset, .unset] [(.long ((own_pr p1 p2 p3).toInt64))])) _
    refine XS.iloadN X3.here hx rfl (hb hby at_54) rfl ?_
    show Steps p.tables e below (T3.setTop (mkF m 55 #[.val (.int p1), .val (.int p2), .val (.int p3), .val (.int (own_om p3)), .val (.int (own_pr p1 p2 p3)), .val (.ref b1), .val (.int (own_acc (own_om p3) p1 (own_pr p1 p2 p3))), .unset, .unset, .unset] [(.int p1), (.long ((own_pr p1 p2 p3).toInt64))])) _
    refine XS.i2l X3.here hx rfl (hb hby at_55) rfl ?_
    show Steps p.tables e below (T3.setTop (mkF m 56 #[.val (.int p1), .val (.int p2), .val (.int p3), .val (.int (own_om p3)), .val (.int (own_pr p1 p2 p3)), .val (.ref b1), .val (.int (own_acc (own_om p3) p1 (own_pr p1 p2 p3))), .unset, .unset, .unset] [(.long (p1.toInt64)), (.long ((own_pr p1 p2 p3).toInt64))])) _
    refine XS.lsub X3.here hx rfl (hb hby at_56) rfl ?_
    show Steps p.tables e below (T3.setTop (mkF m 57 #[.val (.int p1), .val (.int p2), .val (.int p3), .val (.int (own_om p3)), .val (.int (own_pr p1 p2 p3)), .val (.ref b1), .val (.int (own_acc (own_om p3) p1 (own_pr p1 p2 p3))), .unset, .unset, .unset] [(.long (((own_pr p1 p2 p3).toInt64) - (p1.toInt64)))])) _
    refine XS.lstore X3.here hx rfl (hb hby at_57) rfl (l' := #[.val (.int p1), .val (.int p2), .val (.int p3), .val (.int (own_om p3)), .val (.int (own_pr p1 p2 p3)), .val (.ref b1), .val (.int (own_acc (own_om p3) p1 (own_pr p1 p2 p3))), .val (.long (((own_pr p1 p2 p3).toInt64) - (p1.toInt64))), .second, .unset]) rfl ?_
    show Steps p.tables e below (T3.setTop (mkF m 59 #[.val (.int p1), .val (.int p2), .val (.int p3), .val (.int (own_om p3)), .val (.int (own_pr p1 p2 p3)), .val (.ref b1), .val (.int (own_acc (own_om p3) p1 (own_pr p1 p2 p3))), .val (.long (((own_pr p1 p2 p3).toInt64) - (p1.toInt64))), .second, .unset] [])) _
    refine XS.iloadN X3.here hx rfl (hb hby at_59) rfl ?_
    show Steps p.tables e below (T3.setTop (mkF m 60 #[.val (.int p1), .val (.int p2), .val (.int p3), .val (.int (own_om p3)), .val (.int (own_pr p1 p2 p3)), .val (.ref b1), .val (.int (own_acc (own_om p3) p1 (own_pr p1 p2 p3))), .val (.long (((own_pr p1 p2 p3).toInt64) - (p1.toInt64))), .second, .unset] [(.int (own_om p3))])) _
    refine sg3 _ ?_
    show Steps p.tables e below (T3.setTop (mkF m 90 #[.val (.int p1), .val (.int p2), .val (.int p3), .val (.int (own_om p3)), .val (.int (own_pr p1 p2 p3)), .val (.ref b1), .val (.int (own_acc (own_om p3) p1 (own_pr p1 p2 p3))), .val (.long (((own_pr p1 p2 p3).toInt64) - (p1.toInt64))), .second, .unset] [(.int (own_exp (own_om p3) p1 (own_pr p1 p2 p3)))])) _
    refine XS.istore X3.here hx rfl (hb hby at_90) rfl (l' := #[.val (.int p1), .val (.int p2), .val (.int p3), .val (.int (own_om p3)), .val (.int (own_pr p1 p2 p3)), .val (.ref b1), .val (.int (own_acc (own_om p3) p1 (own_pr p1 p2 p3))), .val (.long (((own_pr p1 p2 p3).toInt64) - (p1.toInt64))), .second, .val (.int (own_exp (own_om p3) p1 (own_pr p1 p2 p3)))]) rfl ?_
    show Steps p.tables e below (T3.setTop (mkF m 92 #[.val (.int p1), .val (.int p2), .val (.int p3), .val (.int (own_om p3)), .val (.int (own_pr p1 p2 p3)), .val (.ref b1), .val (.int (own_acc (own_om p3) p1 (own_pr p1 p2 p3))), .val (.long (((own_pr p1 p2 p3).toInt64) - (p1.toInt64))), .second, .val (.int (own_exp (own_om p3) p1 (own_pr p1 p2 p3)))] [])) _
    refine XS.iload X3.here hx rfl (hb hby at_92) rfl ?_
    show Steps p.tables e below (T3.setTop (mkF m 94 #[.val (.int p1), .val (.int p2), .val (.int p3), .val (.int (own_om p3)), .val (.int (own_pr p1 p2 p3)), .val (.ref b1), .val (.int (own_acc (own_om p3) p1 (own_pr p1 p2 p3))), .val (.long (((own_pr p1 p2 p3).toInt64) - (p1.toInt64))), .second, .val (.int (own_exp (own_om p3) p1 (own_pr p1 p2 p3)))] [(.int (own_acc (own_om p3) p1 (own_pr p1 p2 p3)))])) _
    refine XS.iload X3.here hx rfl (hb hby at_94) rfl ?_
    show Steps p.tables e below (T3.setTop (mkF m 96 #[.val (.int p1), .val (.int p2), .val (.int p3), .val (.int (own_om p3)), .val (.int (own_pr p1 p2 p3)), .val (.ref b1), .val (.int (own_acc (own_om p3) p1 (own_pr p1 p2 p3))), .val (.long (((own_pr p1 p2 p3).toInt64) - (p1.toInt64))), .second, .val (.int (own_exp (own_om p3) p1 (own_pr p1 p2 p3)))] [(.int (own_exp (own_om p3) p1 (own_pr p1 p2 p3))), (.int (own_acc (own_om p3) p1 (own_pr p1 p2 p3)))])) _
    refine XS.icmpNo X3.here hx rfl (hb hby at_96) rfl (teq (rfl : (own_acc (own_om p3) p1 (own_pr p1 p2 p3)) = (own_exp (own_om p3) p1 (own_pr p1 p2 p3)))).2 ?_
    show Steps p.tables e below (T3.setTop (mkF m 99 #[.val (.int p1), .val (.int p2), .val (.int p3), .val (.int (own_om p3)), .val (.int (own_pr p1 p2 p3)), .val (.ref b1), .val (.int (own_acc (own_om p3) p1 (own_pr p1 p2 p3))), .val (.long (((own_pr p1 p2 p3).toInt64) - (p1.toInt64))), .second, .val (.int (own_exp (own_om p3) p1 (own_pr p1 p2 p3)))] [])) _
    refine XS.aload X3.here hx rfl (hb hby at_99) rfl rfl ?_
    show Steps p.tables e below (T3.setTop (mkF m 101 #[.val (.int p1), .val (.int p2), .val (.int p3), .val (.int (own_om p3)), .val (.int (own_pr p1 p2 p3)), .val (.ref b1), .val (.int (own_acc (own_om p3) p1 (own_pr p1 p2 p3))), .val (.long (((own_pr p1 p2 p3).toInt64) - (p1.toInt64))), .second, .val (.int (own_exp (own_om p3) p1 (own_pr p1 p2 p3)))] [(.ref b1)])) _
    refine XS.iloadN X3.here hx rfl (hb hby at_101) rfl ?_
    show Steps p.tables e below (T3.setTop (mkF m 102 #[.val (.int p1), .val (.int p2), .val (.int p3), .val (.int (own_om p3)), .val (.int (own_pr p1 p2 p3)), .val (.ref b1), .val (.int (own_acc (own_om p3) p1 (own_pr p1 p2 p3))), .val (.long (((own_pr p1 p2 p3).toInt64) - (p1.toInt64))), .second, .val (.int (own_exp (own_om p3) p1 (own_pr p1 p2 p3)))] [(.int p1), (.ref b1)])) _
    refine st5.trans ?_
    show Steps p.tables e below (T5.setTop (mkF m 105 #[.val (.int p1), .val (.int p2), .val (.int p3), .val (.int (own_om p3)), .val (.int (own_pr p1 p2 p3)), .val (.ref b1), .val (.int (own_acc (own_om p3) p1 (own_pr p1 p2 p3))), .val (.long (((own_pr p1 p2 p3).toInt64) - (p1.toInt64))), .second, .val (.int (own_exp (own_om p3) p1 (own_pr p1 p2 p3)))] [(.int (own_acc (own_om p3) p1 p1))])) _
    refine XS.ifNo X5.here hx rfl (hb hby at_105) rfl ((if0 _ _).trans (feq (own_self _ _ : ¬ ((own_acc (own_om p3) p1 p1) = (0 : Int32)))).1) ?_
    show Steps p.tables e below (T5.setTop (mkF m 108 #[.val (.int p1), .val (.int p2), .val (.int p3), .val (.int (own_om p3)), .val (.int (own_pr p1 p2 p3)), .val (.ref b1), .val (.int (own_acc (own_om p3) p1 (own_pr p1 p2 p3))), .val (.long (((own_pr p1 p2 p3).toInt64) - (p1.toInt64))), .second, .val (.int (own_exp (own_om p3) p1 (own_pr p1 p2 p3)))] [])) _
    refine XS.iconst X5.here hx rfl (hb hby at_108) ?_
    show Steps p.tables e below (T5.setTop (mkF m 109 #[.val (.int p1), .val (.int p2), .val (.int p3), .val (.int (own_om p3)), .val (.int (own_pr p1 p2 p3)), .val (.ref b1), .val (.int (own_acc (own_om p3) p1 (own_pr p1 p2 p3))), .val (.long (((own_pr p1 p2 p3).toInt64) - (p1.toInt64))), .second, .val (.int (own_exp (own_om p3) p1 (own_pr p1 p2 p3)))] [(.int (1 : Int32))])) _
    refine XS.goto X5.here hx rfl (pc0 := 109) (pc' := 113) rfl (hb hby at_109) (by decide) (by decide) ?_
    show Steps p.tables e below (T5.setTop (mkF m 113 #[.val (.int p1), .val (.int p2), .val (.int p3), .val (.int (own_om p3)), .val (.int (own_pr p1 p2 p3)), .val (.ref b1), .val (.int (own_acc (own_om p3) p1 (own_pr p1 p2 p3))), .val (.long (((own_pr p1 p2 p3).toInt64) - (p1.toInt64))), .second, .val (.int (own_exp (own_om p3) p1 (own_pr p1 p2 p3)))] [(.int (1 : Int32))])) _
    exact retN X5 hx (t := .boolean) Bd.returns (by simp) (hb hby at_113) hr
  · show Qown_law Z p1 p2 p3 h0 n0 _ T5.heap _
    rw [e5]
    exact ⟨rfl, N5⟩
set_option maxRecDepth 65536 in
set_option maxHeartbeats 40000000 in
theorem comes_1 {Post : Tables → Env → Array Value → State → Outcome → State → Prop} (hpost : ∀ tb e args s v u, (limb_1_1.after args s (.returned v) u = true ∧ limb_1_2.after args s (.returned v) u = true ∧ True) → FrameEnd s (.returned v) u (Jvm.fieldLocs frame_1_writes args s ++ Jvm.arrayLocs frame_1_arrays args s ++ Jvm.staticLocs frame_1_statics s) 16 128 → Post tb e args s (.returned v) u) :
    ArmFor flags0 classFile x code maxLocals ret World_1 tables_1 room_1 Calls_1 rest_1 Pre_1 Post := by
  intro l hfl _ _ p e ha hc hk s m args below hf hA hF happ hP
  obtain ⟨hcalls, hrest, hpre⟩ := hP
  obtain ⟨-, -, -, hnamed, -, -, -, hat⟩ := (Spec.applies_iff hf).mp happ
  obtain ⟨hg, hn⟩ := and_e (Cond.before_iff.mp (show (Jvm.Cond.and given_1 narrow_1).before args s = true from hpre))
  obtain ⟨g1, g2⟩ := and_e hg
  obtain ⟨g3, g4⟩ := and_e g2
  obtain ⟨g5, g6⟩ := and_e g4
  obtain ⟨w0, w1, w2, rfl⟩ : ∃ w0 w1 w2 : Value, args = #[w0, w1, w2] := by
    have hs : args.size = 3 := by simpa [Cond.value, given_1] using g1
    obtain ⟨L⟩ := args
    match L, hs with
    | [w0, w1, w2], _ => exact ⟨w0, w1, w2, rfl⟩
  have hw := fun d (hd : d ∈ tables_1) => atoms_spec (ws := Jvm.Cond.code x code maxLocals ret :: tables_1) hat d (List.mem_cons_of_mem _ hd)
  have hfit : Fit s := fun {y c} hc i hi => by
    obtain ⟨ha, rfl⟩ := Array.getElem?_eq_some_iff.mp hc
    have q := List.all_eq_true.mp ((Array.all_eq_true_iff_forall_mem.mp hF) _ (Array.getElem_mem ha)) i (List.mem_range.mpr hi)
    simpa [Array.getElem?_eq_getElem hi] using q
  obtain ⟨i0, ei0⟩ := is_v g3
  obtain rfl : w0 = (.int i0) := Option.some.inj ei0
  obtain ⟨i1, ei1⟩ := is_v g5
  obtain rfl : w1 = (.int i1) := Option.some.inj ei1
  obtain ⟨i2, ei2⟩ := is_v g6
  obtain rfl : w2 = (.int i2) := Option.some.inj ei2
  obtain ⟨n, o, h1, h2, h3, _, L, rfl, ⟨rfl, N⟩, hq⟩ := own_law l s _ hw tables_1 i0 i1 i2 s.heap s.heap.size (Nat.le_refl _)  p e ha hc hk s m _ below hf ((Spec.applies_iff_loose hf).mp happ).1 ⟨rfl, State.Warmed39.refl s, rfl⟩ trivial
  refine ⟨n, _, h1, h2, h3, hpost _ _ _ _ _ _ ⟨Cond.after_iff.mpr rfl, Cond.after_iff.mpr (eq_i res_at (Term.int_eval (1)) rfl), trivial⟩ ⟨hq.1, hq.2.1, (hq.2.2.sift fun y hy => Or.inr (N y hy)).mono (by decide) (by decide)⟩⟩
theorem main_1_1 : Claimed_1_1 := comes_1 fun _ _ _ _ _ _ h hF => ⟨h.1, hF⟩
theorem main_1_2 : Claimed_1_2 := comes_1 fun _ _ _ _ _ _ h hF => ⟨h.2.1, hF⟩
end Jvm.Pilot.@@N@@
namespace Jvm.Pilot.@@N@@
open Jvm Jvm.ClassFile Sem Op Lib Jvm.Free Jvm.Stand Jvm.Pilot.@@N@@.Jvm.D
/-! MADE BY PROGRAM (witnessworld.py) out of the Statement's table words and the real class files: 10 classes; the members and pool entries that the words name. The judged class is class 1, her method 1. -/
namespace start1
open Jvm.ClassFile
def u (s : String) : CpInfo := .utf8 (stringToUtf16 s)
/-- a pool by its gaps: so many unusable entries, then the entry; so many at the end -/
def gap : Nat → List CpInfo → List CpInfo
  | 0, r => r
  | n + 1, r => .unusable :: gap n r
def poolList (es : List (Nat × CpInfo)) (last : Nat) : List CpInfo := es.foldr (fun e r => gap e.1 (e.2 :: r)) (gap last [])
def pool (es : List (Nat × CpInfo)) (last : Nat) : Array CpInfo := ⟨poolList es last⟩
def fileOf (pool : Array CpInfo) (this : Nat) (attrs : Array Attribute := #[]) (ms : Array MethodInfo := #[]) (fl : Nat := 33) (sup : Nat := 0) (ifs : Array Nat := #[]) (fds : Array FieldInfo := #[]) : ClassFile where
  minorVersion := 0
  majorVersion := 65
  constantPool := pool
  accessFlags := fl
  thisClass := this
  superClass := sup
  interfaces := ifs
  fields := fds
  methods := ms
  attributes := attrs
def plain (name : String) (sup : Option ClassId) : Class where
  name := name
  kind := .ordinary
  loader := none
  accessFlags := 33
  super := sup
  interfaces := #[]
  cf := none
  fields := #[]
  methods := #[]
  instanceTypes := #[]
  staticTypes := #[]
  resolved := #[]
  callSites := []
  init := .initialized
  statics := none
  mirror := none

def pool0 : Array CpInfo := pool [(5, u "<init>"), (0, u "()V"), (1, .class_ 10), (1, u "java/lang/Object")] 113

def k0c0 : Code := { maxStack := 0, maxLocals := 1, code := object_method_1_code, exceptionTable := #[], attributes := #[] }
def k0m0 : Method := { name := "<init>", desc := "()V", sig := { parameters := [], returnType := none }, accessFlags := 1, code := some k0c0 }
/-- java/lang/Object -/
def k0 : Class := { plain "java/lang/Object" none with
  accessFlags := 33
  interfaces := #[]
  cf := some (fileOf pool0 8 #[] #[{ accessFlags := 1, nameIndex := 5, descriptorIndex := 6, attributes := #[] }] 33 0 #[] #[])
  fields := #[]
  methods := #[k0m0]
  instanceTypes := #[]
  staticTypes := #[]
  resolved := Array.replicate 124 none
  statics := none }

def pool1 : Array CpInfo := pool [(2, .class_ 4), (1, u "java/lang/Object"), (0, u "<init>"), (0, u "()V"), (0, .class_ 8), (0, u "com/example/rubrika/rubrika/ProfileTable$Count"), (0, .methodref 7 10), (0, .nameAndType 5 11), (0, u "(IZ)V"), (0, .methodref 7 13), (0, .nameAndType 14 15), (0, u "accepts"), (0, u "(I)Z"), (0, .class_ 17), (0, u "com/example/rubrika/rubrika/CountAcceptsPinLaw"), (2, u "law"), (0, u "(III)Z")] 7

def k1m0 : Method := { name := "<init>", desc := "()V", sig := { parameters := [], returnType := none }, accessFlags := 1, code := none }
def k1c1 : Code := { maxStack := 4, maxLocals := 10, code := code, exceptionTable := #[], attributes := #[] }
def k1m1 : Method := { name := "law", desc := "(III)Z", sig := { parameters := [.int, .int, .int], returnType := some .boolean }, accessFlags := 9, code := some k1c1 }
/-- com/example/rubrika/rubrika/CountAcceptsPinLaw -/
def k1 : Class := { plain "com/example/rubrika/rubrika/CountAcceptsPinLaw" (some 0) with
  accessFlags := 49
  interfaces := #[]
  cf := some (fileOf pool1 16 #[] #[{ accessFlags := 1, nameIndex := 5, descriptorIndex := 6, attributes := #[] }, { accessFlags := 9, nameIndex := 20, descriptorIndex := 21, attributes := #[] }] 49 2 #[] #[])
  fields := #[]
  methods := #[k1m0, k1m1]
  instanceTypes := #[]
  staticTypes := #[]
  resolved := Array.replicate 29 none
  statics := none }

def pool2 : Array CpInfo := pool [(1, .methodref 2 3), (0, .class_ 4), (0, .nameAndType 5 6), (0, u "java/lang/Object"), (0, u "<init>"), (0, u "()V"), (0, .class_ 8), (0, u "java/lang/Record")] 13

def k2c0 : Code := { maxStack := 1, maxLocals := 1, code := jdk_30_method_1_code, exceptionTable := #[], attributes := #[] }
def k2m0 : Method := { name := "<init>", desc := "()V", sig := { parameters := [], returnType := none }, accessFlags := 4, code := some k2c0 }
/-- java/lang/Record -/
def k2 : Class := { plain "java/lang/Record" (some 0) with
  accessFlags := 1057
  interfaces := #[]
  cf := some (fileOf pool2 7 #[] #[{ accessFlags := 4, nameIndex := 5, descriptorIndex := 6, attributes := #[] }] 1057 2 #[] #[])
  fields := #[]
  methods := #[k2m0]
  instanceTypes := #[]
  staticTypes := #[]
  resolved := Array.replicate 22 none
  statics := none }

def pool3 : Array CpInfo := pool [(1, .methodref 2 3), (0, .class_ 4), (0, .nameAndType 5 6), (0, u "java/lang/Record"), (0, u "<init>"), (0, u "()V"), (0, .fieldref 8 9), (0, .class_ 10), (0, .nameAndType 11 12), (0, u "com/example/rubrika/rubrika/ProfileTable$Count"), (0, u "least"), (0, u "I"), (0, .fieldref 8 14), (0, .nameAndType 15 16), (0, u "orMore"), (0, u "Z"), (16, u "(IZ)V"), (3, u "accepts"), (0, u "(I)Z"), (11, .class_ 51), (0, u "com/example/rubrika/rubrika/ProfileTable")] 28

def k3c0 : Code := { maxStack := 2, maxLocals := 3, code := prog_56_method_1_code, exceptionTable := #[], attributes := #[] }
def k3m0 : Method := { name := "<init>", desc := "(IZ)V", sig := { parameters := [.int, .boolean], returnType := none }, accessFlags := 0, code := some k3c0 }
def k3c1 : Code := { maxStack := 2, maxLocals := 2, code := prog_56_method_2_code, exceptionTable := #[], attributes := #[] }
def k3m1 : Method := { name := "accepts", desc := "(I)Z", sig := { parameters := [.int], returnType := some .boolean }, accessFlags := 0, code := some k3c1 }
/-- com/example/rubrika/rubrika/ProfileTable$Count -/
def k3 : Class := { plain "com/example/rubrika/rubrika/ProfileTable$Count" (some 2) with
  accessFlags := 48
  interfaces := #[]
  cf := some (fileOf pool3 8 #[.nestHost 50] #[{ accessFlags := 0, nameIndex := 5, descriptorIndex := 33, attributes := #[] }, { accessFlags := 0, nameIndex := 37, descriptorIndex := 38, attributes := #[] }] 48 2 #[] #[{ accessFlags := 18, nameIndex := 11, descriptorIndex := 12, attributes := #[] }, { accessFlags := 18, nameIndex := 15, descriptorIndex := 16, attributes := #[] }])
  fields := #[{ name := "least", type := .int, accessFlags := 18, slot := 0, constantValue := 0 }, { name := "orMore", type := .boolean, accessFlags := 18, slot := 1, constantValue := 0 }]
  methods := #[k3m0, k3m1]
  instanceTypes := #[.int, .boolean]
  staticTypes := #[]
  resolved := Array.replicate 80 none
  statics := none }

def pool4 : Array CpInfo := pool [(1, u "java/lang/Cloneable"), (0, .class_ 1), (0, u "java/lang/Object"), (0, .class_ 3)] 3

/-- java/lang/Cloneable -/
def k4 : Class := { plain "java/lang/Cloneable" (some 0) with
  accessFlags := 1537
  interfaces := #[]
  cf := some (fileOf pool4 2 #[] #[] 1537 4 #[] #[])
  fields := #[]
  methods := #[]
  instanceTypes := #[]
  staticTypes := #[]
  resolved := Array.replicate 8 none
  statics := none }

def pool5 : Array CpInfo := pool [(1, u "java/io/Serializable"), (0, .class_ 1), (0, u "java/lang/Object"), (0, .class_ 3)] 3

/-- java/io/Serializable -/
def k5 : Class := { plain "java/io/Serializable" (some 0) with
  accessFlags := 1537
  interfaces := #[]
  cf := some (fileOf pool5 2 #[] #[] 1537 4 #[] #[])
  fields := #[]
  methods := #[]
  instanceTypes := #[]
  staticTypes := #[]
  resolved := Array.replicate 8 none
  statics := none }

/-- the primitive byte -/
def k6 : Class := { plain "byte" none with kind := .primitive 'B', accessFlags := 0x411 }
/-- [B -/
def k7 : Class := { plain "[B" (some 0) with kind := .array 6 .byte, interfaces := #[4, 5], accessFlags := 1041 }

/-- the primitive int -/
def k8 : Class := { plain "int" none with kind := .primitive 'I', accessFlags := 0x411 }
/-- [I -/
def k9 : Class := { plain "[I" (some 0) with kind := .array 8 .int, interfaces := #[4, 5], accessFlags := 1041 }

def heap : Heap := #[]
def classes : Array Class := #[k0, k1, k2, k3, k4, k5, k6, k7, k8, k9]
def interned : List (Array UInt16 × Addr) := []
def slotsUsed : Nat := 0
def theMethod : MethodId := ⟨1, 1⟩
def args0 : Array Value := #[.int 5, .int 41, .int 1]
def aboutOver (below : List Frame) : State where
  vm := { classes := classes, interned := interned.toArray }
  heap := heap
  slotsUsed := slotsUsed
  threads := #[{ frames := .invoking theMethod args0 :: below }]
def below0 : List Frame := [.native { method := ⟨0, 0⟩, args := #[] }]
def about1 : State := aboutOver below0
def p0 : Program := .bare "" "" ""
def e0 : Env := launch0.env 0 0 0
theorem w_frames : about1.frames = Frame.invoking theMethod args0 :: below0 := rfl
set_option maxRecDepth 65536 in
theorem w_args : argsFit about1.vm theMethod args0 = true := by decide +kernel
set_option maxRecDepth 65536 in
theorem w_heap : heapFits about1 = true := by decide +kernel
set_option maxRecDepth 65536 in
theorem w_runnable : about1.curStatus? = some .runnable := by decide +kernel
set_option maxRecDepth 65536 in
theorem w_alone : about1.alone = true := by decide +kernel
set_option maxRecDepth 65536 in
theorem w_named : about1.methodNamed? x = some theMethod := by decide +kernel
set_option maxRecDepth 65536 in
theorem w_hears : about1.hears theMethod below0 = true := by decide +kernel
set_option maxRecDepth 65536 in
theorem w_ripe : about1.ripe theMethod args0 below0 = true := by decide +kernel
theorem w_running : about1.status = .running := rfl
set_option maxRecDepth 65536 in
theorem w_room : about1.hasRoom e0.platform room_1 = true :=
  launch0.hasRoom_least _ room_1 (by decide +kernel) (by decide +kernel) (by decide +kernel) (by decide +kernel) (by decide +kernel) (by decide +kernel)
theorem allAtoms_all (ts : List Jvm.Cond) (a : Array Jvm.Value) (st : Jvm.State) : (allAtoms ts).before a st = ts.all (fun c => c.before a st) := by
  induction ts with
  | nil => rfl
  | cons c t ih =>
    show (Jvm.Cond.and c (allAtoms t)).before a st = _
    rw [Jvm.Cond.before_and, ih, List.all_cons]
def words1 : List Jvm.Cond := Jvm.Cond.code x code maxLocals ret :: tables_1
/-- a 'code' word, met by the world's own term for the bytes: nothing is compared byte by byte -/
theorem code_word {y : MethodName} {bytes : ByteArray} {mx : Nat} {rt : Option FieldType} {a : Array Value} {s : State} {m : MethodId} {meth : Method} {c : Code} (h1 : s.methodNamed? y = some m) (h2 : s.vm.method? m = some meth) (h3 : meth.code = some c) (h4 : c.code = bytes)
    (h5 : (c.maxLocals == mx && c.exceptionTable.isEmpty && decide (c.maxStack ≤ mostOperands) && decide (meth.sig.returnType = rt) && !meth.locks && decide (parseMethodDescriptor y.desc = some meth.sig)) = true) : (Jvm.Cond.code y bytes mx rt).before a s = true := by
  simp only [Bool.and_eq_true, beq_iff_eq, Bool.not_eq_true', decide_eq_true_eq] at h5
  obtain ⟨⟨⟨⟨⟨g1, g2⟩, g3⟩, g4⟩, g5⟩, g6⟩ := h5
  simp [Cond.before, Cond.holds, Cond.value, h1, h2, h3, h4, g1, g2, g3, g4, g5, g6]
def isCode : Jvm.Cond → Bool
  | .code _ _ _ _ => true
  | _ => false
theorem all_split {L : List Jvm.Cond} {P : Jvm.Cond → Bool} (h1 : L.all (fun c => isCode c || P c) = true) (h2 : ∀ c ∈ L.filter isCode, P c = true) : L.all P = true := by
  refine List.all_eq_true.mpr fun c hc => ?_
  have h := List.all_eq_true.mp h1 c hc
  rcases Bool.eq_false_or_eq_true (isCode c) with hi | hi
  · exact h2 c (List.mem_filter.mpr ⟨hc, hi⟩)
  · simpa [hi] using h
set_option maxRecDepth 65536 in
theorem w_c0 : (Jvm.Cond.code x code maxLocals ret).before args0 about1 = true := code_word (m := ⟨1, 1⟩) (meth := k1m1) (c := k1c1) (by decide +kernel) rfl rfl rfl (by decide +kernel)
set_option maxRecDepth 65536 in
theorem w_c1 : (Jvm.Cond.code ({ cls := "com/example/rubrika/rubrika/ProfileTable$Count", name := "<init>", desc := "(IZ)V" } : Jvm.MethodName) prog_56_method_1_code (3 : Nat) (Option.none : Option Jvm.ClassFile.FieldType)).before args0 about1 = true := code_word (m := ⟨3, 0⟩) (meth := k3m0) (c := k3c0) (by decide +kernel) rfl rfl rfl (by decide +kernel)
set_option maxRecDepth 65536 in
theorem w_c2 : (Jvm.Cond.code ({ cls := "java/lang/Record", name := "<init>", desc := "()V" } : Jvm.MethodName) jdk_30_method_1_code (1 : Nat) (Option.none : Option Jvm.ClassFile.FieldType)).before args0 about1 = true := code_word (m := ⟨2, 0⟩) (meth := k2m0) (c := k2c0) (by decide +kernel) rfl rfl rfl (by decide +kernel)
set_option maxRecDepth 65536 in
theorem w_c3 : (Jvm.Cond.code ({ cls := "java/lang/Object", name := "<init>", desc := "()V" } : Jvm.MethodName) object_method_1_code (1 : Nat) (Option.none : Option Jvm.ClassFile.FieldType)).before args0 about1 = true := code_word (m := ⟨0, 0⟩) (meth := k0m0) (c := k0c0) (by decide +kernel) rfl rfl rfl (by decide +kernel)
set_option maxRecDepth 65536 in
theorem w_c4 : (Jvm.Cond.code ({ cls := "com/example/rubrika/rubrika/ProfileTable$Count", name := "accepts", desc := "(I)Z" } : Jvm.MethodName) prog_56_method_2_code (2 : Nat) (Option.some Jvm.ClassFile.FieldType.boolean)).before args0 about1 = true := code_word (m := ⟨3, 1⟩) (meth := k3m1) (c := k3c1) (by decide +kernel) rfl rfl rfl (by decide +kernel)
def codes1 : List Jvm.Cond := [Jvm.Cond.code x code maxLocals ret, Jvm.Cond.code ({ cls := "com/example/rubrika/rubrika/ProfileTable$Count", name := "<init>", desc := "(IZ)V" } : Jvm.MethodName) prog_56_method_1_code (3 : Nat) (Option.none : Option Jvm.ClassFile.FieldType), Jvm.Cond.code ({ cls := "java/lang/Record", name := "<init>", desc := "()V" } : Jvm.MethodName) jdk_30_method_1_code (1 : Nat) (Option.none : Option Jvm.ClassFile.FieldType), Jvm.Cond.code ({ cls := "java/lang/Object", name := "<init>", desc := "()V" } : Jvm.MethodName) object_method_1_code (1 : Nat) (Option.none : Option Jvm.ClassFile.FieldType), Jvm.Cond.code ({ cls := "com/example/rubrika/rubrika/ProfileTable$Count", name := "accepts", desc := "(I)Z" } : Jvm.MethodName) prog_56_method_2_code (2 : Nat) (Option.some Jvm.ClassFile.FieldType.boolean)]
set_option maxRecDepth 65536 in
theorem codes_eq : words1.filter isCode = codes1 := rfl
theorem w_codes : ∀ c ∈ words1.filter isCode, c.before args0 about1 = true := by
  rw [codes_eq]
  intro c hc
  simp only [codes1, List.mem_cons, List.not_mem_nil, or_false] at hc
  rcases hc with rfl | rfl | rfl | rfl | rfl
  · exact w_c0
  · exact w_c1
  · exact w_c2
  · exact w_c3
  · exact w_c4
set_option maxRecDepth 65536 in
theorem w_t1 : words1.all (fun c => isCode c || c.before args0 about1) = true := by decide +kernel
theorem w_tables : (allAtoms (Jvm.Cond.code x code maxLocals ret :: tables_1)).before args0 about1 = true := by
  rw [allAtoms_all]
  show words1.all (fun c => c.before args0 about1) = true
  refine all_split ?_ w_codes
  rw [w_t1]
set_option maxRecDepth 65536 in
theorem w_case : (Jvm.Cond.and given_1 narrow_1).before args0 about1 = true := by decide +kernel
theorem w_applies : (headSpec (Jvm.Cond.code x code maxLocals ret :: tables_1) room_1).applies x e0.platform about1 = true :=
  (Spec.applies_iff w_frames).mpr ⟨w_running, w_runnable, w_alone, w_named, w_hears, w_ripe, w_room, w_tables⟩
theorem atStart : AtStart classFile x code maxLocals ret World_1 tables_1 room_1 Calls_1 rest_1 Pre_1 launch0 p0 e0 about1 theMethod args0 below0 :=
  ⟨lists_1, trivial, launch0.admits_env _ _ _, launch0.least_env, fairChoices_fair.cas, fairChoices_fair.clock, w_frames, w_args, w_heap, w_applies, trivial, trivial, w_case⟩
end start1
theorem witness_1 : WitnessClaimed_1 := ⟨start1.p0, start1.e0, start1.about1, start1.theMethod, start1.args0, start1.below0, start1.atStart⟩
end Jvm.Pilot.@@N@@
