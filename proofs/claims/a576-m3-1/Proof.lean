import JvmDerived
import JvmDerived.Pilot.@@N@@Statement
import JvmDerived.Pilot.@@N@@Code
set_option linter.unusedVariables false
set_option linter.unusedSimpArgs false
namespace Jvm.RoadKit
open Sem ClassFile Op Lib Jvm.Stand Jvm.Free Jvm.LawKit
section New
variable {p : Program} {l : Launch} {e : Env} {R : Room} {s : State} {m : MethodId} {args : Array Value} {below : List Frame} {meth : Method} {c : Code} {T : State} {locs : List Loc} {cells slots : Nat}
theorem retI (X : Stand p l e R s m args below meth c T locs cells slots) (hx : p.tables.exec = Jvm.exec) {pc : Nat} {Ls : Array Slot} {z : Int32} {rest : List Value} (hret : meth.sig.returnType = some .int) (hd : decode c.code pc = .ok (.ireturn, 1)) {fs : List Frame}
    (hl : ∀ (f : JFrame) (acts : List Action), f.method = m → f.locked = none → f.entered = [] → (doReturn e (T.setTop f) acts (some (.int z))).1 = T.setFrames fs) : Steps p.tables e below (T.setTop (mkF m pc Ls (.int z :: rest))) (T.setFrames fs) := by
  have hm' : T.vm.method? m = some meth := X.method'
  have hn : narrow .int (.int z) = .int z := rfl
  show Steps p.tables e below (T.setTop { method := m, pc := pc, locals := Ls, stack := _ :: rest, locked := none }) _
  jvm_step X.here [X.here.top, hx, hd, hm', hret, hn]
  first | (intro acts; rw [hl _ acts rfl rfl rfl]) | rw [hl _ _ rfl rfl rfl]
  exact Steps.refl _
end New
end Jvm.RoadKit
namespace Jvm.Pilot.@@N@@
open Jvm Jvm.ClassFile Sem Op Lib Jvm.Free Jvm.Stand Jvm.LawKit Jvm.RoadKit Bundle Jvm.Pilot.@@N@@.Jvm.D
def own_max (a b : Int64) : Int64 := if a < b then b else a
def own_time (t : Int64) : Int64 := (t - (t / (9223372036854776 : Int64)) * (9223372036854776 : Int64))
def own_p0 (t p : Int64) (k : Int32) : Int64 := if (k &&& (1 : Int32)) = (0 : Int32) then p else (((own_time t) * (1000 : Int64)) + ((((((k.toUInt32 >>> ((1 : Int32) &&& 31).toUInt32).toInt32) % (3 : Int32)) - (1 : Int32)).toInt64)))
def own_p (q : Int64) : Int64 := if q = (9223372036854775807 : Int64) then (9223372036854775806 : Int64) else q
theorem own_time_le (t : Int64) : ¬ ((9223372036854775 : Int64) < own_time t) := by
  have e := c_lrem t 9223372036854776 9223372036854776 rfl
  have q : (9223372036854775 : Int64).toInt = 9223372036854775 := rfl
  rw [Int64.lt_iff_toInt_lt, q]
  unfold own_time
  by_cases h : 0 ≤ t.toInt
  · have := e.1 h; omega
  · have := e.2 (by omega); omega
theorem own_p_ne (q : Int64) : ¬ (own_p q = (9223372036854775807 : Int64)) := by
  unfold own_p
  by_cases h : q = (9223372036854775807 : Int64)
  · rw [if_pos h]; decide
  · rw [if_neg h]; exact h
theorem own_ar (ms p : Int64) (h : ¬ (p = (9223372036854775807 : Int64))) : ¬ (own_max ms (p + (1 : Int64)) < ms) ∧ p < own_max ms (p + (1 : Int64)) ∧ (¬ (own_max ms (p + (1 : Int64)) = ms) → own_max ms (p + (1 : Int64)) = p + (1 : Int64)) := by
  have h' : p.toInt ≠ 9223372036854775807 := fun e => h (Int64.toInt_inj.mp e)
  have t1 : (1 : Int64).toInt = 1 := rfl
  have q := c_ladd p 1
  rw [t1] at q
  have r1 := rng64 p
  have r2 := rng64 (p + 1)
  have e1 : (p + 1).toInt = p.toInt + 1 := by omega
  unfold own_max
  by_cases c : ms < p + (1 : Int64)
  · rw [if_pos c]
    refine ⟨?_, ?_, fun _ => rfl⟩ <;> simp only [Int64.lt_iff_toInt_lt] at c ⊢ <;> omega
  · rw [if_neg c]
    refine ⟨?_, ?_, fun z => absurd rfl z⟩ <;> simp only [Int64.lt_iff_toInt_lt] at c ⊢ <;> omega
theorem d2_0 : decode jdk_29_method_66_code 0 = .ok (.lload_n 0, 1) := by decide +kernel
theorem d2_1 : decode jdk_29_method_66_code 1 = .ok (.lload_n 2, 1) := by decide +kernel
theorem d2_2 : decode jdk_29_method_66_code 2 = .ok (.lcmp, 1) := by decide +kernel
theorem d2_3 : decode jdk_29_method_66_code 3 = .ok (.ifCond .lt 7, 3) := by decide +kernel
theorem d2_10 : decode jdk_29_method_66_code 10 = .ok (.lload_n 2, 1) := by decide +kernel
theorem d2_11 : decode jdk_29_method_66_code 11 = .ok (.lreturn, 1) := by decide +kernel
theorem d2_6 : decode jdk_29_method_66_code 6 = .ok (.lload_n 0, 1) := by decide +kernel
theorem d2_7 : decode jdk_29_method_66_code 7 = .ok (.goto 4, 3) := by decide +kernel
theorem ef_own_mx (m : MethodId) (x0 : Int64) (x1 : Int64) : entryFrame m #[(.long x0), (.long x1)] 4 = mkF m 0 #[.val (.long x0), .second, .val (.long x1), .second] [] := by first | (simp [entryFrame, mkF, argsToLocals, Value.category]; done) | rfl
def Qown_mx (Z : State) (q1 : Int64) (q2 : Int64) (h0 : Heap) (n0 : Nat) (v : Option Value) (h : Heap) (L : List Loc) : Prop := v = some (.long (own_max q1 q2)) ∧ Fr n0 L ∧ h = h0
set_option maxRecDepth 65536 in
set_option maxHeartbeats 40000000 in
theorem own_mx (l : Launch) (Z : State) (a0 : Array Value) (hw : ∀ d ∈ tables_1, d.before a0 Z = true) (ws : List Jvm.Cond) (q1 : Int64) (q2 : Int64) (h0 : Heap) (n0 : Nat) (Z0 : n0 ≤ h0.size) :
    MetFree l (⟨"java/lang/Math", "max", "(JJ)J"⟩ : MethodName) (head1 (Jvm.Cond.code (⟨"java/lang/Math", "max", "(JJ)J"⟩ : MethodName) jdk_29_method_66_code 4 (some .long) :: ws) ({ frames := 0, cells := 0, slots := 0, locals := 0 } : Room)) (fun a U => a = #[(.long q1), (.long q2)] ∧ Z.Warmed39 U.vm ∧ U.heap = h0) (fun _ _ _ _ _ => True) (fun _ U o U' => ∃ v L, o = .returned v ∧ Qown_mx Z q1 q2 h0 n0 v U'.heap L ∧ FrameEnd U o U' L ({ frames := 0, cells := 0, slots := 0, locals := 0 } : Room).cells ({ frames := 0, cells := 0, slots := 0, locals := 0 } : Room).slots) := by
  refine MetFree.of_bodySF (Jvm.Free.JP.mathPlain rfl (by decide +kernel)) hisR ?_
  intro p e s m args below meth c s₁ Bd hml0 hP hK
  obtain ⟨rfl, hZ, hh⟩ := hP
  have hx := Bd.exec
  have hby := Bd.bytes
  have hml : c.maxLocals = 4 := hml0
  have hown : s.vm.findClass "java/lang/Math" = some m.cls := findClass_of_methodNamed Bd.named
  have hnm := (name_of_methodNamed Bd.named Bd.method).1
  have X0 : Stand p l e ({ frames := 0, cells := 0, slots := 0, locals := 0 } : Room) s m #[(.long q1), (.long q2)] below meth c s₁ [] 0 0 := Stand.of_body Bd
  have e0 : s₁.heap = h0 := by rw [← hh, Bd.state]; rfl
  have N0 := Fr.nil n0
  have pre0 : ∀ t, Steps p.tables e below (s₁.setTop (mkF m 0 #[.val (.long q1), .second, .val (.long q2), .second] [])) t → Steps p.tables e below (s₁.setTop (entryFrame m #[(.long q1), (.long q2)] 4)) t := fun t k => castTop (ef_own_mx m (q1) (q2)) k
  by_cases hc : q1 < q2
  · obtain ⟨fs, hr, hrun, hended, hW, hsame⟩ := X0.leave (v := some (.long q2)) (fun h => by rw [Bd.returns] at h; cases h)
    refine ⟨_, _, pre0 _ ?_, hrun, hended, _, _, rfl, ?_, ⟨_, rfl⟩, hW, hsame.mono (by decide) (by decide)⟩
    · show Steps p.tables e below (s₁.setTop (mkF m 0 #[.val (.long q1), .second, .val (.long q2), .second] [])) _
      refine XS.lloadN X0.here hx rfl (hb hby d2_0) rfl ?_
      show Steps p.tables e below (s₁.setTop (mkF m 1 #[.val (.long q1), .second, .val (.long q2), .second] [(.long q1)])) _
      refine XS.lloadN X0.here hx rfl (hb hby d2_1) rfl ?_
      show Steps p.tables e below (s₁.setTop (mkF m 2 #[.val (.long q1), .second, .val (.long q2), .second] [(.long q2), (.long q1)])) _
      refine XS.lcmp X0.here hx rfl (hb hby d2_2) rfl ?_
      show Steps p.tables e below (s₁.setTop (mkF m 3 #[.val (.long q1), .second, .val (.long q2), .second] [(.int (lcmpW q1 q2))])) _
      refine XS.ifYes X0.here hx rfl (pc0 := 3) (pc' := 10) rfl (hb hby d2_3) rfl ((if0 _ _).trans (tlt ((lw_lt _ _).mpr (hc) : (lcmpW q1 q2) < (0 : Int32))).1) (by decide) (by decide) ?_
      show Steps p.tables e below (s₁.setTop (mkF m 10 #[.val (.long q1), .second, .val (.long q2), .second] [])) _
      refine XS.lloadN X0.here hx rfl (hb hby d2_10) rfl ?_
      show Steps p.tables e below (s₁.setTop (mkF m 11 #[.val (.long q1), .second, .val (.long q2), .second] [(.long q2)])) _
      jvm_step X0.here [X0.here.top, hx, (hb hby d2_11), X0.method', Bd.returns, narrow]
      first | (intro acts; rw [hr _ acts rfl rfl rfl]) | rw [hr _ _ rfl rfl rfl]
      exact Steps.refl _
    · show Qown_mx Z q1 q2 h0 n0 _ s₁.heap _
      rw [e0]
      exact ⟨by simp [own_max, hc], N0, rfl⟩
  · obtain ⟨fs, hr, hrun, hended, hW, hsame⟩ := X0.leave (v := some (.long q1)) (fun h => by rw [Bd.returns] at h; cases h)
    refine ⟨_, _, pre0 _ ?_, hrun, hended, _, _, rfl, ?_, ⟨_, rfl⟩, hW, hsame.mono (by decide) (by decide)⟩
    · show Steps p.tables e below (s₁.setTop (mkF m 0 #[.val (.long q1), .second, .val (.long q2), .second] [])) _
      refine XS.lloadN X0.here hx rfl (hb hby d2_0) rfl ?_
      show Steps p.tables e below (s₁.setTop (mkF m 1 #[.val (.long q1), .second, .val (.long q2), .second] [(.long q1)])) _
      refine XS.lloadN X0.here hx rfl (hb hby d2_1) rfl ?_
      show Steps p.tables e below (s₁.setTop (mkF m 2 #[.val (.long q1), .second, .val (.long q2), .second] [(.long q2), (.long q1)])) _
      refine XS.lcmp X0.here hx rfl (hb hby d2_2) rfl ?_
      show Steps p.tables e below (s₁.setTop (mkF m 3 #[.val (.long q1), .second, .val (.long q2), .second] [(.int (lcmpW q1 q2))])) _
      refine XS.ifNo X0.here hx rfl (hb hby d2_3) rfl ((if0 _ _).trans (flt (fun q => (hc) ((lw_lt _ _).mp q) : ¬ ((lcmpW q1 q2) < (0 : Int32)))).1) ?_
      show Steps p.tables e below (s₁.setTop (mkF m 6 #[.val (.long q1), .second, .val (.long q2), .second] [])) _
      refine XS.lloadN X0.here hx rfl (hb hby d2_6) rfl ?_
      show Steps p.tables e below (s₁.setTop (mkF m 7 #[.val (.long q1), .second, .val (.long q2), .second] [(.long q1)])) _
      refine XS.goto X0.here hx rfl (pc0 := 7) (pc' := 11) rfl (hb hby d2_7) (by decide) (by decide) ?_
      show Steps p.tables e below (s₁.setTop (mkF m 11 #[.val (.long q1), .second, .val (.long q2), .second] [(.long q1)])) _
      jvm_step X0.here [X0.here.top, hx, (hb hby d2_11), X0.method', Bd.returns, narrow]
      first | (intro acts; rw [hr _ acts rfl rfl rfl]) | rw [hr _ _ rfl rfl rfl]
      exact Steps.refl _
    · show Qown_mx Z q1 q2 h0 n0 _ s₁.heap _
      rw [e0]
      exact ⟨by simp [own_max, hc], N0, rfl⟩
theorem d1_0 : decode prog_39_method_2_code 0 = .ok (.lload_n 0, 1) := by decide +kernel
theorem d1_1 : decode prog_39_method_2_code 1 = .ok (.ldc2_w 9, 3) := by decide +kernel
theorem d1_4 : decode prog_39_method_2_code 4 = .ok (.lcmp, 1) := by decide +kernel
theorem d1_5 : decode prog_39_method_2_code 5 = .ok (.ifCond .le 17, 3) := by decide +kernel
theorem d1_22 : decode prog_39_method_2_code 22 = .ok (.lload_n 2, 1) := by decide +kernel
theorem d1_23 : decode prog_39_method_2_code 23 = .ok (.ldc2_w 20, 3) := by decide +kernel
theorem d1_26 : decode prog_39_method_2_code 26 = .ok (.lcmp, 1) := by decide +kernel
theorem d1_27 : decode prog_39_method_2_code 27 = .ok (.ifCond .ne 13, 3) := by decide +kernel
theorem d1_40 : decode prog_39_method_2_code 40 = .ok (.lload_n 0, 1) := by decide +kernel
theorem d1_41 : decode prog_39_method_2_code 41 = .ok (.ldc2_w 24, 3) := by decide +kernel
theorem d1_44 : decode prog_39_method_2_code 44 = .ok (.lmul, 1) := by decide +kernel
theorem d1_45 : decode prog_39_method_2_code 45 = .ok (.lload_n 2, 1) := by decide +kernel
theorem d1_46 : decode prog_39_method_2_code 46 = .ok (.lconst 1, 1) := by decide +kernel
theorem d1_47 : decode prog_39_method_2_code 47 = .ok (.ladd, 1) := by decide +kernel
theorem d1_48 : decode prog_39_method_2_code 48 = .ok (.invokestatic 26, 3) := by decide +kernel
theorem pd__JJ_J : parseMethodDescriptor "(JJ)J" = some ⟨[.long, .long], some .long⟩ := by decide +kernel
theorem d1_51 : decode prog_39_method_2_code 51 = .ok (.lreturn, 1) := by decide +kernel
theorem pn_com_example_tributary_tributary_Stamp : plainName "com/example/tributary/tributary/Stamp" = true := by first | (simp [plainName, overriddenIn]; done) | decide +kernel
theorem ef_own_next (m : MethodId) (x0 : Int64) (x1 : Int64) : entryFrame m #[(.long x0), (.long x1)] 4 = mkF m 0 #[.val (.long x0), .second, .val (.long x1), .second] [] := by first | (simp [entryFrame, mkF, argsToLocals, Value.category]; done) | rfl
def Qown_next (Z : State) (q1 : Int64) (q2 : Int64) (h0 : Heap) (n0 : Nat) (v : Option Value) (h : Heap) (L : List Loc) : Prop := v = some (.long (own_max (q1 * (1000 : Int64)) (q2 + (1 : Int64)))) ∧ Fr n0 L ∧ h = h0
set_option maxRecDepth 65536 in
set_option maxHeartbeats 40000000 in
theorem own_next (l : Launch) (Z : State) (a0 : Array Value) (hw : ∀ d ∈ tables_1, d.before a0 Z = true) (ws : List Jvm.Cond) (q1 : Int64) (q2 : Int64) (h0 : Heap) (n0 : Nat) (Z0 : n0 ≤ h0.size) (h5 : ¬ ((9223372036854775 : Int64) < q1)) (h27 : ¬ (q2 = (9223372036854775807 : Int64))) :
    MetFree l (⟨"com/example/tributary/tributary/Stamp", "next", "(JJ)J"⟩ : MethodName) (head1 (Jvm.Cond.code (⟨"com/example/tributary/tributary/Stamp", "next", "(JJ)J"⟩ : MethodName) prog_39_method_2_code 4 (some .long) :: ws) ({ frames := 1, cells := 0, slots := 0, locals := 15 } : Room)) (fun a U => a = #[(.long q1), (.long q2)] ∧ Z.Warmed39 U.vm ∧ U.heap = h0) (fun _ _ _ _ _ => True) (fun _ U o U' => ∃ v L, o = .returned v ∧ Qown_next Z q1 q2 h0 n0 v U'.heap L ∧ FrameEnd U o U' L ({ frames := 1, cells := 0, slots := 0, locals := 15 } : Room).cells ({ frames := 1, cells := 0, slots := 0, locals := 15 } : Room).slots) := by
  refine MetFree.of_bodySF (plainFor_of_name pn_com_example_tributary_tributary_Stamp) hisR ?_
  intro p e s m args below meth c s₁ Bd hml0 hP hK
  obtain ⟨rfl, hZ, hh⟩ := hP
  have hx := Bd.exec
  have hby := Bd.bytes
  have hml : c.maxLocals = 4 := hml0
  have hown : s.vm.findClass "com/example/tributary/tributary/Stamp" = some m.cls := findClass_of_methodNamed Bd.named
  have hnm := (name_of_methodNamed Bd.named Bd.method).1
  have X0 : Stand p l e ({ frames := 1, cells := 0, slots := 0, locals := 15 } : Room) s m #[(.long q1), (.long q2)] below meth c s₁ [] 0 0 := Stand.of_body Bd
  have e0 : s₁.heap = h0 := by rw [← hh, Bd.state]; rfl
  have N0 := Fr.nil n0
  have pre0 : ∀ t, Steps p.tables e below (s₁.setTop (mkF m 0 #[.val (.long q1), .second, .val (.long q2), .second] [])) t → Steps p.tables e below (s₁.setTop (entryFrame m #[(.long q1), (.long q2)] 4)) t := fun t k => castTop (ef_own_next m (q1) (q2)) k
  obtain ⟨_, _, ⟨T1, L1, k1, n1⟩, -, X1, ⟨Lc1, hQ1, l1, y1, z1⟩, st1⟩ := Jvm.LawKit.callS X0 hx (y := (⟨"java/lang/Math", "max", "(JJ)J"⟩ : MethodName)) hown (mvT hZ (hw _ (List.mem_of_getElem? (i := 10) rfl))) (mvT hZ (hw _ (List.mem_of_getElem? (i := 11) rfl))) (mvT hZ (hw _ (List.mem_of_getElem? (i := 12) rfl))) (mvT hZ (hw _ (List.mem_of_getElem? (i := 13) rfl))) (by decide) (backOf (W := 0) (own_mx l Z a0 hw [] (q1 * (1000 : Int64)) (q2 + (1 : Int64))  h0 n0 Z0 ) hZ (hw _ (List.mem_of_getElem? (i := 13) rfl)) (hw _ (List.mem_of_getElem? (i := 12) rfl)) (by decide) (by decide)) (g := (mkF m 48 #[.val (.long q1), .second, .val (.long q2), .second] [(.long (q2 + (1 : Int64))), (.long (q1 * (1000 : Int64)))])) rfl (by rw [hml]; rfl) (argsL := [(.long (q1 * (1000 : Int64))), (.long (q2 + (1 : Int64)))]) (rest := []) (lenOf pd__JJ_J rfl) rfl (by show 2 * 0 + _ ≤ _; exact Nat.le_of_eq rfl) (hb hby d1_48) (fun _ _ => ⟨rfl, e0, (by decide : 0 + 0 ≤ _), (by decide : 0 + 0 ≤ _)⟩)
  dsimp only [Pt.U, Pt.locs, Pt.cells, Pt.slots] at X1 l1 y1 z1 st1 hQ1
  subst l1 y1 z1
  obtain ⟨rfl, Nq1, e1⟩ := hQ1
  have N1 := Fr.app N0 Nq1
  obtain ⟨fs, hr, hrun, hended, hW, hsame⟩ := X1.leave (v := some (.long (own_max (q1 * (1000 : Int64)) (q2 + (1 : Int64))))) (fun h => by rw [Bd.returns] at h; cases h)
  refine ⟨_, _, pre0 _ ?_, hrun, hended, _, _, rfl, ?_, ⟨_, rfl⟩, hW, hsame.mono (by decide) (by decide)⟩
  · show Steps p.tables e below (s₁.setTop (mkF m 0 #[.val (.long q1), .second, .val (.long q2), .second] [])) _
    refine XS.lloadN X0.here hx rfl (hb hby d1_0) rfl ?_
    show Steps p.tables e below (s₁.setTop (mkF m 1 #[.val (.long q1), .second, .val (.long q2), .second] [(.long q1)])) _
    refine X0.ldc2Long hx hown (mvT hZ (hw _ (List.mem_of_getElem? (i := 7) rfl))) (g := (mkF m 1 #[.val (.long q1), .second, .val (.long q2), .second] [(.long q1)])) rfl (hb hby d1_1) _ ?_
    show Steps p.tables e below (s₁.setTop (mkF m 4 #[.val (.long q1), .second, .val (.long q2), .second] [(.long (9223372036854775 : Int64)), (.long q1)])) _
    refine XS.lcmp X0.here hx rfl (hb hby d1_4) rfl ?_
    show Steps p.tables e below (s₁.setTop (mkF m 5 #[.val (.long q1), .second, .val (.long q2), .second] [(.int (lcmpW q1 (9223372036854775 : Int64)))])) _
    refine XS.ifYes X0.here hx rfl (pc0 := 5) (pc' := 22) rfl (hb hby d1_5) rfl ((if0 _ _).trans (flt (fun q => (h5) ((lw_gt _ _).mp q) : ¬ ((0 : Int32) < (lcmpW q1 (9223372036854775 : Int64))))).2.2.2) (by decide) (by decide) ?_
    show Steps p.tables e below (s₁.setTop (mkF m 22 #[.val (.long q1), .second, .val (.long q2), .second] [])) _
    refine XS.lloadN X0.here hx rfl (hb hby d1_22) rfl ?_
    show Steps p.tables e below (s₁.setTop (mkF m 23 #[.val (.long q1), .second, .val (.long q2), .second] [(.long q2)])) _
    refine X0.ldc2Long hx hown (mvT hZ (hw _ (List.mem_of_getElem? (i := 8) rfl))) (g := (mkF m 23 #[.val (.long q1), .second, .val (.long q2), .second] [(.long q2)])) rfl (hb hby d1_23) _ ?_
    show Steps p.tables e below (s₁.setTop (mkF m 26 #[.val (.long q1), .second, .val (.long q2), .second] [(.long (9223372036854775807 : Int64)), (.long q2)])) _
    refine XS.lcmp X0.here hx rfl (hb hby d1_26) rfl ?_
    show Steps p.tables e below (s₁.setTop (mkF m 27 #[.val (.long q1), .second, .val (.long q2), .second] [(.int (lcmpW q2 (9223372036854775807 : Int64)))])) _
    refine XS.ifYes X0.here hx rfl (pc0 := 27) (pc' := 40) rfl (hb hby d1_27) rfl ((if0 _ _).trans (feq (fun q => (h27) ((lw_eq _ _).mp q) : ¬ ((lcmpW q2 (9223372036854775807 : Int64)) = (0 : Int32)))).2) (by decide) (by decide) ?_
    show Steps p.tables e below (s₁.setTop (mkF m 40 #[.val (.long q1), .second, .val (.long q2), .second] [])) _
    refine XS.lloadN X0.here hx rfl (hb hby d1_40) rfl ?_
    show Steps p.tables e below (s₁.setTop (mkF m 41 #[.val (.long q1), .second, .val (.long q2), .second] [(.long q1)])) _
    refine X0.ldc2Long hx hown (mvT hZ (hw _ (List.mem_of_getElem? (i := 9) rfl))) (g := (mkF m 41 #[.val (.long q1), .second, .val (.long q2), .second] [(.long q1)])) rfl (hb hby d1_41) _ ?_
    show Steps p.tables e below (s₁.setTop (mkF m 44 #[.val (.long q1), .second, .val (.long q2), .second] [(.long (1000 : Int64)), (.long q1)])) _
    refine XS.lmul X0.here hx rfl (hb hby d1_44) rfl ?_
    show Steps p.tables e below (s₁.setTop (mkF m 45 #[.val (.long q1), .second, .val (.long q2), .second] [(.long (q1 * (1000 : Int64)))])) _
    refine XS.lloadN X0.here hx rfl (hb hby d1_45) rfl ?_
    show Steps p.tables e below (s₁.setTop (mkF m 46 #[.val (.long q1), .second, .val (.long q2), .second] [(.long q2), (.long (q1 * (1000 : Int64)))])) _
    refine XS.lconst X0.here hx rfl (hb hby d1_46) ?_
    show Steps p.tables e below (s₁.setTop (mkF m 47 #[.val (.long q1), .second, .val (.long q2), .second] [(.long (1 : Int64)), (.long q2), (.long (q1 * (1000 : Int64)))])) _
    refine XS.ladd X0.here hx rfl (hb hby d1_47) rfl ?_
    show Steps p.tables e below (s₁.setTop (mkF m 48 #[.val (.long q1), .second, .val (.long q2), .second] [(.long (q2 + (1 : Int64))), (.long (q1 * (1000 : Int64)))])) _
    refine st1 _ ?_
    show Steps p.tables e below (T1.setTop (mkF m 51 #[.val (.long q1), .second, .val (.long q2), .second] [(.long (own_max (q1 * (1000 : Int64)) (q2 + (1 : Int64))))])) _
    jvm_step X1.here [X1.here.top, hx, (hb hby d1_51), X1.method', Bd.returns, narrow]
    first | (intro acts; rw [hr _ acts rfl rfl rfl]) | rw [hr _ _ rfl rfl rfl]
    exact Steps.refl _
  · show Qown_next Z q1 q2 h0 n0 _ T1.heap _
    rw [e1]
    exact ⟨rfl, N1, rfl⟩
theorem pn_com_example_tributary_tributary_StampNextPinLaw : plainName "com/example/tributary/tributary/StampNextPinLaw" = true := by first | (simp [plainName, overriddenIn]; done) | decide +kernel
theorem ef_own_law (m : MethodId) (x0 : Int64) (x1 : Int64) (x2 : Int32) : entryFrame m #[(.long x0), (.long x1), (.int x2)] maxLocals = mkF m 0 #[.val (.long x0), .second, .val (.long x1), .second, .val (.int x2), .unset, .unset, .unset, .unset, .unset, .unset, .unset, .unset] [] := by first | (simp [entryFrame, mkF, argsToLocals, Value.category, maxLocals]; done) | rfl
def Qown_law (Z : State) (q1 : Int64) (q2 : Int64) (p3 : Int32) (h0 : Heap) (n0 : Nat) (v : Option Value) (h : Heap) (L : List Loc) : Prop := v = some (.int (1 : Int32)) ∧ Fr n0 L
set_option maxRecDepth 65536 in
set_option maxHeartbeats 40000000 in
theorem own_law (l : Launch) (Z : State) (a0 : Array Value) (hw : ∀ d ∈ tables_1, d.before a0 Z = true) (ws : List Jvm.Cond) (q1 : Int64) (q2 : Int64) (p3 : Int32) (h0 : Heap) (n0 : Nat) (Z0 : n0 ≤ h0.size) :
    MetFree l x (head1 (Jvm.Cond.code x code maxLocals ret :: ws) room_1) (fun a U => a = #[(.long q1), (.long q2), (.int p3)] ∧ Z.Warmed39 U.vm ∧ U.heap = h0) (fun _ _ _ _ _ => True) (fun _ U o U' => ∃ v L, o = .returned v ∧ Qown_law Z q1 q2 p3 h0 n0 v U'.heap L ∧ FrameEnd U o U' L room_1.cells room_1.slots) := by
  refine MetFree.of_bodySF (plainFor_of_name pn_com_example_tributary_tributary_StampNextPinLaw) hisR ?_
  intro p e s m args below meth c s₁ Bd hml0 hP hK
  obtain ⟨rfl, hZ, hh⟩ := hP
  have hx := Bd.exec
  have hby := Bd.bytes
  have hml : c.maxLocals = 13 := hml0
  have hown : s.vm.findClass "com/example/tributary/tributary/StampNextPinLaw" = some m.cls := findClass_of_methodNamed Bd.named
  have hnm := (name_of_methodNamed Bd.named Bd.method).1
  have X0 : Stand p l e room_1 s m #[(.long q1), (.long q2), (.int p3)] below meth c s₁ [] 0 0 := Stand.of_body Bd
  have e0 : s₁.heap = h0 := by rw [← hh, Bd.state]; rfl
  have N0 := Fr.nil n0
  have pre0 : ∀ t, Steps p.tables e below (s₁.setTop (mkF m 0 #[.val (.long q1), .second, .val (.long q2), .second, .val (.int p3), .unset, .unset, .unset, .unset, .unset, .unset, .unset, .unset] [])) t → Steps p.tables e below (s₁.setTop (entryFrame m #[(.long q1), (.long q2), (.int p3)] maxLocals)) t := fun t k => castTop (ef_own_law m (q1) (q2) (p3)) k
  have sg1 : ∀ target, Steps p.tables e below (s₁.setTop (mkF m 39 #[.val (.long q1), .second, .val (.long q2), .second, .val (.int p3), .val (.long (own_time q1)), .second, .val (.long ((own_time q1) * (1000 : Int64))), .second, .val (.long (own_p0 q1 q2 p3)), .second, .unset, .unset] [])) target → Steps p.tables e below (s₁.setTop (mkF m 22 #[.val (.long q1), .second, .val (.long q2), .second, .val (.int p3), .val (.long (own_time q1)), .second, .val (.long ((own_time q1) * (1000 : Int64))), .second, .val (.long q2), .second, .unset, .unset] [(.int (p3 &&& (1 : Int32)))])) target := by
    intro target kt
    by_cases hk : (p3 &&& (1 : Int32)) = (0 : Int32)
    · rw [show own_p0 q1 q2 p3 = q2 by simp [own_p0, hk]] at kt
      show Steps p.tables e below (s₁.setTop (mkF m 22 #[.val (.long q1), .second, .val (.long q2), .second, .val (.int p3), .val (.long (own_time q1)), .second, .val (.long ((own_time q1) * (1000 : Int64))), .second, .val (.long q2), .second, .unset, .unset] [(.int (p3 &&& (1 : Int32)))])) _
      refine XS.ifYes X0.here hx rfl (pc0 := 22) (pc' := 39) rfl (hb hby at_22) rfl ((if0 _ _).trans (teq (hk : (p3 &&& (1 : Int32)) = (0 : Int32))).1) (by decide) (by decide) ?_
      show Steps p.tables e below (s₁.setTop (mkF m 39 #[.val (.long q1), .second, .val (.long q2), .second, .val (.int p3), .val (.long (own_time q1)), .second, .val (.long ((own_time q1) * (1000 : Int64))), .second, .val (.long q2), .second, .unset, .unset] [])) _
      exact kt
    · rw [show own_p0 q1 q2 p3 = _ from if_neg hk] at kt
      show Steps p.tables e below (s₁.setTop (mkF m 22 #[.val (.long q1), .second, .val (.long q2), .second, .val (.int p3), .val (.long (own_time q1)), .second, .val (.long ((own_time q1) * (1000 : Int64))), .second, .val (.long q2), .second, .unset, .unset] [(.int (p3 &&& (1 : Int32)))])) _
      refine XS.ifNo X0.here hx rfl (hb hby at_22) rfl ((if0 _ _).trans (feq (hk : ¬ ((p3 &&& (1 : Int32)) = (0 : Int32)))).1) ?_
      show Steps p.tables e below (s₁.setTop (mkF m 25 #[.val (.long q1), .second, .val (.long q2), .second, .val (.int p3), .val (.long (own_time q1)), .second, .val (.long ((own_time q1) * (1000 : Int64))), .second, .val (.long q2), .second, .unset, .unset] [])) _
      refine XS.lload X0.here hx rfl (hb hby at_25) rfl ?_
      show Steps p.tables e below (s₁.setTop (mkF m 27 #[.val (.long q1), .second, .val (.long q2), .second, .val (.int p3), .val (.long (own_time q1)), .second, .val (.long ((own_time q1) * (1000 : Int64))), .second, .val (.long q2), .second, .unset, .unset] [(.long ((own_time q1) * (1000 : Int64)))])) _
      refine XS.iload X0.here hx rfl (hb hby at_27) rfl ?_
      show Steps p.tables e below (s₁.setTop (mkF m 29 #[.val (.long q1), .second, .val (.long q2), .second, .val (.int p3), .val (.long (own_time q1)), .second, .val (.long ((own_time q1) * (1000 : Int64))), .second, .val (.long q2), .second, .unset, .unset] [(.int p3), (.long ((own_time q1) * (1000 : Int64)))])) _
      refine XS.iconst X0.here hx rfl (hb hby at_29) ?_
      show Steps p.tables e below (s₁.setTop (mkF m 30 #[.val (.long q1), .second, .val (.long q2), .second, .val (.int p3), .val (.long (own_time q1)), .second, .val (.long ((own_time q1) * (1000 : Int64))), .second, .val (.long q2), .second, .unset, .unset] [(.int (1 : Int32)), (.int p3), (.long ((own_time q1) * (1000 : Int64)))])) _
      refine XS.iushr X0.here hx rfl (hb hby at_30) rfl ?_
      show Steps p.tables e below (s₁.setTop (mkF m 31 #[.val (.long q1), .second, .val (.long q2), .second, .val (.int p3), .val (.long (own_time q1)), .second, .val (.long ((own_time q1) * (1000 : Int64))), .second, .val (.long q2), .second, .unset, .unset] [(.int ((p3.toUInt32 >>> ((1 : Int32) &&& 31).toUInt32).toInt32)), (.long ((own_time q1) * (1000 : Int64)))])) _
      refine XS.iconst X0.here hx rfl (hb hby at_31) ?_
      show Steps p.tables e below (s₁.setTop (mkF m 32 #[.val (.long q1), .second, .val (.long q2), .second, .val (.int p3), .val (.long (own_time q1)), .second, .val (.long ((own_time q1) * (1000 : Int64))), .second, .val (.long q2), .second, .unset, .unset] [(.int (3 : Int32)), (.int ((p3.toUInt32 >>> ((1 : Int32) &&& 31).toUInt32).toInt32)), (.long ((own_time q1) * (1000 : Int64)))])) _
      refine iremM X0 hx rfl (hb hby at_32) rfl (by decide) ?_
      show Steps p.tables e below (s₁.setTop (mkF m 33 #[.val (.long q1), .second, .val (.long q2), .second, .val (.int p3), .val (.long (own_time q1)), .second, .val (.long ((own_time q1) * (1000 : Int64))), .second, .val (.long q2), .second, .unset, .unset] [(.int (((p3.toUInt32 >>> ((1 : Int32) &&& 31).toUInt32).toInt32) % (3 : Int32))), (.long ((own_time q1) * (1000 : Int64)))])) _
      refine XS.iconst X0.here hx rfl (hb hby at_33) ?_
      show Steps p.tables e below (s₁.setTop (mkF m 34 #[.val (.long q1), .second, .val (.long q2), .second, .val (.int p3), .val (.long (own_time q1)), .second, .val (.long ((own_time q1) * (1000 : Int64))), .second, .val (.long q2), .second, .unset, .unset] [(.int (1 : Int32)), (.int (((p3.toUInt32 >>> ((1 : Int32) &&& 31).toUInt32).toInt32) % (3 : Int32))), (.long ((own_time q1) * (1000 : Int64)))])) _
      refine XS.isub X0.here hx rfl (hb hby at_34) rfl ?_
      show Steps p.tables e below (s₁.setTop (mkF m 35 #[.val (.long q1), .second, .val (.long q2), .second, .val (.int p3), .val (.long (own_time q1)), .second, .val (.long ((own_time q1) * (1000 : Int64))), .second, .val (.long q2), .second, .unset, .unset] [(.int ((((p3.toUInt32 >>> ((1 : Int32) &&& 31).toUInt32).toInt32) % (3 : Int32)) - (1 : Int32))), (.long ((own_time q1) * (1000 : Int64)))])) _
      refine XS.i2l X0.here hx rfl (hb hby at_35) rfl ?_
      show Steps p.tables e below (s₁.setTop (mkF m 36 #[.val (.long q1), .second, .val (.long q2), .second, .val (.int p3), .val (.long (own_time q1)), .second, .val (.long ((own_time q1) * (1000 : Int64))), .second, .val (.long q2), .second, .unset, .unset] [(.long (((((p3.toUInt32 >>> ((1 : Int32) &&& 31).toUInt32).toInt32) % (3 : Int32)) - (1 : Int32)).toInt64)), (.long ((own_time q1) * (1000 : Int64)))])) _
      refine XS.ladd X0.here hx rfl (hb hby at_36) rfl ?_
      show Steps p.tables e below (s₁.setTop (mkF m 37 #[.val (.long q1), .second, .val (.long q2), .second, .val (.int p3), .val (.long (own_time q1)), .second, .val (.long ((own_time q1) * (1000 : Int64))), .second, .val (.long q2), .second, .unset, .unset] [(.long (((own_time q1) * (1000 : Int64)) + (((((p3.toUInt32 >>> ((1 : Int32) &&& 31).toUInt32).toInt32) % (3 : Int32)) - (1 : Int32)).toInt64)))])) _
      refine XS.lstore X0.here hx rfl (hb hby at_37) rfl (l' := #[.val (.long q1), .second, .val (.long q2), .second, .val (.int p3), .val (.long (own_time q1)), .second, .val (.long ((own_time q1) * (1000 : Int64))), .second, .val (.long (((own_time q1) * (1000 : Int64)) + (((((p3.toUInt32 >>> ((1 : Int32) &&& 31).toUInt32).toInt32) % (3 : Int32)) - (1 : Int32)).toInt64))), .second, .unset, .unset]) rfl ?_
      show Steps p.tables e below (s₁.setTop (mkF m 39 #[.val (.long q1), .second, .val (.long q2), .second, .val (.int p3), .val (.long (own_time q1)), .second, .val (.long ((own_time q1) * (1000 : Int64))), .second, .val (.long (((own_time q1) * (1000 : Int64)) + (((((p3.toUInt32 >>> ((1 : Int32) &&& 31).toUInt32).toInt32) % (3 : Int32)) - (1 : Int32)).toInt64))), .second, .unset, .unset] [])) _
      exact kt
  have sg2 : ∀ target, Steps p.tables e below (s₁.setTop (mkF m 53 #[.val (.long q1), .second, .val (.long q2), .second, .val (.int p3), .val (.long (own_time q1)), .second, .val (.long ((own_time q1) * (1000 : Int64))), .second, .val (.long (own_p (own_p0 q1 q2 p3))), .second, .unset, .unset] [])) target → Steps p.tables e below (s₁.setTop (mkF m 45 #[.val (.long q1), .second, .val (.long q2), .second, .val (.int p3), .val (.long (own_time q1)), .second, .val (.long ((own_time q1) * (1000 : Int64))), .second, .val (.long (own_p0 q1 q2 p3)), .second, .unset, .unset] [(.int (lcmpW (own_p0 q1 q2 p3) (9223372036854775807 : Int64)))])) target := by
    intro target kt
    by_cases hk : own_p0 q1 q2 p3 = (9223372036854775807 : Int64)
    · rw [show own_p (own_p0 q1 q2 p3) = _ from if_pos hk] at kt
      show Steps p.tables e below (s₁.setTop (mkF m 45 #[.val (.long q1), .second, .val (.long q2), .second, .val (.int p3), .val (.long (own_time q1)), .second, .val (.long ((own_time q1) * (1000 : Int64))), .second, .val (.long (own_p0 q1 q2 p3)), .second, .unset, .unset] [(.int (lcmpW (own_p0 q1 q2 p3) (9223372036854775807 : Int64)))])) _
      refine XS.ifNo X0.here hx rfl (hb hby at_45) rfl ((if0 _ _).trans (teq ((lw_eq _ _).mpr (hk) : (lcmpW (own_p0 q1 q2 p3) (9223372036854775807 : Int64)) = (0 : Int32))).2) ?_
      show Steps p.tables e below (s₁.setTop (mkF m 48 #[.val (.long q1), .second, .val (.long q2), .second, .val (.int p3), .val (.long (own_time q1)), .second, .val (.long ((own_time q1) * (1000 : Int64))), .second, .val (.long (own_p0 q1 q2 p3)), .second, .unset, .unset] [])) _
      refine X0.ldc2Long hx hown (mvT hZ (hw _ (List.mem_of_getElem? (i := 14) rfl))) (g := (mkF m 48 #[.val (.long q1), .second, .val (.long q2), .second, .val (.int p3), .val (.long (own_time q1)), .second, .val (.long ((own_time q1) * (1000 : Int64))), .second, .val (.long (own_p0 q1 q2 p3)), .second, .unset, .unset] [])) rfl (hb hby at_48) _ ?_
      show Steps p.tables e below (s₁.setTop (mkF m 51 #[.val (.long q1), .second, .val (.long q2), .second, .val (.int p3), .val (.long (own_time q1)), .second, .val (.long ((own_time q1) * (1000 : Int64))), .second, .val (.long (own_p0 q1 q2 p3)), .second, .unset, .unset] [(.long (9223372036854775806 : Int64))])) _
      refine XS.lstore X0.here hx rfl (hb hby at_51) rfl (l' := #[.val (.long q1), .second, .val (.long q2), .second, .val (.int p3), .val (.long (own_time q1)), .second, .val (.long ((own_time q1) * (1000 : Int64))), .second, .val (.long (9223372036854775806 : Int64)), .second, .unset, .unset]) rfl ?_
      show Steps p.tables e below (s₁.setTop (mkF m 53 #[.val (.long q1), .second, .val (.long q2), .second, .val (.int p3), .val (.long (own_time q1)), .second, .val (.long ((own_time q1) * (1000 : Int64))), .second, .val (.long (9223372036854775806 : Int64)), .second, .unset, .unset] [])) _
      exact kt
    · rw [show own_p (own_p0 q1 q2 p3) = _ from if_neg hk] at kt
      show Steps p.tables e below (s₁.setTop (mkF m 45 #[.val (.long q1), .second, .val (.long q2), .second, .val (.int p3), .val (.long (own_time q1)), .second, .val (.long ((own_time q1) * (1000 : Int64))), .second, .val (.long (own_p0 q1 q2 p3)), .second, .unset, .unset] [(.int (lcmpW (own_p0 q1 q2 p3) (9223372036854775807 : Int64)))])) _
      refine XS.ifYes X0.here hx rfl (pc0 := 45) (pc' := 53) rfl (hb hby at_45) rfl ((if0 _ _).trans (feq (fun q => (hk) ((lw_eq _ _).mp q) : ¬ ((lcmpW (own_p0 q1 q2 p3) (9223372036854775807 : Int64)) = (0 : Int32)))).2) (by decide) (by decide) ?_
      show Steps p.tables e below (s₁.setTop (mkF m 53 #[.val (.long q1), .second, .val (.long q2), .second, .val (.int p3), .val (.long (own_time q1)), .second, .val (.long ((own_time q1) * (1000 : Int64))), .second, .val (.long (own_p0 q1 q2 p3)), .second, .unset, .unset] [])) _
      exact kt
  obtain ⟨hc67, hc75, hc93⟩ := own_ar ((own_time q1) * (1000 : Int64)) (own_p (own_p0 q1 q2 p3)) (own_p_ne _)
  obtain ⟨_, _, ⟨T1, L1, k1, n1⟩, -, X1, ⟨Lc1, hQ1, l1, y1, z1⟩, st1⟩ := Jvm.LawKit.callS X0 hx (y := (⟨"com/example/tributary/tributary/Stamp", "next", "(JJ)J"⟩ : MethodName)) hown (mvT hZ (hw _ (List.mem_of_getElem? (i := 3) rfl))) (mvT hZ (hw _ (List.mem_of_getElem? (i := 4) rfl))) (mvT hZ (hw _ (List.mem_of_getElem? (i := 5) rfl))) (mvT hZ (hw _ (List.mem_of_getElem? (i := 6) rfl))) (by decide) (backOf (W := 0) (own_next l Z a0 hw [] (own_time q1) (own_p (own_p0 q1 q2 p3))  h0 n0 Z0 (own_time_le q1) (own_p_ne _)) hZ (hw _ (List.mem_of_getElem? (i := 6) rfl)) (hw _ (List.mem_of_getElem? (i := 5) rfl)) (by decide) (by decide)) (g := (mkF m 57 #[.val (.long q1), .second, .val (.long q2), .second, .val (.int p3), .val (.long (own_time q1)), .second, .val (.long ((own_time q1) * (1000 : Int64))), .second, .val (.long (own_p (own_p0 q1 q2 p3))), .second, .unset, .unset] [(.long (own_p (own_p0 q1 q2 p3))), (.long (own_time q1))])) rfl (by rw [hml]; rfl) (argsL := [(.long (own_time q1)), (.long (own_p (own_p0 q1 q2 p3)))]) (rest := []) (lenOf pd__JJ_J rfl) rfl (by show 2 * 0 + _ ≤ _; exact Nat.le_of_eq rfl) (hb hby at_57) (fun _ _ => ⟨rfl, e0, (by decide : 0 + 0 ≤ _), (by decide : 0 + 0 ≤ _)⟩)
  dsimp only [Pt.U, Pt.locs, Pt.cells, Pt.slots] at X1 l1 y1 z1 st1 hQ1
  subst l1 y1 z1
  obtain ⟨rfl, Nq1, e1⟩ := hQ1
  have N1 := Fr.app N0 Nq1
  by_cases hz : (own_max ((own_time q1) * (1000 : Int64)) ((own_p (own_p0 q1 q2 p3)) + (1 : Int64))) = ((own_time q1) * (1000 : Int64))
  · obtain ⟨fs, hr, hrun, hended, hW, hsame⟩ := X1.leave (v := some (.int (1 : Int32))) (fun h => by rw [Bd.returns] at h; cases h)
    refine ⟨_, _, pre0 _ ?_, hrun, hended, _, _, rfl, ?_, ⟨_, rfl⟩, hW, hsame.mono (by decide) (by decide)⟩
    · show Steps p.tables e below (s₁.setTop (mkF m 0 #[.val (.long q1), .second, .val (.long q2), .second, .val (.int p3), .unset, .unset, .unset, .unset, .unset, .unset, .unset, .unset] [])) _
      refine XS.lloadN X0.here hx rfl (hb hby at_0) rfl ?_
      show Steps p.tables e below (s₁.setTop (mkF m 1 #[.val (.long q1), .second, .val (.long q2), .second, .val (.int p3), .unset, .unset, .unset, .unset, .unset, .unset, .unset, .unset] [(.long q1)])) _
      refine X0.ldc2Long hx hown (mvT hZ (hw _ (List.mem_of_getElem? (i := 0) rfl))) (g := (mkF m 1 #[.val (.long q1), .second, .val (.long q2), .second, .val (.int p3), .unset, .unset, .unset, .unset, .unset, .unset, .unset, .unset] [(.long q1)])) rfl (hb hby at_1) _ ?_
      show Steps p.tables e below (s₁.setTop (mkF m 4 #[.val (.long q1), .second, .val (.long q2), .second, .val (.int p3), .unset, .unset, .unset, .unset, .unset, .unset, .unset, .unset] [(.long (9223372036854776 : Int64)), (.long q1)])) _
      refine XS.lrem X0.here hx rfl (hb hby at_4) rfl (by decide) ?_
      show Steps p.tables e below (s₁.setTop (mkF m 5 #[.val (.long q1), .second, .val (.long q2), .second, .val (.int p3), .unset, .unset, .unset, .unset, .unset, .unset, .unset, .unset] [(.long (own_time q1))])) _
      refine XS.lstore X0.here hx rfl (hb hby at_5) rfl (l' := #[.val (.long q1), .second, .val (.long q2), .second, .val (.int p3), .val (.long (own_time q1)), .second, .unset, .unset, .unset, .unset, .unset, .unset]) rfl ?_
      show Steps p.tables e below (s₁.setTop (mkF m 7 #[.val (.long q1), .second, .val (.long q2), .second, .val (.int p3), .val (.long (own_time q1)), .second, .unset, .unset, .unset, .unset, .unset, .unset] [])) _
      refine XS.lload X0.here hx rfl (hb hby at_7) rfl ?_
      show Steps p.tables e below (s₁.setTop (mkF m 9 #[.val (.long q1), .second, .val (.long q2), .second, .val (.int p3), .val (.long (own_time q1)), .second, .unset, .unset, .unset, .unset, .unset, .unset] [(.long (own_time q1))])) _
      refine X0.ldc2Long hx hown (mvT hZ (hw _ (List.mem_of_getElem? (i := 1) rfl))) (g := (mkF m 9 #[.val (.long q1), .second, .val (.long q2), .second, .val (.int p3), .val (.long (own_time q1)), .second, .unset, .unset, .unset, .unset, .unset, .unset] [(.long (own_time q1))])) rfl (hb hby at_9) _ ?_
      show Steps p.tables e below (s₁.setTop (mkF m 12 #[.val (.long q1), .second, .val (.long q2), .second, .val (.int p3), .val (.long (own_time q1)), .second, .unset, .unset, .unset, .unset, .unset, .unset] [(.long (1000 : Int64)), (.long (own_time q1))])) _
      refine XS.lmul X0.here hx rfl (hb hby at_12) rfl ?_
      show Steps p.tables e below (s₁.setTop (mkF m 13 #[.val (.long q1), .second, .val (.long q2), .second, .val (.int p3), .val (.long (own_time q1)), .second, .unset, .unset, .unset, .unset, .unset, .unset] [(.long ((own_time q1) * (1000 : Int64)))])) _
      refine XS.lstore X0.here hx rfl (hb hby at_13) rfl (l' := #[.val (.long q1), .second, .val (.long q2), .second, .val (.int p3), .val (.long (own_time q1)), .second, .val (.long ((own_time q1) * (1000 : Int64))), .second, .unset, .unset, .unset, .unset]) rfl ?_
      show Steps p.tables e below (s₁.setTop (mkF m 15 #[.val (.long q1), .second, .val (.long q2), .second, .val (.int p3), .val (.long (own_time q1)), .second, .val (.long ((own_time q1) * (1000 : Int64))), .second, .unset, .unset, .unset, .unset] [])) _
      refine XS.lloadN X0.here hx rfl (hb hby at_15) rfl ?_
      show Steps p.tables e below (s₁.setTop (mkF m 16 #[.val (.long q1), .second, .val (.long q2), .second, .val (.int p3), .val (.long (own_time q1)), .second, .val (.long ((own_time q1) * (1000 : Int64))), .second, .unset, .unset, .unset, .unset] [(.long q2)])) _
      refine XS.lstore X0.here hx rfl (hb hby at_16) rfl (l' := #[.val (.long q1), .second, .val (.long q2), .second, .val (.int p3), .val (.long (own_time q1)), .second, .val (.long ((own_time q1) * (1000 : Int64))), .second, .val (.long q2), .second, .unset, .unset]) rfl ?_
      show Steps p.tables e below (s₁.setTop (mkF m 18 #[.val (.long q1), .second, .val (.long q2), .second, .val (.int p3), .val (.long (own_time q1)), .second, .val (.long ((own_time q1) * (1000 : Int64))), .second, .val (.long q2), .second, .unset, .unset] [])) _
      refine XS.iload X0.here hx rfl (hb hby at_18) rfl ?_
      show Steps p.tables e below (s₁.setTop (mkF m 20 #[.val (.long q1), .second, .val (.long q2), .second, .val (.int p3), .val (.long (own_time q1)), .second, .val (.long ((own_time q1) * (1000 : Int64))), .second, .val (.long q2), .second, .unset, .unset] [(.int p3)])) _
      refine XS.iconst X0.here hx rfl (hb hby at_20) ?_
      show Steps p.tables e below (s₁.setTop (mkF m 21 #[.val (.long q1), .second, .val (.long q2), .second, .val (.int p3), .val (.long (own_time q1)), .second, .val (.long ((own_time q1) * (1000 : Int64))), .second, .val (.long q2), .second, .unset, .unset] [(.int (1 : Int32)), (.int p3)])) _
      refine XS.iand X0.here hx rfl (hb hby at_21) rfl ?_
      show Steps p.tables e below (s₁.setTop (mkF m 22 #[.val (.long q1), .second, .val (.long q2), .second, .val (.int p3), .val (.long (own_time q1)), .second, .val (.long ((own_time q1) * (1000 : Int64))), .second, .val (.long q2), .second, .unset, .unset] [(.int (p3 &&& (1 : Int32)))])) _
      refine sg1 _ ?_
      show Steps p.tables e below (s₁.setTop (mkF m 39 #[.val (.long q1), .second, .val (.long q2), .second, .val (.int p3), .val (.long (own_time q1)), .second, .val (.long ((own_time q1) * (1000 : Int64))), .second, .val (.long (own_p0 q1 q2 p3)), .second, .unset, .unset] [])) _
      refine XS.lload X0.here hx rfl (hb hby at_39) rfl ?_
      show Steps p.tables e below (s₁.setTop (mkF m 41 #[.val (.long q1), .second, .val (.long q2), .second, .val (.int p3), .val (.long (own_time q1)), .second, .val (.long ((own_time q1) * (1000 : Int64))), .second, .val (.long (own_p0 q1 q2 p3)), .second, .unset, .unset] [(.long (own_p0 q1 q2 p3))])) _
      refine X0.ldc2Long hx hown (mvT hZ (hw _ (List.mem_of_getElem? (i := 2) rfl))) (g := (mkF m 41 #[.val (.long q1), .second, .val (.long q2), .second, .val (.int p3), .val (.long (own_time q1)), .second, .val (.long ((own_time q1) * (1000 : Int64))), .second, .val (.long (own_p0 q1 q2 p3)), .second, .unset, .unset] [(.long (own_p0 q1 q2 p3))])) rfl (hb hby at_41) _ ?_
      show Steps p.tables e below (s₁.setTop (mkF m 44 #[.val (.long q1), .second, .val (.long q2), .second, .val (.int p3), .val (.long (own_time q1)), .second, .val (.long ((own_time q1) * (1000 : Int64))), .second, .val (.long (own_p0 q1 q2 p3)), .second, .unset, .unset] [(.long (9223372036854775807 : Int64)), (.long (own_p0 q1 q2 p3))])) _
      refine XS.lcmp X0.here hx rfl (hb hby at_44) rfl ?_
      show Steps p.tables e below (s₁.setTop (mkF m 45 #[.val (.long q1), .second, .val (.long q2), .second, .val (.int p3), .val (.long (own_time q1)), .second, .val (.long ((own_time q1) * (1000 : Int64))), .second, .val (.long (own_p0 q1 q2 p3)), .second, .unset, .unset] [(.int (lcmpW (own_p0 q1 q2 p3) (9223372036854775807 : Int64)))])) _
      refine sg2 _ ?_
      show Steps p.tables e below (s₁.setTop (mkF m 53 #[.val (.long q1), .second, .val (.long q2), .second, .val (.int p3), .val (.long (own_time q1)), .second, .val (.long ((own_time q1) * (1000 : Int64))), .second, .val (.long (own_p (own_p0 q1 q2 p3))), .second, .unset, .unset] [])) _
      refine XS.lload X0.here hx rfl (hb hby at_53) rfl ?_
      show Steps p.tables e below (s₁.setTop (mkF m 55 #[.val (.long q1), .second, .val (.long q2), .second, .val (.int p3), .val (.long (own_time q1)), .second, .val (.long ((own_time q1) * (1000 : Int64))), .second, .val (.long (own_p (own_p0 q1 q2 p3))), .second, .unset, .unset] [(.long (own_time q1))])) _
      refine XS.lload X0.here hx rfl (hb hby at_55) rfl ?_
      show Steps p.tables e below (s₁.setTop (mkF m 57 #[.val (.long q1), .second, .val (.long q2), .second, .val (.int p3), .val (.long (own_time q1)), .second, .val (.long ((own_time q1) * (1000 : Int64))), .second, .val (.long (own_p (own_p0 q1 q2 p3))), .second, .unset, .unset] [(.long (own_p (own_p0 q1 q2 p3))), (.long (own_time q1))])) _
      refine st1 _ ?_
      show Steps p.tables e below (T1.setTop (mkF m 60 #[.val (.long q1), .second, .val (.long q2), .second, .val (.int p3), .val (.long (own_time q1)), .second, .val (.long ((own_time q1) * (1000 : Int64))), .second, .val (.long (own_p (own_p0 q1 q2 p3))), .second, .unset, .unset] [(.long (own_max ((own_time q1) * (1000 : Int64)) ((own_p (own_p0 q1 q2 p3)) + (1 : Int64))))])) _
      refine XS.lstore X1.here hx rfl (hb hby at_60) rfl (l' := #[.val (.long q1), .second, .val (.long q2), .second, .val (.int p3), .val (.long (own_time q1)), .second, .val (.long ((own_time q1) * (1000 : Int64))), .second, .val (.long (own_p (own_p0 q1 q2 p3))), .second, .val (.long (own_max ((own_time q1) * (1000 : Int64)) ((own_p (own_p0 q1 q2 p3)) + (1 : Int64)))), .second]) rfl ?_
      show Steps p.tables e below (T1.setTop (mkF m 62 #[.val (.long q1), .second, .val (.long q2), .second, .val (.int p3), .val (.long (own_time q1)), .second, .val (.long ((own_time q1) * (1000 : Int64))), .second, .val (.long (own_p (own_p0 q1 q2 p3))), .second, .val (.long (own_max ((own_time q1) * (1000 : Int64)) ((own_p (own_p0 q1 q2 p3)) + (1 : Int64)))), .second] [])) _
      refine XS.lload X1.here hx rfl (hb hby at_62) rfl ?_
      show Steps p.tables e below (T1.setTop (mkF m 64 #[.val (.long q1), .second, .val (.long q2), .second, .val (.int p3), .val (.long (own_time q1)), .second, .val (.long ((own_time q1) * (1000 : Int64))), .second, .val (.long (own_p (own_p0 q1 q2 p3))), .second, .val (.long (own_max ((own_time q1) * (1000 : Int64)) ((own_p (own_p0 q1 q2 p3)) + (1 : Int64)))), .second] [(.long (own_max ((own_time q1) * (1000 : Int64)) ((own_p (own_p0 q1 q2 p3)) + (1 : Int64))))])) _
      refine XS.lload X1.here hx rfl (hb hby at_64) rfl ?_
      show Steps p.tables e below (T1.setTop (mkF m 66 #[.val (.long q1), .second, .val (.long q2), .second, .val (.int p3), .val (.long (own_time q1)), .second, .val (.long ((own_time q1) * (1000 : Int64))), .second, .val (.long (own_p (own_p0 q1 q2 p3))), .second, .val (.long (own_max ((own_time q1) * (1000 : Int64)) ((own_p (own_p0 q1 q2 p3)) + (1 : Int64)))), .second] [(.long ((own_time q1) * (1000 : Int64))), (.long (own_max ((own_time q1) * (1000 : Int64)) ((own_p (own_p0 q1 q2 p3)) + (1 : Int64))))])) _
      refine XS.lcmp X1.here hx rfl (hb hby at_66) rfl ?_
      show Steps p.tables e below (T1.setTop (mkF m 67 #[.val (.long q1), .second, .val (.long q2), .second, .val (.int p3), .val (.long (own_time q1)), .second, .val (.long ((own_time q1) * (1000 : Int64))), .second, .val (.long (own_p (own_p0 q1 q2 p3))), .second, .val (.long (own_max ((own_time q1) * (1000 : Int64)) ((own_p (own_p0 q1 q2 p3)) + (1 : Int64)))), .second] [(.int (lcmpW (own_max ((own_time q1) * (1000 : Int64)) ((own_p (own_p0 q1 q2 p3)) + (1 : Int64))) ((own_time q1) * (1000 : Int64))))])) _
      refine XS.ifNo X1.here hx rfl (hb hby at_67) rfl ((if0 _ _).trans (flt (fun q => (hc67) ((lw_lt _ _).mp q) : ¬ ((lcmpW (own_max ((own_time q1) * (1000 : Int64)) ((own_p (own_p0 q1 q2 p3)) + (1 : Int64))) ((own_time q1) * (1000 : Int64))) < (0 : Int32)))).1) ?_
      show Steps p.tables e below (T1.setTop (mkF m 70 #[.val (.long q1), .second, .val (.long q2), .second, .val (.int p3), .val (.long (own_time q1)), .second, .val (.long ((own_time q1) * (1000 : Int64))), .second, .val (.long (own_p (own_p0 q1 q2 p3))), .second, .val (.long (own_max ((own_time q1) * (1000 : Int64)) ((own_p (own_p0 q1 q2 p3)) + (1 : Int64)))), .second] [])) _
      refine XS.lload X1.here hx rfl (hb hby at_70) rfl ?_
      show Steps p.tables e below (T1.setTop (mkF m 72 #[.val (.long q1), .second, .val (.long q2), .second, .val (.int p3), .val (.long (own_time q1)), .second, .val (.long ((own_time q1) * (1000 : Int64))), .second, .val (.long (own_p (own_p0 q1 q2 p3))), .second, .val (.long (own_max ((own_time q1) * (1000 : Int64)) ((own_p (own_p0 q1 q2 p3)) + (1 : Int64)))), .second] [(.long (own_max ((own_time q1) * (1000 : Int64)) ((own_p (own_p0 q1 q2 p3)) + (1 : Int64))))])) _
      refine XS.lload X1.here hx rfl (hb hby at_72) rfl ?_
      show Steps p.tables e below (T1.setTop (mkF m 74 #[.val (.long q1), .second, .val (.long q2), .second, .val (.int p3), .val (.long (own_time q1)), .second, .val (.long ((own_time q1) * (1000 : Int64))), .second, .val (.long (own_p (own_p0 q1 q2 p3))), .second, .val (.long (own_max ((own_time q1) * (1000 : Int64)) ((own_p (own_p0 q1 q2 p3)) + (1 : Int64)))), .second] [(.long (own_p (own_p0 q1 q2 p3))), (.long (own_max ((own_time q1) * (1000 : Int64)) ((own_p (own_p0 q1 q2 p3)) + (1 : Int64))))])) _
      refine XS.lcmp X1.here hx rfl (hb hby at_74) rfl ?_
      show Steps p.tables e below (T1.setTop (mkF m 75 #[.val (.long q1), .second, .val (.long q2), .second, .val (.int p3), .val (.long (own_time q1)), .second, .val (.long ((own_time q1) * (1000 : Int64))), .second, .val (.long (own_p (own_p0 q1 q2 p3))), .second, .val (.long (own_max ((own_time q1) * (1000 : Int64)) ((own_p (own_p0 q1 q2 p3)) + (1 : Int64)))), .second] [(.int (lcmpW (own_max ((own_time q1) * (1000 : Int64)) ((own_p (own_p0 q1 q2 p3)) + (1 : Int64))) (own_p (own_p0 q1 q2 p3))))])) _
      refine XS.ifNo X1.here hx rfl (hb hby at_75) rfl ((if0 _ _).trans (tlt ((lw_gt _ _).mpr (hc75) : (0 : Int32) < (lcmpW (own_max ((own_time q1) * (1000 : Int64)) ((own_p (own_p0 q1 q2 p3)) + (1 : Int64))) (own_p (own_p0 q1 q2 p3))))).2.2.2) ?_
      show Steps p.tables e below (T1.setTop (mkF m 78 #[.val (.long q1), .second, .val (.long q2), .second, .val (.int p3), .val (.long (own_time q1)), .second, .val (.long ((own_time q1) * (1000 : Int64))), .second, .val (.long (own_p (own_p0 q1 q2 p3))), .second, .val (.long (own_max ((own_time q1) * (1000 : Int64)) ((own_p (own_p0 q1 q2 p3)) + (1 : Int64)))), .second] [])) _
      refine XS.lload X1.here hx rfl (hb hby at_78) rfl ?_
      show Steps p.tables e below (T1.setTop (mkF m 80 #[.val (.long q1), .second, .val (.long q2), .second, .val (.int p3), .val (.long (own_time q1)), .second, .val (.long ((own_time q1) * (1000 : Int64))), .second, .val (.long (own_p (own_p0 q1 q2 p3))), .second, .val (.long (own_max ((own_time q1) * (1000 : Int64)) ((own_p (own_p0 q1 q2 p3)) + (1 : Int64)))), .second] [(.long (own_max ((own_time q1) * (1000 : Int64)) ((own_p (own_p0 q1 q2 p3)) + (1 : Int64))))])) _
      refine XS.lload X1.here hx rfl (hb hby at_80) rfl ?_
      show Steps p.tables e below (T1.setTop (mkF m 82 #[.val (.long q1), .second, .val (.long q2), .second, .val (.int p3), .val (.long (own_time q1)), .second, .val (.long ((own_time q1) * (1000 : Int64))), .second, .val (.long (own_p (own_p0 q1 q2 p3))), .second, .val (.long (own_max ((own_time q1) * (1000 : Int64)) ((own_p (own_p0 q1 q2 p3)) + (1 : Int64)))), .second] [(.long ((own_time q1) * (1000 : Int64))), (.long (own_max ((own_time q1) * (1000 : Int64)) ((own_p (own_p0 q1 q2 p3)) + (1 : Int64))))])) _
      refine XS.lcmp X1.here hx rfl (hb hby at_82) rfl ?_
      show Steps p.tables e below (T1.setTop (mkF m 83 #[.val (.long q1), .second, .val (.long q2), .second, .val (.int p3), .val (.long (own_time q1)), .second, .val (.long ((own_time q1) * (1000 : Int64))), .second, .val (.long (own_p (own_p0 q1 q2 p3))), .second, .val (.long (own_max ((own_time q1) * (1000 : Int64)) ((own_p (own_p0 q1 q2 p3)) + (1 : Int64)))), .second] [(.int (lcmpW (own_max ((own_time q1) * (1000 : Int64)) ((own_p (own_p0 q1 q2 p3)) + (1 : Int64))) ((own_time q1) * (1000 : Int64))))])) _
      refine XS.ifYes X1.here hx rfl (pc0 := 83) (pc' := 96) rfl (hb hby at_83) rfl ((if0 _ _).trans (teq ((lw_eq _ _).mpr (hz) : (lcmpW (own_max ((own_time q1) * (1000 : Int64)) ((own_p (own_p0 q1 q2 p3)) + (1 : Int64))) ((own_time q1) * (1000 : Int64))) = (0 : Int32))).1) (by decide) (by decide) ?_
      show Steps p.tables e below (T1.setTop (mkF m 96 #[.val (.long q1), .second, .val (.long q2), .second, .val (.int p3), .val (.long (own_time q1)), .second, .val (.long ((own_time q1) * (1000 : Int64))), .second, .val (.long (own_p (own_p0 q1 q2 p3))), .second, .val (.long (own_max ((own_time q1) * (1000 : Int64)) ((own_p (own_p0 q1 q2 p3)) + (1 : Int64)))), .second] [])) _
      refine XS.iconst X1.here hx rfl (hb hby at_96) ?_
      show Steps p.tables e below (T1.setTop (mkF m 97 #[.val (.long q1), .second, .val (.long q2), .second, .val (.int p3), .val (.long (own_time q1)), .second, .val (.long ((own_time q1) * (1000 : Int64))), .second, .val (.long (own_p (own_p0 q1 q2 p3))), .second, .val (.long (own_max ((own_time q1) * (1000 : Int64)) ((own_p (own_p0 q1 q2 p3)) + (1 : Int64)))), .second] [(.int (1 : Int32))])) _
      refine XS.goto X1.here hx rfl (pc0 := 97) (pc' := 101) rfl (hb hby at_97) (by decide) (by decide) ?_
      show Steps p.tables e below (T1.setTop (mkF m 101 #[.val (.long q1), .second, .val (.long q2), .second, .val (.int p3), .val (.long (own_time q1)), .second, .val (.long ((own_time q1) * (1000 : Int64))), .second, .val (.long (own_p (own_p0 q1 q2 p3))), .second, .val (.long (own_max ((own_time q1) * (1000 : Int64)) ((own_p (own_p0 q1 q2 p3)) + (1 : Int64)))), .second] [(.int (1 : Int32))])) _
      exact retN X1 hx (t := .boolean) Bd.returns (by simp) (hb hby at_101) hr
    · show Qown_law Z q1 q2 p3 h0 n0 _ T1.heap _
      rw [e1]
      exact ⟨rfl, N1⟩
  · obtain ⟨fs, hr, hrun, hended, hW, hsame⟩ := X1.leave (v := some (.int (1 : Int32))) (fun h => by rw [Bd.returns] at h; cases h)
    refine ⟨_, _, pre0 _ ?_, hrun, hended, _, _, rfl, ?_, ⟨_, rfl⟩, hW, hsame.mono (by decide) (by decide)⟩
    · show Steps p.tables e below (s₁.setTop (mkF m 0 #[.val (.long q1), .second, .val (.long q2), .second, .val (.int p3), .unset, .unset, .unset, .unset, .unset, .unset, .unset, .unset] [])) _
      refine XS.lloadN X0.here hx rfl (hb hby at_0) rfl ?_
      show Steps p.tables e below (s₁.setTop (mkF m 1 #[.val (.long q1), .second, .val (.long q2), .second, .val (.int p3), .unset, .unset, .unset, .unset, .unset, .unset, .unset, .unset] [(.long q1)])) _
      refine X0.ldc2Long hx hown (mvT hZ (hw _ (List.mem_of_getElem? (i := 0) rfl))) (g := (mkF m 1 #[.val (.long q1), .second, .val (.long q2), .second, .val (.int p3), .unset, .unset, .unset, .unset, .unset, .unset, .unset, .unset] [(.long q1)])) rfl (hb hby at_1) _ ?_
      show Steps p.tables e below (s₁.setTop (mkF m 4 #[.val (.long q1), .second, .val (.long q2), .second, .val (.int p3), .unset, .unset, .unset, .unset, .unset, .unset, .unset, .unset] [(.long (9223372036854776 : Int64)), (.long q1)])) _
      refine XS.lrem X0.here hx rfl (hb hby at_4) rfl (by decide) ?_
      show Steps p.tables e below (s₁.setTop (mkF m 5 #[.val (.long q1), .second, .val (.long q2), .second, .val (.int p3), .unset, .unset, .unset, .unset, .unset, .unset, .unset, .unset] [(.long (own_time q1))])) _
      refine XS.lstore X0.here hx rfl (hb hby at_5) rfl (l' := #[.val (.long q1), .second, .val (.long q2), .second, .val (.int p3), .val (.long (own_time q1)), .second, .unset, .unset, .unset, .unset, .unset, .unset]) rfl ?_
      show Steps p.tables e below (s₁.setTop (mkF m 7 #[.val (.long q1), .second, .val (.long q2), .second, .val (.int p3), .val (.long (own_time q1)), .second, .unset, .unset, .unset, .unset, .unset, .unset] [])) _
      refine XS.lload X0.here hx rfl (hb hby at_7) rfl ?_
      show Steps p.tables e below (s₁.setTop (mkF m 9 #[.val (.long q1), .second, .val (.long q2), .second, .val (.int p3), .val (.long (own_time q1)), .second, .unset, .unset, .unset, .unset, .unset, .unset] [(.long (own_time q1))])) _
      refine X0.ldc2Long hx hown (mvT hZ (hw _ (List.mem_of_getElem? (i := 1) rfl))) (g := (mkF m 9 #[.val (.long q1), .second, .val (.long q2), .second, .val (.int p3), .val (.long (own_time q1)), .second, .unset, .unset, .unset, .unset, .unset, .unset] [(.long (own_time q1))])) rfl (hb hby at_9) _ ?_
      show Steps p.tables e below (s₁.setTop (mkF m 12 #[.val (.long q1), .second, .val (.long q2), .second, .val (.int p3), .val (.long (own_time q1)), .second, .unset, .unset, .unset, .unset, .unset, .unset] [(.long (1000 : Int64)), (.long (own_time q1))])) _
      refine XS.lmul X0.here hx rfl (hb hby at_12) rfl ?_
      show Steps p.tables e below (s₁.setTop (mkF m 13 #[.val (.long q1), .second, .val (.long q2), .second, .val (.int p3), .val (.long (own_time q1)), .second, .unset, .unset, .unset, .unset, .unset, .unset] [(.long ((own_time q1) * (1000 : Int64)))])) _
      refine XS.lstore X0.here hx rfl (hb hby at_13) rfl (l' := #[.val (.long q1), .second, .val (.long q2), .second, .val (.int p3), .val (.long (own_time q1)), .second, .val (.long ((own_time q1) * (1000 : Int64))), .second, .unset, .unset, .unset, .unset]) rfl ?_
      show Steps p.tables e below (s₁.setTop (mkF m 15 #[.val (.long q1), .second, .val (.long q2), .second, .val (.int p3), .val (.long (own_time q1)), .second, .val (.long ((own_time q1) * (1000 : Int64))), .second, .unset, .unset, .unset, .unset] [])) _
      refine XS.lloadN X0.here hx rfl (hb hby at_15) rfl ?_
      show Steps p.tables e below (s₁.setTop (mkF m 16 #[.val (.long q1), .second, .val (.long q2), .second, .val (.int p3), .val (.long (own_time q1)), .second, .val (.long ((own_time q1) * (1000 : Int64))), .second, .unset, .unset, .unset, .unset] [(.long q2)])) _
      refine XS.lstore X0.here hx rfl (hb hby at_16) rfl (l' := #[.val (.long q1), .second, .val (.long q2), .second, .val (.int p3), .val (.long (own_time q1)), .second, .val (.long ((own_time q1) * (1000 : Int64))), .second, .val (.long q2), .second, .unset, .unset]) rfl ?_
      show Steps p.tables e below (s₁.setTop (mkF m 18 #[.val (.long q1), .second, .val (.long q2), .second, .val (.int p3), .val (.long (own_time q1)), .second, .val (.long ((own_time q1) * (1000 : Int64))), .second, .val (.long q2), .second, .unset, .unset] [])) _
      refine XS.iload X0.here hx rfl (hb hby at_18) rfl ?_
      show Steps p.tables e below (s₁.setTop (mkF m 20 #[.val (.long q1), .second, .val (.long q2), .second, .val (.int p3), .val (.long (own_time q1)), .second, .val (.long ((own_time q1) * (1000 : Int64))), .second, .val (.long q2), .second, .unset, .unset] [(.int p3)])) _
      refine XS.iconst X0.here hx rfl (hb hby at_20) ?_
      show Steps p.tables e below (s₁.setTop (mkF m 21 #[.val (.long q1), .second, .val (.long q2), .second, .val (.int p3), .val (.long (own_time q1)), .second, .val (.long ((own_time q1) * (1000 : Int64))), .second, .val (.long q2), .second, .unset, .unset] [(.int (1 : Int32)), (.int p3)])) _
      refine XS.iand X0.here hx rfl (hb hby at_21) rfl ?_
      show Steps p.tables e below (s₁.setTop (mkF m 22 #[.val (.long q1), .second, .val (.long q2), .second, .val (.int p3), .val (.long (own_time q1)), .second, .val (.long ((own_time q1) * (1000 : Int64))), .second, .val (.long q2), .second, .unset, .unset] [(.int (p3 &&& (1 : Int32)))])) _
      refine sg1 _ ?_
      show Steps p.tables e below (s₁.setTop (mkF m 39 #[.val (.long q1), .second, .val (.long q2), .second, .val (.int p3), .val (.long (own_time q1)), .second, .val (.long ((own_time q1) * (1000 : Int64))), .second, .val (.long (own_p0 q1 q2 p3)), .second, .unset, .unset] [])) _
      refine XS.lload X0.here hx rfl (hb hby at_39) rfl ?_
      show Steps p.tables e below (s₁.setTop (mkF m 41 #[.val (.long q1), .second, .val (.long q2), .second, .val (.int p3), .val (.long (own_time q1)), .second, .val (.long ((own_time q1) * (1000 : Int64))), .second, .val (.long (own_p0 q1 q2 p3)), .second, .unset, .unset] [(.long (own_p0 q1 q2 p3))])) _
      refine X0.ldc2Long hx hown (mvT hZ (hw _ (List.mem_of_getElem? (i := 2) rfl))) (g := (mkF m 41 #[.val (.long q1), .second, .val (.long q2), .second, .val (.int p3), .val (.long (own_time q1)), .second, .val (.long ((own_time q1) * (1000 : Int64))), .second, .val (.long (own_p0 q1 q2 p3)), .second, .unset, .unset] [(.long (own_p0 q1 q2 p3))])) rfl (hb hby at_41) _ ?_
      show Steps p.tables e below (s₁.setTop (mkF m 44 #[.val (.long q1), .second, .val (.long q2), .second, .val (.int p3), .val (.long (own_time q1)), .second, .val (.long ((own_time q1) * (1000 : Int64))), .second, .val (.long (own_p0 q1 q2 p3)), .second, .unset, .unset] [(.long (9223372036854775807 : Int64)), (.long (own_p0 q1 q2 p3))])) _
      refine XS.lcmp X0.here hx rfl (hb hby at_44) rfl ?_
      show Steps p.tables e below (s₁.setTop (mkF m 45 #[.val (.long q1), .second, .val (.long q2), .second, .val (.int p3), .val (.long (own_time q1)), .second, .val (.long ((own_time q1) * (1000 : Int64))), .second, .val (.long (own_p0 q1 q2 p3)), .second, .unset, .unset] [(.int (lcmpW (own_p0 q1 q2 p3) (9223372036854775807 : Int64)))])) _
      refine sg2 _ ?_
      show Steps p.tables e below (s₁.setTop (mkF m 53 #[.val (.long q1), .second, .val (.long q2), .second, .val (.int p3), .val (.long (own_time q1)), .second, .val (.long ((own_time q1) * (1000 : Int64))), .second, .val (.long (own_p (own_p0 q1 q2 p3))), .second, .unset, .unset] [])) _
      refine XS.lload X0.here hx rfl (hb hby at_53) rfl ?_
      show Steps p.tables e below (s₁.setTop (mkF m 55 #[.val (.long q1), .second, .val (.long q2), .second, .val (.int p3), .val (.long (own_time q1)), .second, .val (.long ((own_time q1) * (1000 : Int64))), .second, .val (.long (own_p (own_p0 q1 q2 p3))), .second, .unset, .unset] [(.long (own_time q1))])) _
      refine XS.lload X0.here hx rfl (hb hby at_55) rfl ?_
      show Steps p.tables e below (s₁.setTop (mkF m 57 #[.val (.long q1), .second, .val (.long q2), .second, .val (.int p3), .val (.long (own_time q1)), .second, .val (.long ((own_time q1) * (1000 : Int64))), .second, .val (.long (own_p (own_p0 q1 q2 p3))), .second, .unset, .unset] [(.long (own_p (own_p0 q1 q2 p3))), (.long (own_time q1))])) _
      refine st1 _ ?_
      show Steps p.tables e below (T1.setTop (mkF m 60 #[.val (.long q1), .second, .val (.long q2), .second, .val (.int p3), .val (.long (own_time q1)), .second, .val (.long ((own_time q1) * (1000 : Int64))), .second, .val (.long (own_p (own_p0 q1 q2 p3))), .second, .unset, .unset] [(.long (own_max ((own_time q1) * (1000 : Int64)) ((own_p (own_p0 q1 q2 p3)) + (1 : Int64))))])) _
      refine XS.lstore X1.here hx rfl (hb hby at_60) rfl (l' := #[.val (.long q1), .second, .val (.long q2), .second, .val (.int p3), .val (.long (own_time q1)), .second, .val (.long ((own_time q1) * (1000 : Int64))), .second, .val (.long (own_p (own_p0 q1 q2 p3))), .second, .val (.long (own_max ((own_time q1) * (1000 : Int64)) ((own_p (own_p0 q1 q2 p3)) + (1 : Int64)))), .second]) rfl ?_
      show Steps p.tables e below (T1.setTop (mkF m 62 #[.val (.long q1), .second, .val (.long q2), .second, .val (.int p3), .val (.long (own_time q1)), .second, .val (.long ((own_time q1) * (1000 : Int64))), .second, .val (.long (own_p (own_p0 q1 q2 p3))), .second, .val (.long (own_max ((own_time q1) * (1000 : Int64)) ((own_p (own_p0 q1 q2 p3)) + (1 : Int64)))), .second] [])) _
      refine XS.lload X1.here hx rfl (hb hby at_62) rfl ?_
      show Steps p.tables e below (T1.setTop (mkF m 64 #[.val (.long q1), .second, .val (.long q2), .second, .val (.int p3), .val (.long (own_time q1)), .second, .val (.long ((own_time q1) * (1000 : Int64))), .second, .val (.long (own_p (own_p0 q1 q2 p3))), .second, .val (.long (own_max ((own_time q1) * (1000 : Int64)) ((own_p (own_p0 q1 q2 p3)) + (1 : Int64)))), .second] [(.long (own_max ((own_time q1) * (1000 : Int64)) ((own_p (own_p0 q1 q2 p3)) + (1 : Int64))))])) _
      refine XS.lload X1.here hx rfl (hb hby at_64) rfl ?_
      show Steps p.tables e below (T1.setTop (mkF m 66 #[.val (.long q1), .second, .val (.long q2), .second, .val (.int p3), .val (.long (own_time q1)), .second, .val (.long ((own_time q1) * (1000 : Int64))), .second, .val (.long (own_p (own_p0 q1 q2 p3))), .second, .val (.long (own_max ((own_time q1) * (1000 : Int64)) ((own_p (own_p0 q1 q2 p3)) + (1 : Int64)))), .second] [(.long ((own_time q1) * (1000 : Int64))), (.long (own_max ((own_time q1) * (1000 : Int64)) ((own_p (own_p0 q1 q2 p3)) + (1 : Int64))))])) _
      refine XS.lcmp X1.here hx rfl (hb hby at_66) rfl ?_
      show Steps p.tables e below (T1.setTop (mkF m 67 #[.val (.long q1), .second, .val (.long q2), .second, .val (.int p3), .val (.long (own_time q1)), .second, .val (.long ((own_time q1) * (1000 : Int64))), .second, .val (.long (own_p (own_p0 q1 q2 p3))), .second, .val (.long (own_max ((own_time q1) * (1000 : Int64)) ((own_p (own_p0 q1 q2 p3)) + (1 : Int64)))), .second] [(.int (lcmpW (own_max ((own_time q1) * (1000 : Int64)) ((own_p (own_p0 q1 q2 p3)) + (1 : Int64))) ((own_time q1) * (1000 : Int64))))])) _
      refine XS.ifNo X1.here hx rfl (hb hby at_67) rfl ((if0 _ _).trans (flt (fun q => (hc67) ((lw_lt _ _).mp q) : ¬ ((lcmpW (own_max ((own_time q1) * (1000 : Int64)) ((own_p (own_p0 q1 q2 p3)) + (1 : Int64))) ((own_time q1) * (1000 : Int64))) < (0 : Int32)))).1) ?_
      show Steps p.tables e below (T1.setTop (mkF m 70 #[.val (.long q1), .second, .val (.long q2), .second, .val (.int p3), .val (.long (own_time q1)), .second, .val (.long ((own_time q1) * (1000 : Int64))), .second, .val (.long (own_p (own_p0 q1 q2 p3))), .second, .val (.long (own_max ((own_time q1) * (1000 : Int64)) ((own_p (own_p0 q1 q2 p3)) + (1 : Int64)))), .second] [])) _
      refine XS.lload X1.here hx rfl (hb hby at_70) rfl ?_
      show Steps p.tables e below (T1.setTop (mkF m 72 #[.val (.long q1), .second, .val (.long q2), .second, .val (.int p3), .val (.long (own_time q1)), .second, .val (.long ((own_time q1) * (1000 : Int64))), .second, .val (.long (own_p (own_p0 q1 q2 p3))), .second, .val (.long (own_max ((own_time q1) * (1000 : Int64)) ((own_p (own_p0 q1 q2 p3)) + (1 : Int64)))), .second] [(.long (own_max ((own_time q1) * (1000 : Int64)) ((own_p (own_p0 q1 q2 p3)) + (1 : Int64))))])) _
      refine XS.lload X1.here hx rfl (hb hby at_72) rfl ?_
      show Steps p.tables e below (T1.setTop (mkF m 74 #[.val (.long q1), .second, .val (.long q2), .second, .val (.int p3), .val (.long (own_time q1)), .second, .val (.long ((own_time q1) * (1000 : Int64))), .second, .val (.long (own_p (own_p0 q1 q2 p3))), .second, .val (.long (own_max ((own_time q1) * (1000 : Int64)) ((own_p (own_p0 q1 q2 p3)) + (1 : Int64)))), .second] [(.long (own_p (own_p0 q1 q2 p3))), (.long (own_max ((own_time q1) * (1000 : Int64)) ((own_p (own_p0 q1 q2 p3)) + (1 : Int64))))])) _
      refine XS.lcmp X1.here hx rfl (hb hby at_74) rfl ?_
      show Steps p.tables e below (T1.setTop (mkF m 75 #[.val (.long q1), .second, .val (.long q2), .second, .val (.int p3), .val (.long (own_time q1)), .second, .val (.long ((own_time q1) * (1000 : Int64))), .second, .val (.long (own_p (own_p0 q1 q2 p3))), .second, .val (.long (own_max ((own_time q1) * (1000 : Int64)) ((own_p (own_p0 q1 q2 p3)) + (1 : Int64)))), .second] [(.int (lcmpW (own_max ((own_time q1) * (1000 : Int64)) ((own_p (own_p0 q1 q2 p3)) + (1 : Int64))) (own_p (own_p0 q1 q2 p3))))])) _
      refine XS.ifNo X1.here hx rfl (hb hby at_75) rfl ((if0 _ _).trans (tlt ((lw_gt _ _).mpr (hc75) : (0 : Int32) < (lcmpW (own_max ((own_time q1) * (1000 : Int64)) ((own_p (own_p0 q1 q2 p3)) + (1 : Int64))) (own_p (own_p0 q1 q2 p3))))).2.2.2) ?_
      show Steps p.tables e below (T1.setTop (mkF m 78 #[.val (.long q1), .second, .val (.long q2), .second, .val (.int p3), .val (.long (own_time q1)), .second, .val (.long ((own_time q1) * (1000 : Int64))), .second, .val (.long (own_p (own_p0 q1 q2 p3))), .second, .val (.long (own_max ((own_time q1) * (1000 : Int64)) ((own_p (own_p0 q1 q2 p3)) + (1 : Int64)))), .second] [])) _
      refine XS.lload X1.here hx rfl (hb hby at_78) rfl ?_
      show Steps p.tables e below (T1.setTop (mkF m 80 #[.val (.long q1), .second, .val (.long q2), .second, .val (.int p3), .val (.long (own_time q1)), .second, .val (.long ((own_time q1) * (1000 : Int64))), .second, .val (.long (own_p (own_p0 q1 q2 p3))), .second, .val (.long (own_max ((own_time q1) * (1000 : Int64)) ((own_p (own_p0 q1 q2 p3)) + (1 : Int64)))), .second] [(.long (own_max ((own_time q1) * (1000 : Int64)) ((own_p (own_p0 q1 q2 p3)) + (1 : Int64))))])) _
      refine XS.lload X1.here hx rfl (hb hby at_80) rfl ?_
      show Steps p.tables e below (T1.setTop (mkF m 82 #[.val (.long q1), .second, .val (.long q2), .second, .val (.int p3), .val (.long (own_time q1)), .second, .val (.long ((own_time q1) * (1000 : Int64))), .second, .val (.long (own_p (own_p0 q1 q2 p3))), .second, .val (.long (own_max ((own_time q1) * (1000 : Int64)) ((own_p (own_p0 q1 q2 p3)) + (1 : Int64)))), .second] [(.long ((own_time q1) * (1000 : Int64))), (.long (own_max ((own_time q1) * (1000 : Int64)) ((own_p (own_p0 q1 q2 p3)) + (1 : Int64))))])) _
      refine XS.lcmp X1.here hx rfl (hb hby at_82) rfl ?_
      show Steps p.tables e below (T1.setTop (mkF m 83 #[.val (.long q1), .second, .val (.long q2), .second, .val (.int p3), .val (.long (own_time q1)), .second, .val (.long ((own_time q1) * (1000 : Int64))), .second, .val (.long (own_p (own_p0 q1 q2 p3))), .second, .val (.long (own_max ((own_time q1) * (1000 : Int64)) ((own_p (own_p0 q1 q2 p3)) + (1 : Int64)))), .second] [(.int (lcmpW (own_max ((own_time q1) * (1000 : Int64)) ((own_p (own_p0 q1 q2 p3)) + (1 : Int64))) ((own_time q1) * (1000 : Int64))))])) _
      refine XS.ifNo X1.here hx rfl (hb hby at_83) rfl ((if0 _ _).trans (feq (fun q => (hz) ((lw_eq _ _).mp q) : ¬ ((lcmpW (own_max ((own_time q1) * (1000 : Int64)) ((own_p (own_p0 q1 q2 p3)) + (1 : Int64))) ((own_time q1) * (1000 : Int64))) = (0 : Int32)))).1) ?_
      show Steps p.tables e below (T1.setTop (mkF m 86 #[.val (.long q1), .second, .val (.long q2), .second, .val (.int p3), .val (.long (own_time q1)), .second, .val (.long ((own_time q1) * (1000 : Int64))), .second, .val (.long (own_p (own_p0 q1 q2 p3))), .second, .val (.long (own_max ((own_time q1) * (1000 : Int64)) ((own_p (own_p0 q1 q2 p3)) + (1 : Int64)))), .second] [])) _
      refine XS.lload X1.here hx rfl (hb hby at_86) rfl ?_
      show Steps p.tables e below (T1.setTop (mkF m 88 #[.val (.long q1), .second, .val (.long q2), .second, .val (.int p3), .val (.long (own_time q1)), .second, .val (.long ((own_time q1) * (1000 : Int64))), .second, .val (.long (own_p (own_p0 q1 q2 p3))), .second, .val (.long (own_max ((own_time q1) * (1000 : Int64)) ((own_p (own_p0 q1 q2 p3)) + (1 : Int64)))), .second] [(.long (own_max ((own_time q1) * (1000 : Int64)) ((own_p (own_p0 q1 q2 p3)) + (1 : Int64))))])) _
      refine XS.lload X1.here hx rfl (hb hby at_88) rfl ?_
      show Steps p.tables e below (T1.setTop (mkF m 90 #[.val (.long q1), .second, .val (.long q2), .second, .val (.int p3), .val (.long (own_time q1)), .second, .val (.long ((own_time q1) * (1000 : Int64))), .second, .val (.long (own_p (own_p0 q1 q2 p3))), .second, .val (.long (own_max ((own_time q1) * (1000 : Int64)) ((own_p (own_p0 q1 q2 p3)) + (1 : Int64)))), .second] [(.long (own_p (own_p0 q1 q2 p3))), (.long (own_max ((own_time q1) * (1000 : Int64)) ((own_p (own_p0 q1 q2 p3)) + (1 : Int64))))])) _
      refine XS.lconst X1.here hx rfl (hb hby at_90) ?_
      show Steps p.tables e below (T1.setTop (mkF m 91 #[.val (.long q1), .second, .val (.long q2), .second, .val (.int p3), .val (.long (own_time q1)), .second, .val (.long ((own_time q1) * (1000 : Int64))), .second, .val (.long (own_p (own_p0 q1 q2 p3))), .second, .val (.long (own_max ((own_time q1) * (1000 : Int64)) ((own_p (own_p0 q1 q2 p3)) + (1 : Int64)))), .second] [(.long (1 : Int64)), (.long (own_p (own_p0 q1 q2 p3))), (.long (own_max ((own_time q1) * (1000 : Int64)) ((own_p (own_p0 q1 q2 p3)) + (1 : Int64))))])) _
      refine XS.ladd X1.here hx rfl (hb hby at_91) rfl ?_
      show Steps p.tables e below (T1.setTop (mkF m 92 #[.val (.long q1), .second, .val (.long q2), .second, .val (.int p3), .val (.long (own_time q1)), .second, .val (.long ((own_time q1) * (1000 : Int64))), .second, .val (.long (own_p (own_p0 q1 q2 p3))), .second, .val (.long (own_max ((own_time q1) * (1000 : Int64)) ((own_p (own_p0 q1 q2 p3)) + (1 : Int64)))), .second] [(.long ((own_p (own_p0 q1 q2 p3)) + (1 : Int64))), (.long (own_max ((own_time q1) * (1000 : Int64)) ((own_p (own_p0 q1 q2 p3)) + (1 : Int64))))])) _
      refine XS.lcmp X1.here hx rfl (hb hby at_92) rfl ?_
      show Steps p.tables e below (T1.setTop (mkF m 93 #[.val (.long q1), .second, .val (.long q2), .second, .val (.int p3), .val (.long (own_time q1)), .second, .val (.long ((own_time q1) * (1000 : Int64))), .second, .val (.long (own_p (own_p0 q1 q2 p3))), .second, .val (.long (own_max ((own_time q1) * (1000 : Int64)) ((own_p (own_p0 q1 q2 p3)) + (1 : Int64)))), .second] [(.int (lcmpW (own_max ((own_time q1) * (1000 : Int64)) ((own_p (own_p0 q1 q2 p3)) + (1 : Int64))) ((own_p (own_p0 q1 q2 p3)) + (1 : Int64))))])) _
      refine XS.ifNo X1.here hx rfl (hb hby at_93) rfl ((if0 _ _).trans (teq ((lw_eq _ _).mpr (hc93 hz) : (lcmpW (own_max ((own_time q1) * (1000 : Int64)) ((own_p (own_p0 q1 q2 p3)) + (1 : Int64))) ((own_p (own_p0 q1 q2 p3)) + (1 : Int64))) = (0 : Int32))).2) ?_
      show Steps p.tables e below (T1.setTop (mkF m 96 #[.val (.long q1), .second, .val (.long q2), .second, .val (.int p3), .val (.long (own_time q1)), .second, .val (.long ((own_time q1) * (1000 : Int64))), .second, .val (.long (own_p (own_p0 q1 q2 p3))), .second, .val (.long (own_max ((own_time q1) * (1000 : Int64)) ((own_p (own_p0 q1 q2 p3)) + (1 : Int64)))), .second] [])) _
      refine XS.iconst X1.here hx rfl (hb hby at_96) ?_
      show Steps p.tables e below (T1.setTop (mkF m 97 #[.val (.long q1), .second, .val (.long q2), .second, .val (.int p3), .val (.long (own_time q1)), .second, .val (.long ((own_time q1) * (1000 : Int64))), .second, .val (.long (own_p (own_p0 q1 q2 p3))), .second, .val (.long (own_max ((own_time q1) * (1000 : Int64)) ((own_p (own_p0 q1 q2 p3)) + (1 : Int64)))), .second] [(.int (1 : Int32))])) _
      refine XS.goto X1.here hx rfl (pc0 := 97) (pc' := 101) rfl (hb hby at_97) (by decide) (by decide) ?_
      show Steps p.tables e below (T1.setTop (mkF m 101 #[.val (.long q1), .second, .val (.long q2), .second, .val (.int p3), .val (.long (own_time q1)), .second, .val (.long ((own_time q1) * (1000 : Int64))), .second, .val (.long (own_p (own_p0 q1 q2 p3))), .second, .val (.long (own_max ((own_time q1) * (1000 : Int64)) ((own_p (own_p0 q1 q2 p3)) + (1 : Int64)))), .second] [(.int (1 : Int32))])) _
      exact retN X1 hx (t := .boolean) Bd.returns (by simp) (hb hby at_101) hr
    · show Qown_law Z q1 q2 p3 h0 n0 _ T1.heap _
      rw [e1]
      exact ⟨rfl, N1⟩
set_option maxRecDepth 65536 in
set_option maxHeartbeats 40000000 in
theorem comes_1 {Post : Tables → Env → Array Value → State → Outcome → State → Prop} (hpost : ∀ tb e args s v u, (limb_1_1.after args s (.returned v) u = true ∧ limb_1_2.after args s (.returned v) u = true ∧ True) → FrameEnd s (.returned v) u (Jvm.fieldLocs frame_1_writes args s ++ Jvm.arrayLocs frame_1_arrays args s ++ Jvm.staticLocs frame_1_statics s) 0 0 → Post tb e args s (.returned v) u) :
    ArmFor flags0 classFile x code maxLocals ret World_1 tables_1 room_1 Calls_1 rest_1 Pre_1 Post := by
  intro l hfl _ _ p e ha hc hk s m args below hf hA hF happ hP
  obtain ⟨hcalls, hrest, hpre⟩ := hP
  obtain ⟨-, -, -, hnamed, -, -, -, hat⟩ := (Spec.applies_iff hf).mp happ
  obtain ⟨hg, hn⟩ := and_e (Cond.before_iff.mp (show (Jvm.Cond.and given_1 narrow_1).before args s = true from hpre))
  obtain ⟨g1, g2⟩ := and_e hg
  obtain ⟨g3, g4⟩ := and_e g2
  obtain ⟨g5, g6⟩ := and_e g4
  obtain ⟨w0, w1, w2, rfl⟩ : ∃ w0 w1 w2 : Value, args = #[w0, w1, w2] := by
    have hs : args.size = 3 := by simpa [Cond.value, given_1] using g1
    obtain ⟨L⟩ := args
    match L, hs with
    | [w0, w1, w2], _ => exact ⟨w0, w1, w2, rfl⟩
  have hw := fun d (hd : d ∈ tables_1) => atoms_spec (ws := Jvm.Cond.code x code maxLocals ret :: tables_1) hat d (List.mem_cons_of_mem _ hd)
  have hfit : Fit s := fun {y c} hc i hi => by
    obtain ⟨ha, rfl⟩ := Array.getElem?_eq_some_iff.mp hc
    have q := List.all_eq_true.mp ((Array.all_eq_true_iff_forall_mem.mp hF) _ (Array.getElem_mem ha)) i (List.mem_range.mpr hi)
    simpa [Array.getElem?_eq_getElem hi] using q
  obtain ⟨i0, ei0⟩ := isL_v g3
  obtain rfl : w0 = (.long i0) := Option.some.inj ei0
  obtain ⟨i1, ei1⟩ := isL_v g5
  obtain rfl : w1 = (.long i1) := Option.some.inj ei1
  obtain ⟨i2, ei2⟩ := is_v g6
  obtain rfl : w2 = (.int i2) := Option.some.inj ei2
  obtain ⟨n, o, h1, h2, h3, _, L, rfl, ⟨rfl, N⟩, hq⟩ := own_law l s _ hw tables_1 i0 i1 i2 s.heap s.heap.size (Nat.le_refl _)  p e ha hc hk s m _ below hf ((Spec.applies_iff_loose hf).mp happ).1 ⟨rfl, State.Warmed39.refl s, rfl⟩ trivial
  refine ⟨n, _, h1, h2, h3, hpost _ _ _ _ _ _ ⟨Cond.after_iff.mpr rfl, Cond.after_iff.mpr (eq_i res_at (Term.int_eval (1)) rfl), trivial⟩ ⟨hq.1, hq.2.1, (hq.2.2.sift fun y hy => Or.inr (N y hy)).mono (by decide) (by decide)⟩⟩
theorem main_1_1 : Claimed_1_1 := comes_1 fun _ _ _ _ _ _ h hF => ⟨h.1, hF⟩
theorem main_1_2 : Claimed_1_2 := comes_1 fun _ _ _ _ _ _ h hF => ⟨h.2.1, hF⟩
end Jvm.Pilot.@@N@@
namespace Jvm.Pilot.@@N@@
open Jvm Jvm.ClassFile Sem Op Lib Jvm.Free Jvm.Stand Jvm.Pilot.@@N@@.Jvm.D
/-! MADE BY PROGRAM (witnessworld.py) out of the Statement's table words and the real class files: 10 classes; the members and pool entries that the words name. The judged class is class 1, her method 1. -/
namespace start1
open Jvm.ClassFile
def u (s : String) : CpInfo := .utf8 (stringToUtf16 s)
/-- a pool by its gaps: so many unusable entries, then the entry; so many at the end -/
def gap : Nat → List CpInfo → List CpInfo
  | 0, r => r
  | n + 1, r => .unusable :: gap n r
def poolList (es : List (Nat × CpInfo)) (last : Nat) : List CpInfo := es.foldr (fun e r => gap e.1 (e.2 :: r)) (gap last [])
def pool (es : List (Nat × CpInfo)) (last : Nat) : Array CpInfo := ⟨poolList es last⟩
def fileOf (pool : Array CpInfo) (this : Nat) (attrs : Array Attribute := #[]) (ms : Array MethodInfo := #[]) (fl : Nat := 33) (sup : Nat := 0) (ifs : Array Nat := #[]) (fds : Array FieldInfo := #[]) : ClassFile where
  minorVersion := 0
  majorVersion := 65
  constantPool := pool
  accessFlags := fl
  thisClass := this
  superClass := sup
  interfaces := ifs
  fields := fds
  methods := ms
  attributes := attrs
def plain (name : String) (sup : Option ClassId) : Class where
  name := name
  kind := .ordinary
  loader := none
  accessFlags := 33
  super := sup
  interfaces := #[]
  cf := none
  fields := #[]
  methods := #[]
  instanceTypes := #[]
  staticTypes := #[]
  resolved := #[]
  callSites := []
  init := .initialized
  statics := none
  mirror := none

def pool0 : Array CpInfo := pool [(5, u "<init>"), (0, u "()V"), (1, .class_ 10), (1, u "java/lang/Object")] 113

def k0m0 : Method := { name := "<init>", desc := "()V", sig := { parameters := [], returnType := none }, accessFlags := 1, code := none }
/-- java/lang/Object -/
def k0 : Class := { plain "java/lang/Object" none with
  accessFlags := 33
  interfaces := #[]
  cf := some (fileOf pool0 8 #[] #[{ accessFlags := 1, nameIndex := 5, descriptorIndex := 6, attributes := #[] }] 33 0 #[] #[])
  fields := #[]
  methods := #[k0m0]
  instanceTypes := #[]
  staticTypes := #[]
  resolved := Array.replicate 124 none
  statics := none }

def pool1 : Array CpInfo := pool [(2, .class_ 4), (1, u "java/lang/Object"), (0, u "<init>"), (0, u "()V"), (0, .long 9223372036854776), (1, .long 1000), (3, .long 9223372036854775807), (1, .long 9223372036854775806), (1, .methodref 18 19), (0, .class_ 20), (0, .nameAndType 21 22), (0, u "com/example/tributary/tributary/Stamp"), (0, u "next"), (0, u "(JJ)J"), (0, .class_ 24), (0, u "com/example/tributary/tributary/StampNextPinLaw"), (2, u "law"), (0, u "(JJI)Z")] 3

def k1m0 : Method := { name := "<init>", desc := "()V", sig := { parameters := [], returnType := none }, accessFlags := 2, code := none }
def k1c1 : Code := { maxStack := 6, maxLocals := 13, code := code, exceptionTable := #[], attributes := #[] }
def k1m1 : Method := { name := "law", desc := "(JJI)Z", sig := { parameters := [.long, .long, .int], returnType := some .boolean }, accessFlags := 9, code := some k1c1 }
/-- com/example/tributary/tributary/StampNextPinLaw -/
def k1 : Class := { plain "com/example/tributary/tributary/StampNextPinLaw" (some 0) with
  accessFlags := 49
  interfaces := #[]
  cf := some (fileOf pool1 23 #[] #[{ accessFlags := 2, nameIndex := 5, descriptorIndex := 6, attributes := #[] }, { accessFlags := 9, nameIndex := 27, descriptorIndex := 28, attributes := #[] }] 49 2 #[] #[])
  fields := #[]
  methods := #[k1m0, k1m1]
  instanceTypes := #[]
  staticTypes := #[]
  resolved := Array.replicate 32 none
  statics := none }

def pool2 : Array CpInfo := pool [(2, .class_ 4), (1, u "java/lang/Object"), (0, u "<init>"), (0, u "()V"), (2, .long 9223372036854775), (10, .long 9223372036854775807), (3, .long 1000), (1, .methodref 27 28), (0, .class_ 29), (0, .nameAndType 30 31), (0, u "java/lang/Math"), (0, u "max"), (0, u "(JJ)J"), (0, .class_ 33), (0, u "com/example/tributary/tributary/Stamp"), (2, u "next")] 18

def k2m0 : Method := { name := "<init>", desc := "()V", sig := { parameters := [], returnType := none }, accessFlags := 2, code := none }
def k2c1 : Code := { maxStack := 6, maxLocals := 4, code := prog_39_method_2_code, exceptionTable := #[], attributes := #[] }
def k2m1 : Method := { name := "next", desc := "(JJ)J", sig := { parameters := [.long, .long], returnType := some .long }, accessFlags := 8, code := some k2c1 }
/-- com/example/tributary/tributary/Stamp -/
def k2 : Class := { plain "com/example/tributary/tributary/Stamp" (some 0) with
  accessFlags := 48
  interfaces := #[]
  cf := some (fileOf pool2 32 #[] #[{ accessFlags := 2, nameIndex := 5, descriptorIndex := 6, attributes := #[] }, { accessFlags := 8, nameIndex := 36, descriptorIndex := 31, attributes := #[] }] 48 2 #[] #[])
  fields := #[]
  methods := #[k2m0, k2m1]
  instanceTypes := #[]
  staticTypes := #[]
  resolved := Array.replicate 55 none
  statics := none }

def pool3 : Array CpInfo := pool [(1, .class_ 2), (0, u "java/lang/Math"), (1, .class_ 6), (1, u "java/lang/Object"), (0, u "<init>"), (0, u "()V"), (89, .class_ 100), (1, u "java/lang/Math$RandomNumberGeneratorHolder"), (20, u "(JJ)J"), (50, u "negativeZeroFloatBits"), (0, u "J"), (2, u "negativeZeroDoubleBits"), (21, u "max"), (46, u "$assertionsDisabled"), (0, u "Z"), (91, u "twoToTheDoubleScaleDown"), (0, u "D"), (4, u "twoToTheDoubleScaleUp"), (9, u "E"), (3, u "PI"), (2, u "TAU"), (2, u "DEGREES_TO_RADIANS"), (0, u "RADIANS_TO_DEGREES")] 94

def k3m0 : Method := { name := "<init>", desc := "()V", sig := { parameters := [], returnType := none }, accessFlags := 2, code := none }
def k3c1 : Code := { maxStack := 4, maxLocals := 4, code := jdk_29_method_66_code, exceptionTable := #[], attributes := #[] }
def k3m1 : Method := { name := "max", desc := "(JJ)J", sig := { parameters := [.long, .long], returnType := some .long }, accessFlags := 9, code := some k3c1 }
/-- java/lang/Math -/
def k3 : Class := { plain "java/lang/Math" (some 0) with
  accessFlags := 49
  interfaces := #[]
  cf := some (fileOf pool3 1 #[.nestMembers #[98]] #[{ accessFlags := 2, nameIndex := 7, descriptorIndex := 8, attributes := #[] }, { accessFlags := 9, nameIndex := 198, descriptorIndex := 121, attributes := #[] }] 49 4 #[] #[{ accessFlags := 25, nameIndex := 354, descriptorIndex := 339, attributes := #[] }, { accessFlags := 25, nameIndex := 358, descriptorIndex := 339, attributes := #[] }, { accessFlags := 25, nameIndex := 361, descriptorIndex := 339, attributes := #[] }, { accessFlags := 26, nameIndex := 364, descriptorIndex := 339, attributes := #[] }, { accessFlags := 26, nameIndex := 365, descriptorIndex := 339, attributes := #[] }, { accessFlags := 26, nameIndex := 172, descriptorIndex := 173, attributes := #[] }, { accessFlags := 26, nameIndex := 176, descriptorIndex := 173, attributes := #[] }, { accessFlags := 8, nameIndex := 344, descriptorIndex := 339, attributes := #[] }, { accessFlags := 8, nameIndex := 338, descriptorIndex := 339, attributes := #[] }, { accessFlags := 4120, nameIndex := 245, descriptorIndex := 246, attributes := #[] }])
  fields := #[{ name := "E", type := .double, accessFlags := 25, slot := 0, constantValue := 0 }, { name := "PI", type := .double, accessFlags := 25, slot := 1, constantValue := 0 }, { name := "TAU", type := .double, accessFlags := 25, slot := 2, constantValue := 0 }, { name := "DEGREES_TO_RADIANS", type := .double, accessFlags := 26, slot := 3, constantValue := 0 }, { name := "RADIANS_TO_DEGREES", type := .double, accessFlags := 26, slot := 4, constantValue := 0 }, { name := "negativeZeroFloatBits", type := .long, accessFlags := 26, slot := 5, constantValue := 0 }, { name := "negativeZeroDoubleBits", type := .long, accessFlags := 26, slot := 6, constantValue := 0 }, { name := "twoToTheDoubleScaleUp", type := .double, accessFlags := 8, slot := 7, constantValue := 0 }, { name := "twoToTheDoubleScaleDown", type := .double, accessFlags := 8, slot := 8, constantValue := 0 }, { name := "$assertionsDisabled", type := .boolean, accessFlags := 4120, slot := 9, constantValue := 0 }]
  methods := #[k3m0, k3m1]
  instanceTypes := #[]
  staticTypes := #[.double, .double, .double, .double, .double, .long, .long, .double, .double, .boolean]
  resolved := Array.replicate 460 none
  statics := none }

def pool4 : Array CpInfo := pool [(1, u "java/lang/Cloneable"), (0, .class_ 1), (0, u "java/lang/Object"), (0, .class_ 3)] 3

/-- java/lang/Cloneable -/
def k4 : Class := { plain "java/lang/Cloneable" (some 0) with
  accessFlags := 1537
  interfaces := #[]
  cf := some (fileOf pool4 2 #[] #[] 1537 4 #[] #[])
  fields := #[]
  methods := #[]
  instanceTypes := #[]
  staticTypes := #[]
  resolved := Array.replicate 8 none
  statics := none }

def pool5 : Array CpInfo := pool [(1, u "java/io/Serializable"), (0, .class_ 1), (0, u "java/lang/Object"), (0, .class_ 3)] 3

/-- java/io/Serializable -/
def k5 : Class := { plain "java/io/Serializable" (some 0) with
  accessFlags := 1537
  interfaces := #[]
  cf := some (fileOf pool5 2 #[] #[] 1537 4 #[] #[])
  fields := #[]
  methods := #[]
  instanceTypes := #[]
  staticTypes := #[]
  resolved := Array.replicate 8 none
  statics := none }

/-- the primitive byte -/
def k6 : Class := { plain "byte" none with kind := .primitive 'B', accessFlags := 0x411 }
/-- [B -/
def k7 : Class := { plain "[B" (some 0) with kind := .array 6 .byte, interfaces := #[4, 5], accessFlags := 1041 }

/-- the primitive int -/
def k8 : Class := { plain "int" none with kind := .primitive 'I', accessFlags := 0x411 }
/-- [I -/
def k9 : Class := { plain "[I" (some 0) with kind := .array 8 .int, interfaces := #[4, 5], accessFlags := 1041 }

def heap : Heap := #[]
def classes : Array Class := #[k0, k1, k2, k3, k4, k5, k6, k7, k8, k9]
def interned : List (Array UInt16 × Addr) := []
def slotsUsed : Nat := 0
def theMethod : MethodId := ⟨1, 1⟩
def args0 : Array Value := #[.long 5, .long 7, .int 3]
def aboutOver (below : List Frame) : State where
  vm := { classes := classes, interned := interned.toArray }
  heap := heap
  slotsUsed := slotsUsed
  threads := #[{ frames := .invoking theMethod args0 :: below }]
def below0 : List Frame := [.native { method := ⟨0, 0⟩, args := #[] }]
def about1 : State := aboutOver below0
def p0 : Program := .bare "" "" ""
def e0 : Env := launch0.env 0 0 0
theorem w_frames : about1.frames = Frame.invoking theMethod args0 :: below0 := rfl
set_option maxRecDepth 65536 in
theorem w_args : argsFit about1.vm theMethod args0 = true := by decide +kernel
set_option maxRecDepth 65536 in
theorem w_heap : heapFits about1 = true := by decide +kernel
set_option maxRecDepth 65536 in
theorem w_runnable : about1.curStatus? = some .runnable := by decide +kernel
set_option maxRecDepth 65536 in
theorem w_alone : about1.alone = true := by decide +kernel
set_option maxRecDepth 65536 in
theorem w_named : about1.methodNamed? x = some theMethod := by decide +kernel
set_option maxRecDepth 65536 in
theorem w_hears : about1.hears theMethod below0 = true := by decide +kernel
set_option maxRecDepth 65536 in
theorem w_ripe : about1.ripe theMethod args0 below0 = true := by decide +kernel
theorem w_running : about1.status = .running := rfl
set_option maxRecDepth 65536 in
theorem w_room : about1.hasRoom e0.platform room_1 = true :=
  launch0.hasRoom_least _ room_1 (by decide +kernel) (by decide +kernel) (by decide +kernel) (by decide +kernel) (by decide +kernel) (by decide +kernel)
theorem allAtoms_all (ts : List Jvm.Cond) (a : Array Jvm.Value) (st : Jvm.State) : (allAtoms ts).before a st = ts.all (fun c => c.before a st) := by
  induction ts with
  | nil => rfl
  | cons c t ih =>
    show (Jvm.Cond.and c (allAtoms t)).before a st = _
    rw [Jvm.Cond.before_and, ih, List.all_cons]
def words1 : List Jvm.Cond := Jvm.Cond.code x code maxLocals ret :: tables_1
/-- a 'code' word, met by the world's own term for the bytes: nothing is compared byte by byte -/
theorem code_word {y : MethodName} {bytes : ByteArray} {mx : Nat} {rt : Option FieldType} {a : Array Value} {s : State} {m : MethodId} {meth : Method} {c : Code} (h1 : s.methodNamed? y = some m) (h2 : s.vm.method? m = some meth) (h3 : meth.code = some c) (h4 : c.code = bytes)
    (h5 : (c.maxLocals == mx && c.exceptionTable.isEmpty && decide (c.maxStack ≤ mostOperands) && decide (meth.sig.returnType = rt) && !meth.locks && decide (parseMethodDescriptor y.desc = some meth.sig)) = true) : (Jvm.Cond.code y bytes mx rt).before a s = true := by
  simp only [Bool.and_eq_true, beq_iff_eq, Bool.not_eq_true', decide_eq_true_eq] at h5
  obtain ⟨⟨⟨⟨⟨g1, g2⟩, g3⟩, g4⟩, g5⟩, g6⟩ := h5
  simp [Cond.before, Cond.holds, Cond.value, h1, h2, h3, h4, g1, g2, g3, g4, g5, g6]
def isCode : Jvm.Cond → Bool
  | .code _ _ _ _ => true
  | _ => false
theorem all_split {L : List Jvm.Cond} {P : Jvm.Cond → Bool} (h1 : L.all (fun c => isCode c || P c) = true) (h2 : ∀ c ∈ L.filter isCode, P c = true) : L.all P = true := by
  refine List.all_eq_true.mpr fun c hc => ?_
  have h := List.all_eq_true.mp h1 c hc
  rcases Bool.eq_false_or_eq_true (isCode c) with hi | hi
  · exact h2 c (List.mem_filter.mpr ⟨hc, hi⟩)
  · simpa [hi] using h
set_option maxRecDepth 65536 in
theorem w_c0 : (Jvm.Cond.code x code maxLocals ret).before args0 about1 = true := code_word (m := ⟨1, 1⟩) (meth := k1m1) (c := k1c1) (by decide +kernel) rfl rfl rfl (by decide +kernel)
set_option maxRecDepth 65536 in
theorem w_c1 : (Jvm.Cond.code ({ cls := "com/example/tributary/tributary/Stamp", name := "next", desc := "(JJ)J" } : Jvm.MethodName) prog_39_method_2_code (4 : Nat) (Option.some Jvm.ClassFile.FieldType.long)).before args0 about1 = true := code_word (m := ⟨2, 1⟩) (meth := k2m1) (c := k2c1) (by decide +kernel) rfl rfl rfl (by decide +kernel)
set_option maxRecDepth 65536 in
theorem w_c2 : (Jvm.Cond.code ({ cls := "java/lang/Math", name := "max", desc := "(JJ)J" } : Jvm.MethodName) jdk_29_method_66_code (4 : Nat) (Option.some Jvm.ClassFile.FieldType.long)).before args0 about1 = true := code_word (m := ⟨3, 1⟩) (meth := k3m1) (c := k3c1) (by decide +kernel) rfl rfl rfl (by decide +kernel)
def codes1 : List Jvm.Cond := [Jvm.Cond.code x code maxLocals ret, Jvm.Cond.code ({ cls := "com/example/tributary/tributary/Stamp", name := "next", desc := "(JJ)J" } : Jvm.MethodName) prog_39_method_2_code (4 : Nat) (Option.some Jvm.ClassFile.FieldType.long), Jvm.Cond.code ({ cls := "java/lang/Math", name := "max", desc := "(JJ)J" } : Jvm.MethodName) jdk_29_method_66_code (4 : Nat) (Option.some Jvm.ClassFile.FieldType.long)]
set_option maxRecDepth 65536 in
theorem codes_eq : words1.filter isCode = codes1 := rfl
theorem w_codes : ∀ c ∈ words1.filter isCode, c.before args0 about1 = true := by
  rw [codes_eq]
  intro c hc
  simp only [codes1, List.mem_cons, List.not_mem_nil, or_false] at hc
  rcases hc with rfl | rfl | rfl
  · exact w_c0
  · exact w_c1
  · exact w_c2
set_option maxRecDepth 65536 in
theorem w_t1 : words1.all (fun c => isCode c || c.before args0 about1) = true := by decide +kernel
theorem w_tables : (allAtoms (Jvm.Cond.code x code maxLocals ret :: tables_1)).before args0 about1 = true := by
  rw [allAtoms_all]
  show words1.all (fun c => c.before args0 about1) = true
  refine all_split ?_ w_codes
  rw [w_t1]
set_option maxRecDepth 65536 in
theorem w_case : (Jvm.Cond.and given_1 narrow_1).before args0 about1 = true := by decide +kernel
theorem w_applies : (headSpec (Jvm.Cond.code x code maxLocals ret :: tables_1) room_1).applies x e0.platform about1 = true :=
  (Spec.applies_iff w_frames).mpr ⟨w_running, w_runnable, w_alone, w_named, w_hears, w_ripe, w_room, w_tables⟩
theorem atStart : AtStart classFile x code maxLocals ret World_1 tables_1 room_1 Calls_1 rest_1 Pre_1 launch0 p0 e0 about1 theMethod args0 below0 :=
  ⟨lists_1, trivial, launch0.admits_env _ _ _, launch0.least_env, fairChoices_fair.cas, fairChoices_fair.clock, w_frames, w_args, w_heap, w_applies, trivial, trivial, w_case⟩
end start1
theorem witness_1 : WitnessClaimed_1 := ⟨start1.p0, start1.e0, start1.about1, start1.theMethod, start1.args0, start1.below0, start1.atStart⟩
end Jvm.Pilot.@@N@@
